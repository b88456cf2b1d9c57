import JvmDerived
import JvmDerived.Pilot.@@N@@Statement
import JvmDerived.Pilot.@@N@@Code
set_option linter.unusedVariables false
set_option linter.unusedSimpArgs false
namespace Jvm.RoadKit
open Sem ClassFile Op Lib Jvm.Stand Jvm.Free Jvm.LawKit
section New
variable {p : Program} {l : Launch} {e : Env} {R : Room} {s : State} {m : MethodId} {args : Array Value} {below : List Frame} {meth : Method} {c : Code} {T : State} {locs : List Loc} {cells slots : Nat}
theorem retI (X : Stand p l e R s m args below meth c T locs cells slots) (hx : p.tables.exec = Jvm.exec) {pc : Nat} {Ls : Array Slot} {z : Int32} {rest : List Value} (hret : meth.sig.returnType = some .int) (hd : decode c.code pc = .ok (.ireturn, 1)) {fs : List Frame}
    (hl : ∀ (f : JFrame) (acts : List Action), f.method = m → f.locked = none → f.entered = [] → (doReturn e (T.setTop f) acts (some (.int z))).1 = T.setFrames fs) : Steps p.tables e below (T.setTop (mkF m pc Ls (.int z :: rest))) (T.setFrames fs) := by
  have hm' : T.vm.method? m = some meth := X.method'
  have hn : narrow .int (.int z) = .int z := rfl
  show Steps p.tables e below (T.setTop { method := m, pc := pc, locals := Ls, stack := _ :: rest, locked := none }) _
  jvm_step X.here [X.here.top, hx, hd, hm', hret, hn]
  first | (intro acts; rw [hl _ acts rfl rfl rfl]) | rw [hl _ _ rfl rfl rfl]
  exact Steps.refl _
end New
end Jvm.RoadKit
namespace Jvm.Pilot.@@N@@
open Jvm Jvm.ClassFile Sem Op Lib Jvm.Free Jvm.Stand Jvm.LawKit Jvm.RoadKit Bundle Jvm.Pilot.@@N@@.Jvm.D
def Far (Z : State) (h : Heap) (a : Addr) (ty : FieldType) (n : Int32) (f : Nat → Int32) : Prop := ∃ c : Cell, Arr Z h a c ty ∧ c.slots.size = n.toNatClampNeg ∧ ¬ n < 0 ∧ ∀ k, k < c.slots.size → c.slots[k]? = some (.int (f k))
section FarLaws
variable {Z : State} {h h' : Heap} {a b : Addr} {ty : FieldType} {n : Int32} {f g : Nat → Int32} {sl : Nat} {v : Value} {ws : List Addr}
theorem Far.lt (F : Far Z h a ty n f) : a < h.size := by obtain ⟨c, A, -⟩ := F; exact A.lt
theorem Far.ext (F : Far Z h a ty n f) (E : Ext h h') : Far Z h' a ty n f := by obtain ⟨c, A, r⟩ := F; exact ⟨c, A.ext E, r⟩
theorem Far.other (F : Far Z h b ty n f) (W : Wr h h' a sl v) (q : b ≠ a) : Far Z h' b ty n f := by obtain ⟨c, A, r⟩ := F; exact ⟨c, A.other W q, r⟩
theorem Far.keep (F : Far Z h a ty n f) (K : Keep h h' ws) (q : a ∉ ws) : Far Z h' a ty n f := by obtain ⟨c, A, r⟩ := F; exact ⟨c, ⟨K.2.1 a c A.1 q, A.2⟩, r⟩
theorem Far.new {k : ClassId} (A : Arr Z h a (newA k ty n) ty) (q : ¬ n < 0) (hd : defaultValue ty = .int 0) : Far Z h a ty n (fun _ => 0) := ⟨_, A, sz_new _ _ _, q, fun i hi => by
  rw [sz_new] at hi
  simp [newA, hi, hd]⟩
theorem Far.congr (F : Far Z h a ty n f) (q : ∀ k, k < n.toNatClampNeg → f k = g k) : Far Z h a ty n g := by
  obtain ⟨c, A, S, M, H⟩ := F
  exact ⟨c, A, S, M, fun k hk => by rw [← q k (S ▸ hk)]; exact H k hk⟩
theorem Far.set {c : Cell} {j x : Int32} (A : Arr Z h a c ty) (S : c.slots.size = n.toNatClampNeg) (M : ¬ n < 0) (H : ∀ k, k < c.slots.size → c.slots[k]? = some (.int (f k))) (W : Wr h h' a j.toNatClampNeg (.int x)) : Far Z h' a ty n (fun k => if k = j.toNatClampNeg then x else f k) := by
  refine ⟨c.setSlot j.toNatClampNeg (.int x), A.same W, by rw [sz_set]; exact S, M, fun k hk => ?_⟩
  rw [sz_set] at hk
  show _ = some (Value.int (if k = j.toNatClampNeg then x else f k))
  by_cases e : k = j.toNatClampNeg
  · rw [if_pos e]; subst e; exact Cell.slots_setSlot_self _ hk
  · rw [if_neg e, Cell.slots_setSlot_ne _ (Ne.symm e)]; exact H k hk
theorem own_at {c : Cell} {j : Int32} (H : ∀ k, k < c.slots.size → c.slots[k]? = some (.int (f k))) (hin : ¬ (j < 0 ∨ c.slots.size ≤ j.toNatClampNeg)) : c.slots[j.toNatClampNeg]? = some (.int (f j.toNatClampNeg)) := H _ (Nat.lt_of_not_le fun q => hin (Or.inr q))
end FarLaws
theorem own_lt (a b : Int32) : a < b ↔ a.toInt < b.toInt := Int32.lt_iff_toInt_lt
theorem own_irr (n : Int32) : ¬ n < n := by rw [own_lt]; omega
theorem own_nat (j : Int32) (h : 0 ≤ j.toInt) : (j.toNatClampNeg : Int) = j.toInt := Int.toNat_of_nonneg h
theorem ne_fairShares_pool {Z : State} {a0 : Array Value} (hw : ∀ d ∈ tables_1, d.before a0 Z = true) : Jvm.RoadKit.slotOf Z "com/example/quillfire/quillfire/AllocationPolicy" "fairShares" "[I" ≠ Jvm.RoadKit.slotOf Z "com/example/quillfire/quillfire/AllocationPolicy" "pool" "J" := slot_ne (Or.inl (hw _ (List.mem_of_getElem? (i := 33) rfl))) (Or.inl (hw _ (List.mem_of_getElem? (i := 35) rfl))) (by decide) (t := (.array .int)) (t' := .long) (by decide) (by decide)
theorem ne_fairShares_started {Z : State} {a0 : Array Value} (hw : ∀ d ∈ tables_1, d.before a0 Z = true) : Jvm.RoadKit.slotOf Z "com/example/quillfire/quillfire/AllocationPolicy" "fairShares" "[I" ≠ Jvm.RoadKit.slotOf Z "com/example/quillfire/quillfire/AllocationPolicy" "started" "Z" := slot_ne (Or.inl (hw _ (List.mem_of_getElem? (i := 33) rfl))) (Or.inl (hw _ (List.mem_of_getElem? (i := 37) rfl))) (by decide) (t := (.array .int)) (t' := .boolean) (by decide) (by decide)
theorem ne_pool_fairShares {Z : State} {a0 : Array Value} (hw : ∀ d ∈ tables_1, d.before a0 Z = true) : Jvm.RoadKit.slotOf Z "com/example/quillfire/quillfire/AllocationPolicy" "pool" "J" ≠ Jvm.RoadKit.slotOf Z "com/example/quillfire/quillfire/AllocationPolicy" "fairShares" "[I" := slot_ne (Or.inl (hw _ (List.mem_of_getElem? (i := 35) rfl))) (Or.inl (hw _ (List.mem_of_getElem? (i := 33) rfl))) (by decide) (t := .long) (t' := (.array .int)) (by decide) (by decide)
theorem ne_started_fairShares {Z : State} {a0 : Array Value} (hw : ∀ d ∈ tables_1, d.before a0 Z = true) : Jvm.RoadKit.slotOf Z "com/example/quillfire/quillfire/AllocationPolicy" "started" "Z" ≠ Jvm.RoadKit.slotOf Z "com/example/quillfire/quillfire/AllocationPolicy" "fairShares" "[I" := slot_ne (Or.inl (hw _ (List.mem_of_getElem? (i := 37) rfl))) (Or.inl (hw _ (List.mem_of_getElem? (i := 33) rfl))) (by decide) (t := .boolean) (t' := (.array .int)) (by decide) (by decide)
theorem ne_started_pool {Z : State} {a0 : Array Value} (hw : ∀ d ∈ tables_1, d.before a0 Z = true) : Jvm.RoadKit.slotOf Z "com/example/quillfire/quillfire/AllocationPolicy" "started" "Z" ≠ Jvm.RoadKit.slotOf Z "com/example/quillfire/quillfire/AllocationPolicy" "pool" "J" := slot_ne (Or.inl (hw _ (List.mem_of_getElem? (i := 37) rfl))) (Or.inl (hw _ (List.mem_of_getElem? (i := 35) rfl))) (by decide) (t := .boolean) (t' := .long) (by decide) (by decide)
theorem own_cap {n : Int32} (h0 : ¬ n < 0) (h : n.toInt ≤ 3) : n.toNatClampNeg ≤ 3 := by
  rw [own_lt] at h0
  have e : (0 : Int32).toInt = 0 := rfl
  have w := own_nat n (by omega)
  omega
theorem own_nin {x y : Addr} (h : x ≠ y) : x ∉ [y] := fun q => h (List.mem_singleton.mp q)
theorem d5_0 : decode prog_1_method_16_code 0 = .ok (.iload_n 0, 1) := by decide +kernel
theorem d5_1 : decode prog_1_method_16_code 1 = .ok (.ifCond .ge 17, 3) := by decide +kernel
theorem d5_18 : decode prog_1_method_16_code 18 = .ok (.return_, 1) := by decide +kernel
theorem pn_rmC : plainName "com/example/quillfire/quillfire/AllocationPolicy" = true := by first | (simp [plainName, overriddenIn]; done) | decide +kernel
theorem ef_rmC (m : MethodId) (p1 : Int32) : entryFrame m #[(.int p1)] 1 = (mkF m 0 #[.val (.int p1)] []) := by first | (simp [entryFrame, mkF, argsToLocals, Value.category]; done) | rfl
def Q_rmC (Z : State) (p1 : Int32)  (h0 : Heap) (n0 : Nat) (v : Option Value) (h : Heap) (L : List Loc) : Prop := v = none ∧ Fr n0 L ∧ h = h0
set_option maxRecDepth 65536 in
set_option maxHeartbeats 40000000 in
theorem rmC (l : Launch) (Z : State) (a0 : Array Value) (hw : ∀ d ∈ tables_1, d.before a0 Z = true) (ws : List Jvm.Cond) (p1 : Int32)  (h0 : Heap) (n0 : Nat) (Z0 : n0 ≤ h0.size) (hp : ¬ p1 < (0 : Int32)) :
    MetFree l (⟨"com/example/quillfire/quillfire/AllocationPolicy", "checkFairShare", "(I)V"⟩ : MethodName) (head1 (Jvm.Cond.code (⟨"com/example/quillfire/quillfire/AllocationPolicy", "checkFairShare", "(I)V"⟩ : MethodName) prog_1_method_16_code 1 none :: ws) ({ frames := 0, cells := 0, slots := 0, locals := 0 } : Room)) (fun a U => a = #[(.int p1)] ∧ Z.Warmed39 U.vm ∧ U.heap = h0) (fun _ _ _ _ _ => True) (fun _ U o U' => ∃ v L, o = .returned v ∧ Q_rmC Z p1 h0 n0 v U'.heap L ∧ FrameEnd U o U' L ({ frames := 0, cells := 0, slots := 0, locals := 0 } : Room).cells ({ frames := 0, cells := 0, slots := 0, locals := 0 } : Room).slots) := by
  refine MetFree.of_bodySF (plainFor_of_name pn_rmC) hisR ?_
  intro p e s m args below meth c s₁ Bd hml0 hP hK
  obtain ⟨rfl, hZ, hh⟩ := hP
  have hx := Bd.exec
  have hby := Bd.bytes
  have hml : c.maxLocals = 1 := hml0
  have hown : s.vm.findClass "com/example/quillfire/quillfire/AllocationPolicy" = some m.cls := findClass_of_methodNamed Bd.named
  have hnm := (name_of_methodNamed Bd.named Bd.method).1
  have X0 : Stand p l e ({ frames := 0, cells := 0, slots := 0, locals := 0 } : Room) s m #[(.int p1)] below meth c s₁ [] 0 0 := Stand.of_body Bd
  have e0 : s₁.heap = h0 := by rw [← hh, Bd.state]; rfl
  have N0 := Fr.nil n0
  have pre0 : Steps p.tables e below (s₁.setTop (entryFrame m #[(.int p1)] 1)) (s₁.setTop (mkF m 0 #[.val (.int p1)] [])) := castTop (ef_rmC m p1) (Steps.refl _)
  have pre1 : Steps p.tables e below _ (s₁.setTop (mkF m 18 #[.val (.int p1)] [])) := pre0.trans (by
    show Steps p.tables e below (s₁.setTop (mkF m 0 #[.val (.int p1)] [])) _
    refine XS.iloadN X0.here hx rfl (hb hby d5_0) rfl ?_
    show Steps p.tables e below (s₁.setTop (mkF m 1 #[.val (.int p1)] [(.int p1)])) _
    refine XS.ifYes X0.here hx rfl (pc0 := 1) (pc' := 18) rfl (hb hby d5_1) rfl ((if0 _ _).trans (flt hp).2.1) (by decide) (by decide) ?_
    exact Steps.refl _)
  obtain ⟨fs, hr, hrun, hended, hW, hsame⟩ := X0.leave (v := none) (fun h => by rfl)
  refine ⟨_, _, pre1.trans ?_, hrun, hended, _, _, rfl, ?_, ⟨_, rfl⟩, hW, hsame.mono (by decide) (by decide)⟩
  · exact X0.returnOut hx Bd.returns (hb hby d5_18) hr
  · exact ⟨rfl, N0, e0⟩
theorem d7_0 : decode prog_1_method_4_code 0 = .ok (.aload_n 0, 1) := by decide +kernel
theorem d7_1 : decode prog_1_method_4_code 1 = .ok (.getfield 31, 3) := by decide +kernel
theorem d7_4 : decode prog_1_method_4_code 4 = .ok (.arraylength, 1) := by decide +kernel
theorem d7_5 : decode prog_1_method_4_code 5 = .ok (.ireturn, 1) := by decide +kernel
theorem pn_rmU : plainName "com/example/quillfire/quillfire/AllocationPolicy" = true := by first | (simp [plainName, overriddenIn]; done) | decide +kernel
theorem ef_rmU (m : MethodId) (a1 : Addr) : entryFrame m #[(.ref a1)] 1 = (mkF m 0 #[.val (.ref a1)] []) := by first | (simp [entryFrame, mkF, argsToLocals, Value.category]; done) | rfl
def Q_rmU (Z : State) (a1 : Addr) (b : Addr) (n : Int32) (f : Nat → Int32) (h0 : Heap) (n0 : Nat) (v : Option Value) (h : Heap) (L : List Loc) : Prop := v = some (.int n) ∧ Fr n0 L ∧ h = h0
set_option maxRecDepth 65536 in
set_option maxHeartbeats 40000000 in
theorem rmU (l : Launch) (Z : State) (a0 : Array Value) (hw : ∀ d ∈ tables_1, d.before a0 Z = true) (ws : List Jvm.Cond) (a1 : Addr) (b : Addr) (n : Int32) (f : Nat → Int32) (h0 : Heap) (n0 : Nat) (Z0 : n0 ≤ h0.size) (F : Fld Z h0 a1 "com/example/quillfire/quillfire/AllocationPolicy" "fairShares" "[I" (.ref b)) (FB : Far Z h0 b .int n f) :
    MetFree l (⟨"com/example/quillfire/quillfire/AllocationPolicy", "users", "()I"⟩ : MethodName) (head1 (Jvm.Cond.code (⟨"com/example/quillfire/quillfire/AllocationPolicy", "users", "()I"⟩ : MethodName) prog_1_method_4_code 1 (some .int) :: ws) ({ frames := 0, cells := 0, slots := 0, locals := 0 } : Room)) (fun a U => a = #[(.ref a1)] ∧ Z.Warmed39 U.vm ∧ U.heap = h0) (fun _ _ _ _ _ => True) (fun _ U o U' => ∃ v L, o = .returned v ∧ Q_rmU Z a1 b n f h0 n0 v U'.heap L ∧ FrameEnd U o U' L ({ frames := 0, cells := 0, slots := 0, locals := 0 } : Room).cells ({ frames := 0, cells := 0, slots := 0, locals := 0 } : Room).slots) := by
  refine MetFree.of_bodySF (plainFor_of_name pn_rmU) hisR ?_
  intro p e s m args below meth c s₁ Bd hml0 hP hK
  obtain ⟨rfl, hZ, hh⟩ := hP
  have hx := Bd.exec
  have hby := Bd.bytes
  have hml : c.maxLocals = 1 := hml0
  have hown : s.vm.findClass "com/example/quillfire/quillfire/AllocationPolicy" = some m.cls := findClass_of_methodNamed Bd.named
  have hnm := (name_of_methodNamed Bd.named Bd.method).1
  have X0 : Stand p l e ({ frames := 0, cells := 0, slots := 0, locals := 0 } : Room) s m #[(.ref a1)] below meth c s₁ [] 0 0 := Stand.of_body Bd
  have e0 : s₁.heap = h0 := by rw [← hh, Bd.state]; rfl
  have N0 := Fr.nil n0
  have pre0 : Steps p.tables e below (s₁.setTop (entryFrame m #[(.ref a1)] 1)) (s₁.setTop (mkF m 0 #[.val (.ref a1)] [])) := castTop (ef_rmU m a1) (Steps.refl _)
  obtain ⟨cl, Ar, S, M, H⟩ := id FB
  have pre1 : Steps p.tables e below _ (s₁.setTop (mkF m 1 #[.val (.ref a1)] [(.ref a1)])) := pre0.trans (by
    show Steps p.tables e below (s₁.setTop (mkF m 0 #[.val (.ref a1)] [])) _
    refine XS.aloadN X0.here hx rfl (hb hby d7_0) rfl rfl ?_
    exact Steps.refl _)
  obtain ⟨T2, X2, e2, st2⟩ := getF X0 hx hZ hown (host := "") (Or.inl (hw _ (List.mem_of_getElem? (i := 32) rfl))) Via.refl e0 F (g := (mkF m 1 #[.val (.ref a1)] [(.ref a1)])) rfl rfl (hb hby d7_1)
  have pre2 : Steps p.tables e below _ (T2.setTop (mkF m 4 #[.val (.ref a1)] [(.ref b)])) := pre1.trans (st2 _ (Steps.refl _))
  have pre3 : Steps p.tables e below _ (T2.setTop (mkF m 5 #[.val (.ref a1)] [(.int n)])) := pre2.trans (by
    show Steps p.tables e below (T2.setTop (mkF m 4 #[.val (.ref a1)] [(.ref b)])) _
    refine X2.arraylength hx (by rw [e2]; exact Ar.1) (State.isArrayOf_alike hZ.alike Ar.2.1) (g := (mkF m 4 #[.val (.ref a1)] [(.ref b)])) rfl rfl (hb hby d7_4) _ ?_
    rw [len_of S M]
    exact Steps.refl _)
  obtain ⟨fs, hr, hrun, hended, hW, hsame⟩ := X2.leave (v := some (.int n)) (fun h => by rw [Bd.returns] at h; cases h)
  refine ⟨_, _, pre3.trans ?_, hrun, hended, _, _, rfl, ?_, ⟨_, rfl⟩, hW, hsame.mono (by decide) (by decide)⟩
  · exact retI X2 hx Bd.returns (hb hby d7_5) hr
  · exact ⟨rfl, N0, e2⟩
theorem d9_0 : decode prog_1_method_5_code 0 = .ok (.aload_n 0, 1) := by decide +kernel
theorem d9_1 : decode prog_1_method_5_code 1 = .ok (.getfield 31, 3) := by decide +kernel
theorem d9_4 : decode prog_1_method_5_code 4 = .ok (.iload_n 1, 1) := by decide +kernel
theorem d9_5 : decode prog_1_method_5_code 5 = .ok (.iaload, 1) := by decide +kernel
theorem d9_6 : decode prog_1_method_5_code 6 = .ok (.ireturn, 1) := by decide +kernel
theorem pn_rmH : plainName "com/example/quillfire/quillfire/AllocationPolicy" = true := by first | (simp [plainName, overriddenIn]; done) | decide +kernel
theorem ef_rmH (m : MethodId) (a1 : Addr) (p2 : Int32) : entryFrame m #[(.ref a1), (.int p2)] 2 = (mkF m 0 #[.val (.ref a1), .val (.int p2)] []) := by first | (simp [entryFrame, mkF, argsToLocals, Value.category]; done) | rfl
def Q_rmH (Z : State) (a1 : Addr) (p2 : Int32) (b : Addr) (n : Int32) (f : Nat → Int32) (h0 : Heap) (n0 : Nat) (v : Option Value) (h : Heap) (L : List Loc) : Prop := v = some (.int (f p2.toNatClampNeg)) ∧ Fr n0 L ∧ h = h0
set_option maxRecDepth 65536 in
set_option maxHeartbeats 40000000 in
theorem rmH (l : Launch) (Z : State) (a0 : Array Value) (hw : ∀ d ∈ tables_1, d.before a0 Z = true) (ws : List Jvm.Cond) (a1 : Addr) (p2 : Int32) (b : Addr) (n : Int32) (f : Nat → Int32) (h0 : Heap) (n0 : Nat) (Z0 : n0 ≤ h0.size) (F : Fld Z h0 a1 "com/example/quillfire/quillfire/AllocationPolicy" "fairShares" "[I" (.ref b)) (FB : Far Z h0 b .int n f) (h2 : ¬ p2 < 0 ∧ p2 < n) :
    MetFree l (⟨"com/example/quillfire/quillfire/AllocationPolicy", "fairShare", "(I)I"⟩ : MethodName) (head1 (Jvm.Cond.code (⟨"com/example/quillfire/quillfire/AllocationPolicy", "fairShare", "(I)I"⟩ : MethodName) prog_1_method_5_code 2 (some .int) :: ws) ({ frames := 0, cells := 0, slots := 0, locals := 0 } : Room)) (fun a U => a = #[(.ref a1), (.int p2)] ∧ Z.Warmed39 U.vm ∧ U.heap = h0) (fun _ _ _ _ _ => True) (fun _ U o U' => ∃ v L, o = .returned v ∧ Q_rmH Z a1 p2 b n f h0 n0 v U'.heap L ∧ FrameEnd U o U' L ({ frames := 0, cells := 0, slots := 0, locals := 0 } : Room).cells ({ frames := 0, cells := 0, slots := 0, locals := 0 } : Room).slots) := by
  refine MetFree.of_bodySF (plainFor_of_name pn_rmH) hisR ?_
  intro p e s m args below meth c s₁ Bd hml0 hP hK
  obtain ⟨rfl, hZ, hh⟩ := hP
  have hx := Bd.exec
  have hby := Bd.bytes
  have hml : c.maxLocals = 2 := hml0
  have hown : s.vm.findClass "com/example/quillfire/quillfire/AllocationPolicy" = some m.cls := findClass_of_methodNamed Bd.named
  have hnm := (name_of_methodNamed Bd.named Bd.method).1
  have X0 : Stand p l e ({ frames := 0, cells := 0, slots := 0, locals := 0 } : Room) s m #[(.ref a1), (.int p2)] below meth c s₁ [] 0 0 := Stand.of_body Bd
  have e0 : s₁.heap = h0 := by rw [← hh, Bd.state]; rfl
  have N0 := Fr.nil n0
  have pre0 : Steps p.tables e below (s₁.setTop (entryFrame m #[(.ref a1), (.int p2)] 2)) (s₁.setTop (mkF m 0 #[.val (.ref a1), .val (.int p2)] [])) := castTop (ef_rmH m a1 p2) (Steps.refl _)
  obtain ⟨cl, Ar, S, M, H⟩ := id FB
  have pre1 : Steps p.tables e below _ (s₁.setTop (mkF m 1 #[.val (.ref a1), .val (.int p2)] [(.ref a1)])) := pre0.trans (by
    show Steps p.tables e below (s₁.setTop (mkF m 0 #[.val (.ref a1), .val (.int p2)] [])) _
    refine XS.aloadN X0.here hx rfl (hb hby d9_0) rfl rfl ?_
    exact Steps.refl _)
  obtain ⟨T2, X2, e2, st2⟩ := getF X0 hx hZ hown (host := "") (Or.inl (hw _ (List.mem_of_getElem? (i := 32) rfl))) Via.refl e0 F (g := (mkF m 1 #[.val (.ref a1), .val (.int p2)] [(.ref a1)])) rfl rfl (hb hby d9_1)
  have pre2 : Steps p.tables e below _ (T2.setTop (mkF m 4 #[.val (.ref a1), .val (.int p2)] [(.ref b)])) := pre1.trans (st2 _ (Steps.refl _))
  have hin : ¬ (p2 < 0 ∨ cl.slots.size ≤ p2.toNatClampNeg) := inb_of S h2
  have pre3 : Steps p.tables e below _ (T2.setTop (mkF m 6 #[.val (.ref a1), .val (.int p2)] [(.int (f p2.toNatClampNeg))])) := pre2.trans (by
    show Steps p.tables e below (T2.setTop (mkF m 4 #[.val (.ref a1), .val (.int p2)] [(.ref b)])) _
    refine XS.iloadN X2.here hx rfl (hb hby d9_4) rfl ?_
    show Steps p.tables e below (T2.setTop (mkF m 5 #[.val (.ref a1), .val (.int p2)] [(.int p2), (.ref b)])) _
    refine X2.iaload hx (j := p2) (v := (.int (f p2.toNatClampNeg))) (by rw [e2]; exact Ar.1) (State.isArrayOf_alike hZ.alike Ar.2.1) Ar.2.2 hin (own_at H hin) (g := (mkF m 5 #[.val (.ref a1), .val (.int p2)] [(.int p2), (.ref b)])) rfl rfl (hb hby d9_5) _ ?_
    exact Steps.refl _)
  obtain ⟨fs, hr, hrun, hended, hW, hsame⟩ := X2.leave (v := some (.int (f p2.toNatClampNeg))) (fun h => by rw [Bd.returns] at h; cases h)
  refine ⟨_, _, pre3.trans ?_, hrun, hended, _, _, rfl, ?_, ⟨_, rfl⟩, hW, hsame.mono (by decide) (by decide)⟩
  · exact retI X2 hx Bd.returns (hb hby d9_6) hr
  · exact ⟨rfl, N0, e2⟩
theorem d3_0 : decode prog_1_method_2_code 0 = .ok (.aload_n 0, 1) := by decide +kernel
theorem d3_1 : decode prog_1_method_2_code 1 = .ok (.invokespecial 7, 3) := by decide +kernel
theorem d3_4 : decode prog_1_method_2_code 4 = .ok (.aload_n 2, 1) := by decide +kernel
theorem d3_5 : decode prog_1_method_2_code 5 = .ok (.ifnull 27, 3) := by decide +kernel
theorem d3_32 : decode prog_1_method_2_code 32 = .ok (.lconst 0, 1) := by decide +kernel
theorem d3_33 : decode prog_1_method_2_code 33 = .ok (.lstore_n 3, 1) := by decide +kernel
theorem d3_34 : decode prog_1_method_2_code 34 = .ok (.iconst 0, 1) := by decide +kernel
theorem d3_35 : decode prog_1_method_2_code 35 = .ok (.istore 5, 2) := by decide +kernel
theorem d3_37 : decode prog_1_method_2_code 37 = .ok (.iload 5, 2) := by decide +kernel
theorem d3_39 : decode prog_1_method_2_code 39 = .ok (.aload_n 1, 1) := by decide +kernel
theorem d3_40 : decode prog_1_method_2_code 40 = .ok (.arraylength, 1) := by decide +kernel
theorem d3_41 : decode prog_1_method_2_code 41 = .ok (.if_icmp .ge 35, 3) := by decide +kernel
theorem d3_44 : decode prog_1_method_2_code 44 = .ok (.aload_n 1, 1) := by decide +kernel
theorem d3_45 : decode prog_1_method_2_code 45 = .ok (.iload 5, 2) := by decide +kernel
theorem d3_47 : decode prog_1_method_2_code 47 = .ok (.iaload, 1) := by decide +kernel
theorem d3_48 : decode prog_1_method_2_code 48 = .ok (.invokestatic 21, 3) := by decide +kernel
theorem d3_51 : decode prog_1_method_2_code 51 = .ok (.aload_n 2, 1) := by decide +kernel
theorem d3_52 : decode prog_1_method_2_code 52 = .ok (.ifnull 10, 3) := by decide +kernel
theorem d3_62 : decode prog_1_method_2_code 62 = .ok (.lload_n 3, 1) := by decide +kernel
theorem d3_63 : decode prog_1_method_2_code 63 = .ok (.aload_n 1, 1) := by decide +kernel
theorem d3_64 : decode prog_1_method_2_code 64 = .ok (.iload 5, 2) := by decide +kernel
theorem d3_66 : decode prog_1_method_2_code 66 = .ok (.iaload, 1) := by decide +kernel
theorem d3_67 : decode prog_1_method_2_code 67 = .ok (.i2l, 1) := by decide +kernel
theorem d3_68 : decode prog_1_method_2_code 68 = .ok (.ladd, 1) := by decide +kernel
theorem d3_69 : decode prog_1_method_2_code 69 = .ok (.lstore_n 3, 1) := by decide +kernel
theorem d3_70 : decode prog_1_method_2_code 70 = .ok (.iinc 5 1, 3) := by decide +kernel
theorem d3_73 : decode prog_1_method_2_code 73 = .ok (.goto (-36), 3) := by decide +kernel
theorem d3_76 : decode prog_1_method_2_code 76 = .ok (.aload_n 0, 1) := by decide +kernel
theorem d3_77 : decode prog_1_method_2_code 77 = .ok (.aload_n 1, 1) := by decide +kernel
theorem d3_78 : decode prog_1_method_2_code 78 = .ok (.invokevirtual 25, 3) := by decide +kernel
theorem d3_81 : decode prog_1_method_2_code 81 = .ok (.checkcast 26, 3) := by decide +kernel
theorem d3_84 : decode prog_1_method_2_code 84 = .ok (.putfield 31, 3) := by decide +kernel
theorem d3_87 : decode prog_1_method_2_code 87 = .ok (.aload_n 0, 1) := by decide +kernel
theorem d3_88 : decode prog_1_method_2_code 88 = .ok (.lload_n 3, 1) := by decide +kernel
theorem d3_89 : decode prog_1_method_2_code 89 = .ok (.putfield 34, 3) := by decide +kernel
theorem d3_92 : decode prog_1_method_2_code 92 = .ok (.aload_n 0, 1) := by decide +kernel
theorem d3_93 : decode prog_1_method_2_code 93 = .ok (.aload_n 2, 1) := by decide +kernel
theorem d3_94 : decode prog_1_method_2_code 94 = .ok (.ifnull 7, 3) := by decide +kernel
theorem d3_101 : decode prog_1_method_2_code 101 = .ok (.iconst 0, 1) := by decide +kernel
theorem d3_102 : decode prog_1_method_2_code 102 = .ok (.putfield 38, 3) := by decide +kernel
theorem d3_105 : decode prog_1_method_2_code 105 = .ok (.return_, 1) := by decide +kernel
theorem pn_rmI2 : plainName "com/example/quillfire/quillfire/AllocationPolicy" = true := by first | (simp [plainName, overriddenIn]; done) | decide +kernel
theorem pd_rmI2_0 : parseMethodDescriptor "(I)V" = some ⟨[.int], none⟩ := by decide +kernel
theorem ef_rmI2 (m : MethodId) (a1 : Addr) (a2 : Addr) : entryFrame m #[(.ref a1), (.ref a2), .null] 6 = (mkF m 0 #[.val (.ref a1), .val (.ref a2), .val .null, .unset, .unset, .unset] []) := by first | (simp [entryFrame, mkF, argsToLocals, Value.category]; done) | rfl
def Q_rmI2 (Z : State) (a1 : Addr) (a2 : Addr) (n : Int32) (f : Nat → Int32) (h0 : Heap) (n0 : Nat) (v : Option Value) (h : Heap) (L : List Loc) : Prop := v = none ∧ Fr n0 L ∧ Keep h0 h [a1] ∧ Fld Z h a1 "com/example/quillfire/quillfire/AllocationPolicy" "fairShares" "[I" (.ref h0.size) ∧ Far Z h h0.size .int n f
set_option maxRecDepth 65536 in
set_option maxHeartbeats 40000000 in
theorem rmI2 (l : Launch) (Z : State) (a0 : Array Value) (hw : ∀ d ∈ tables_1, d.before a0 Z = true) (ws : List Jvm.Cond) (a1 : Addr) (a2 : Addr) (n : Int32) (f : Nat → Int32) (h0 : Heap) (n0 : Nat) (Z0 : n0 ≤ h0.size) (E : Exa Z h0 a1 "com/example/quillfire/quillfire/StaticPolicy") (F1 : Fld Z h0 a1 "com/example/quillfire/quillfire/AllocationPolicy" "fairShares" "[I" .null) (F2 : Fld Z h0 a1 "com/example/quillfire/quillfire/AllocationPolicy" "pool" "J" (.long (0 : Int64))) (F3 : Fld Z h0 a1 "com/example/quillfire/quillfire/AllocationPolicy" "started" "Z" (.int (0 : Int32))) (FS : Far Z h0 a2 .int n f) (EA : Exa Z h0 a2 "[I") (hn : n.toInt ≤ 3) (hf : ∀ k, k < n.toNatClampNeg → ¬ f k < (0 : Int32)) (g_a1 : n0 ≤ a1) :
    MetFree l (⟨"com/example/quillfire/quillfire/AllocationPolicy", "<init>", "([I[Z)V"⟩ : MethodName) (head1 (Jvm.Cond.code (⟨"com/example/quillfire/quillfire/AllocationPolicy", "<init>", "([I[Z)V"⟩ : MethodName) prog_1_method_2_code 6 none :: ws) ({ frames := 1, cells := 1, slots := 3, locals := 15 } : Room)) (fun a U => a = #[(.ref a1), (.ref a2), .null] ∧ Z.Warmed39 U.vm ∧ U.heap = h0) (fun _ _ _ _ _ => True) (fun _ U o U' => ∃ v L, o = .returned v ∧ Q_rmI2 Z a1 a2 n f h0 n0 v U'.heap L ∧ FrameEnd U o U' L ({ frames := 1, cells := 1, slots := 3, locals := 15 } : Room).cells ({ frames := 1, cells := 1, slots := 3, locals := 15 } : Room).slots) := by
  refine MetFree.of_bodySF (plainFor_of_name pn_rmI2) hisR ?_
  intro p e s m args below meth c s₁ Bd hml0 hP hK
  obtain ⟨rfl, hZ, hh⟩ := hP
  have hx := Bd.exec
  have hby := Bd.bytes
  have hml : c.maxLocals = 6 := hml0
  have hown : s.vm.findClass "com/example/quillfire/quillfire/AllocationPolicy" = some m.cls := findClass_of_methodNamed Bd.named
  have hnm := (name_of_methodNamed Bd.named Bd.method).1
  have X0 : Stand p l e ({ frames := 1, cells := 1, slots := 3, locals := 15 } : Room) s m #[(.ref a1), (.ref a2), .null] below meth c s₁ [] 0 0 := Stand.of_body Bd
  have e0 : s₁.heap = h0 := by rw [← hh, Bd.state]; rfl
  have N0 := Fr.nil n0
  have pre0 : Steps p.tables e below (s₁.setTop (entryFrame m #[(.ref a1), (.ref a2), .null] 6)) (s₁.setTop (mkF m 0 #[.val (.ref a1), .val (.ref a2), .val .null, .unset, .unset, .unset] [])) := castTop (ef_rmI2 m a1 a2) (Steps.refl _)
  obtain ⟨cl0, Ar0, S0, M0, H0⟩ := id FS
  have hn0 : 0 ≤ n.toInt := by have q := M0; rw [own_lt] at q; have e : (0 : Int32).toInt = 0 := rfl; omega
  have pre1 : Steps p.tables e below _ (s₁.setTop (mkF m 1 #[.val (.ref a1), .val (.ref a2), .val .null, .unset, .unset, .unset] [(.ref a1)])) := pre0.trans (by
    show Steps p.tables e below (s₁.setTop (mkF m 0 #[.val (.ref a1), .val (.ref a2), .val .null, .unset, .unset, .unset] [])) _
    refine XS.aloadN X0.here hx rfl (hb hby d3_0) rfl rfl ?_
    exact Steps.refl _)
  obtain ⟨T2, X2, e2, st2⟩ := initO X0 hx hZ hown (hw _ (List.mem_of_getElem? (i := 17) rfl)) (hw _ (List.mem_of_getElem? (i := 18) rfl)) (hw _ (List.mem_of_getElem? (i := 19) rfl)) e0 (g := (mkF m 1 #[.val (.ref a1), .val (.ref a2), .val .null, .unset, .unset, .unset] [(.ref a1)])) rfl (by rw [hml]; rfl) rfl (hb hby d3_1) (by decide) (W := 0) (by show 2 * 0 + _ ≤ _; exact Nat.le_of_eq rfl) (by decide)
  have pre2 : Steps p.tables e below _ (T2.setTop (mkF m 4 #[.val (.ref a1), .val (.ref a2), .val .null, .unset, .unset, .unset] [])) := pre1.trans (st2 _ (Steps.refl _))
  have pre3 : Steps p.tables e below _ (T2.setTop (mkF m 37 #[.val (.ref a1), .val (.ref a2), .val .null, .val (.long (0 : Int64)), .second, .val (.int (0 : Int32))] [])) := pre2.trans (by
    show Steps p.tables e below (T2.setTop (mkF m 4 #[.val (.ref a1), .val (.ref a2), .val .null, .unset, .unset, .unset] [])) _
    refine XS.aloadN X2.here hx rfl (hb hby d3_4) rfl rfl ?_
    show Steps p.tables e below (T2.setTop (mkF m 5 #[.val (.ref a1), .val (.ref a2), .val .null, .unset, .unset, .unset] [.null])) _
    refine XS.ifnullYes X2.here hx rfl (pc0 := 5) (pc' := 32) rfl (hb hby d3_5) rfl (by decide) (by decide) ?_
    show Steps p.tables e below (T2.setTop (mkF m 32 #[.val (.ref a1), .val (.ref a2), .val .null, .unset, .unset, .unset] [])) _
    refine XS.lconst X2.here hx rfl (hb hby d3_32) ?_
    show Steps p.tables e below (T2.setTop (mkF m 33 #[.val (.ref a1), .val (.ref a2), .val .null, .unset, .unset, .unset] [(.long (0 : Int64))])) _
    refine XS.lstoreN X2.here hx rfl (hb hby d3_33) rfl (l' := #[.val (.ref a1), .val (.ref a2), .val .null, .val (.long (0 : Int64)), .second, .unset]) rfl ?_
    show Steps p.tables e below (T2.setTop (mkF m 34 #[.val (.ref a1), .val (.ref a2), .val .null, .val (.long (0 : Int64)), .second, .unset] [])) _
    refine XS.iconst X2.here hx rfl (hb hby d3_34) ?_
    show Steps p.tables e below (T2.setTop (mkF m 35 #[.val (.ref a1), .val (.ref a2), .val .null, .val (.long (0 : Int64)), .second, .unset] [(.int (0 : Int32))])) _
    refine XS.istore X2.here hx rfl (hb hby d3_35) rfl (l' := #[.val (.ref a1), .val (.ref a2), .val .null, .val (.long (0 : Int64)), .second, .val (.int (0 : Int32))]) rfl ?_
    exact Steps.refl _)
  have loop : ∀ (k : Nat) (i : Int32) (sm : Int64) (T : State) (locs : List Loc), Stand p l e ({ frames := 1, cells := 1, slots := 3, locals := 15 } : Room) s m #[(.ref a1), (.ref a2), .null] below meth c T locs 0 0 → Fr n0 locs → T.heap = h0 → 0 ≤ i.toInt → i.toInt + k = n.toInt → ∃ (T' : State) (locs' : List Loc) (sm' : Int64), Stand p l e ({ frames := 1, cells := 1, slots := 3, locals := 15 } : Room) s m #[(.ref a1), (.ref a2), .null] below meth c T' locs' 0 0 ∧ Fr n0 locs' ∧ T'.heap = h0 ∧ Steps p.tables e below (T.setTop (mkF m 37 #[.val (.ref a1), .val (.ref a2), .val .null, .val (.long sm), .second, .val (.int i)] [])) (T'.setTop (mkF m 76 #[.val (.ref a1), .val (.ref a2), .val .null, .val (.long sm'), .second, .val (.int n)] [])) := by
    intro k
    induction k with
    | zero =>
      intro i sm T locs X Nf eT i0 ik
      have hi : n = i := Int32.toInt_inj.mp (by omega)
      subst hi
      have preL : Steps p.tables e below (T.setTop (mkF m 37 #[.val (.ref a1), .val (.ref a2), .val .null, .val (.long sm), .second, .val (.int n)] [])) (T.setTop (mkF m 37 #[.val (.ref a1), .val (.ref a2), .val .null, .val (.long sm), .second, .val (.int n)] [])) := Steps.refl _
      have pre4 : Steps p.tables e below _ (T.setTop (mkF m 76 #[.val (.ref a1), .val (.ref a2), .val .null, .val (.long sm), .second, .val (.int n)] [])) := preL.trans (by
        show Steps p.tables e below (T.setTop (mkF m 37 #[.val (.ref a1), .val (.ref a2), .val .null, .val (.long sm), .second, .val (.int n)] [])) _
        refine XS.iload X.here hx rfl (hb hby d3_37) rfl ?_
        show Steps p.tables e below (T.setTop (mkF m 39 #[.val (.ref a1), .val (.ref a2), .val .null, .val (.long sm), .second, .val (.int n)] [(.int n)])) _
        refine XS.aloadN X.here hx rfl (hb hby d3_39) rfl rfl ?_
        show Steps p.tables e below (T.setTop (mkF m 40 #[.val (.ref a1), .val (.ref a2), .val .null, .val (.long sm), .second, .val (.int n)] [(.ref a2), (.int n)])) _
        refine X.arraylength hx (by rw [eT]; exact Ar0.1) (State.isArrayOf_alike hZ.alike Ar0.2.1) (g := (mkF m 40 #[.val (.ref a1), .val (.ref a2), .val .null, .val (.long sm), .second, .val (.int n)] [(.ref a2), (.int n)])) rfl rfl (hb hby d3_40) _ ?_
        rw [len_of S0 M0]
        show Steps p.tables e below (T.setTop (mkF m 41 #[.val (.ref a1), .val (.ref a2), .val .null, .val (.long sm), .second, .val (.int n)] [(.int n), (.int n)])) _
        refine XS.icmpYes X.here hx rfl (pc0 := 41) (pc' := 76) rfl (hb hby d3_41) rfl (flt (own_irr n)).2.1 (by decide) (by decide) ?_
        exact Steps.refl _)
      exact ⟨T, locs, sm, X, Nf, eT, pre4⟩
    | succ k ih =>
      intro i sm T locs X Nf eT i0 ik
      have preL : Steps p.tables e below (T.setTop (mkF m 37 #[.val (.ref a1), .val (.ref a2), .val .null, .val (.long sm), .second, .val (.int i)] [])) (T.setTop (mkF m 37 #[.val (.ref a1), .val (.ref a2), .val .null, .val (.long sm), .second, .val (.int i)] [])) := Steps.refl _
      have hlt : i < n := by rw [own_lt]; omega
      have hge : ¬ i < 0 := by rw [own_lt]; have e : (0 : Int32).toInt = 0 := rfl; omega
      have hin : ¬ (i < 0 ∨ cl0.slots.size ≤ i.toNatClampNeg) := inb_of S0 ⟨hge, hlt⟩
      have hat := own_at H0 hin
      have hfi : ¬ f i.toNatClampNeg < (0 : Int32) := hf _ (by have w1 := own_nat i i0; have w2 := own_nat n hn0; omega)
      have pre5 : Steps p.tables e below _ (T.setTop (mkF m 48 #[.val (.ref a1), .val (.ref a2), .val .null, .val (.long sm), .second, .val (.int i)] [(.int (f i.toNatClampNeg))])) := preL.trans (by
        show Steps p.tables e below (T.setTop (mkF m 37 #[.val (.ref a1), .val (.ref a2), .val .null, .val (.long sm), .second, .val (.int i)] [])) _
        refine XS.iload X.here hx rfl (hb hby d3_37) rfl ?_
        show Steps p.tables e below (T.setTop (mkF m 39 #[.val (.ref a1), .val (.ref a2), .val .null, .val (.long sm), .second, .val (.int i)] [(.int i)])) _
        refine XS.aloadN X.here hx rfl (hb hby d3_39) rfl rfl ?_
        show Steps p.tables e below (T.setTop (mkF m 40 #[.val (.ref a1), .val (.ref a2), .val .null, .val (.long sm), .second, .val (.int i)] [(.ref a2), (.int i)])) _
        refine X.arraylength hx (by rw [eT]; exact Ar0.1) (State.isArrayOf_alike hZ.alike Ar0.2.1) (g := (mkF m 40 #[.val (.ref a1), .val (.ref a2), .val .null, .val (.long sm), .second, .val (.int i)] [(.ref a2), (.int i)])) rfl rfl (hb hby d3_40) _ ?_
        rw [len_of S0 M0]
        show Steps p.tables e below (T.setTop (mkF m 41 #[.val (.ref a1), .val (.ref a2), .val .null, .val (.long sm), .second, .val (.int i)] [(.int n), (.int i)])) _
        refine XS.icmpNo X.here hx rfl (hb hby d3_41) rfl (tlt hlt).2.1 ?_
        show Steps p.tables e below (T.setTop (mkF m 44 #[.val (.ref a1), .val (.ref a2), .val .null, .val (.long sm), .second, .val (.int i)] [])) _
        refine XS.aloadN X.here hx rfl (hb hby d3_44) rfl rfl ?_
        show Steps p.tables e below (T.setTop (mkF m 45 #[.val (.ref a1), .val (.ref a2), .val .null, .val (.long sm), .second, .val (.int i)] [(.ref a2)])) _
        refine XS.iload X.here hx rfl (hb hby d3_45) rfl ?_
        show Steps p.tables e below (T.setTop (mkF m 47 #[.val (.ref a1), .val (.ref a2), .val .null, .val (.long sm), .second, .val (.int i)] [(.int i), (.ref a2)])) _
        refine X.iaload hx (j := i) (v := (.int (f i.toNatClampNeg))) (by rw [eT]; exact Ar0.1) (State.isArrayOf_alike hZ.alike Ar0.2.1) Ar0.2.2 hin hat (g := (mkF m 47 #[.val (.ref a1), .val (.ref a2), .val .null, .val (.long sm), .second, .val (.int i)] [(.int i), (.ref a2)])) rfl rfl (hb hby d3_47) _ ?_
        exact Steps.refl _)
      obtain ⟨_, _, ⟨T6, L6, k6, n6⟩, -, X6, ⟨Lc6, hQ6, l6, y6, z6⟩, st6⟩ := Jvm.LawKit.callS X hx (y := (⟨"com/example/quillfire/quillfire/AllocationPolicy", "checkFairShare", "(I)V"⟩ : MethodName)) hown (mvT hZ (hw _ (List.mem_of_getElem? (i := 20) rfl))) (mvT hZ (hw _ (List.mem_of_getElem? (i := 21) rfl))) (mvT hZ (hw _ (List.mem_of_getElem? (i := 12) rfl))) (mvT hZ (hw _ (List.mem_of_getElem? (i := 22) rfl))) (by decide) (backOf (W := 0) (rmC l Z a0 hw [] (f i.toNatClampNeg) h0 n0 Z0 hfi) hZ (hw _ (List.mem_of_getElem? (i := 22) rfl)) (hw _ (List.mem_of_getElem? (i := 12) rfl)) (by decide) (by decide)) (g := (mkF m 48 #[.val (.ref a1), .val (.ref a2), .val .null, .val (.long sm), .second, .val (.int i)] [(.int (f i.toNatClampNeg))])) rfl (by rw [hml]; rfl) (argsL := [(.int (f i.toNatClampNeg))]) (rest := []) (lenOf pd_rmI2_0 rfl) rfl (by show 2 * 0 + _ ≤ _; exact Nat.le_of_eq rfl) (hb hby d3_48) (fun _ _ => ⟨rfl, eT, (by decide : 0 + 0 ≤ _), (by decide : 0 + 0 ≤ _)⟩)
      dsimp only [Pt.U, Pt.locs, Pt.cells, Pt.slots] at X6 l6 y6 z6 st6 hQ6
      subst l6 y6 z6
      obtain ⟨rfl, N6q, hh6⟩ := hQ6
      have N6 := Fr.app Nf N6q
      have pre6 : Steps p.tables e below _ (T6.setTop (mkF m 51 #[.val (.ref a1), .val (.ref a2), .val .null, .val (.long sm), .second, .val (.int i)] [])) := pre5.trans (st6 _ (Steps.refl _))
      have pre7 : Steps p.tables e below _ (T6.setTop (mkF m 37 #[.val (.ref a1), .val (.ref a2), .val .null, .val (.long (sm + ((f i.toNatClampNeg).toInt64))), .second, .val (.int (i + (1 : Int32)))] [])) := pre6.trans (by
        show Steps p.tables e below (T6.setTop (mkF m 51 #[.val (.ref a1), .val (.ref a2), .val .null, .val (.long sm), .second, .val (.int i)] [])) _
        refine XS.aloadN X6.here hx rfl (hb hby d3_51) rfl rfl ?_
        show Steps p.tables e below (T6.setTop (mkF m 52 #[.val (.ref a1), .val (.ref a2), .val .null, .val (.long sm), .second, .val (.int i)] [.null])) _
        refine XS.ifnullYes X6.here hx rfl (pc0 := 52) (pc' := 62) rfl (hb hby d3_52) rfl (by decide) (by decide) ?_
        show Steps p.tables e below (T6.setTop (mkF m 62 #[.val (.ref a1), .val (.ref a2), .val .null, .val (.long sm), .second, .val (.int i)] [])) _
        refine XS.lloadN X6.here hx rfl (hb hby d3_62) rfl ?_
        show Steps p.tables e below (T6.setTop (mkF m 63 #[.val (.ref a1), .val (.ref a2), .val .null, .val (.long sm), .second, .val (.int i)] [(.long sm)])) _
        refine XS.aloadN X6.here hx rfl (hb hby d3_63) rfl rfl ?_
        show Steps p.tables e below (T6.setTop (mkF m 64 #[.val (.ref a1), .val (.ref a2), .val .null, .val (.long sm), .second, .val (.int i)] [(.ref a2), (.long sm)])) _
        refine XS.iload X6.here hx rfl (hb hby d3_64) rfl ?_
        show Steps p.tables e below (T6.setTop (mkF m 66 #[.val (.ref a1), .val (.ref a2), .val .null, .val (.long sm), .second, .val (.int i)] [(.int i), (.ref a2), (.long sm)])) _
        refine X6.iaload hx (j := i) (v := (.int (f i.toNatClampNeg))) (by rw [hh6]; exact Ar0.1) (State.isArrayOf_alike hZ.alike Ar0.2.1) Ar0.2.2 hin hat (g := (mkF m 66 #[.val (.ref a1), .val (.ref a2), .val .null, .val (.long sm), .second, .val (.int i)] [(.int i), (.ref a2), (.long sm)])) rfl rfl (hb hby d3_66) _ ?_
        show Steps p.tables e below (T6.setTop (mkF m 67 #[.val (.ref a1), .val (.ref a2), .val .null, .val (.long sm), .second, .val (.int i)] [(.int (f i.toNatClampNeg)), (.long sm)])) _
        refine XS.i2l X6.here hx rfl (hb hby d3_67) rfl ?_
        show Steps p.tables e below (T6.setTop (mkF m 68 #[.val (.ref a1), .val (.ref a2), .val .null, .val (.long sm), .second, .val (.int i)] [(.long ((f i.toNatClampNeg).toInt64)), (.long sm)])) _
        refine XS.ladd X6.here hx rfl (hb hby d3_68) rfl ?_
        show Steps p.tables e below (T6.setTop (mkF m 69 #[.val (.ref a1), .val (.ref a2), .val .null, .val (.long sm), .second, .val (.int i)] [(.long (sm + ((f i.toNatClampNeg).toInt64)))])) _
        refine XS.lstoreN X6.here hx rfl (hb hby d3_69) rfl (l' := #[.val (.ref a1), .val (.ref a2), .val .null, .val (.long (sm + ((f i.toNatClampNeg).toInt64))), .second, .val (.int i)]) rfl ?_
        show Steps p.tables e below (T6.setTop (mkF m 70 #[.val (.ref a1), .val (.ref a2), .val .null, .val (.long (sm + ((f i.toNatClampNeg).toInt64))), .second, .val (.int i)] [])) _
        refine XS.iinc X6.here hx rfl (hb hby d3_70) rfl (l' := #[.val (.ref a1), .val (.ref a2), .val .null, .val (.long (sm + ((f i.toNatClampNeg).toInt64))), .second, .val (.int (i + (1 : Int32)))]) rfl ?_
        show Steps p.tables e below (T6.setTop (mkF m 73 #[.val (.ref a1), .val (.ref a2), .val .null, .val (.long (sm + ((f i.toNatClampNeg).toInt64))), .second, .val (.int (i + (1 : Int32)))] [])) _
        refine XS.goto X6.here hx rfl (pc0 := 73) (pc' := 37) rfl (hb hby d3_73) (by decide) (by decide) ?_
        exact Steps.refl _)
      have ei : (i + (1 : Int32)).toInt = i.toInt + 1 := by have q := c_iadd i 1; simp only [Int32.reduceToInt] at q; have := rng32 (i + 1); have := rng32 n; omega
      obtain ⟨T', locs', sm', X', N', e', st'⟩ := ih (i + (1 : Int32)) _ _ _ X6 N6 hh6 (by omega) (by omega)
      exact ⟨T', locs', sm', X', N', e', pre7.trans st'⟩
  obtain ⟨T9, l9, sm, X9, N9, e9, st9⟩ := loop n.toInt.toNat (0 : Int32) (0 : Int64) T2 [] X2 N0 e2 (by decide) (by rw [Int.toNat_of_nonneg hn0]; exact Int.zero_add _)
  have pre99 : Steps p.tables e below _ (T9.setTop (mkF m 76 #[.val (.ref a1), .val (.ref a2), .val .null, .val (.long sm), .second, .val (.int n)] [])) := pre3.trans st9
  have pre101 : Steps p.tables e below _ (T9.setTop (mkF m 78 #[.val (.ref a1), .val (.ref a2), .val .null, .val (.long sm), .second, .val (.int n)] [(.ref a2), (.ref a1)])) := pre99.trans (by
    show Steps p.tables e below (T9.setTop (mkF m 76 #[.val (.ref a1), .val (.ref a2), .val .null, .val (.long sm), .second, .val (.int n)] [])) _
    refine XS.aloadN X9.here hx rfl (hb hby d3_76) rfl rfl ?_
    show Steps p.tables e below (T9.setTop (mkF m 77 #[.val (.ref a1), .val (.ref a2), .val .null, .val (.long sm), .second, .val (.int n)] [(.ref a1)])) _
    refine XS.aloadN X9.here hx rfl (hb hby d3_77) rfl rfl ?_
    exact Steps.refl _)
  have FC : FitC Z cl0 := fitC_of Ar0 (fun i hi v hv => by rw [H0 i hi] at hv; cases hv; rfl)
  obtain ⟨T102, h102, X102, e102, E102, A102, EX102, st102⟩ := cloneA X9 hx hZ hown (hw _ (List.mem_of_getElem? (i := 23) rfl)) (hw _ (List.mem_of_getElem? (i := 24) rfl)) (hw _ (List.mem_of_getElem? (i := 28) rfl)) (hw _ (List.mem_of_getElem? (i := 26) rfl)) (hw _ (List.mem_of_getElem? (i := 27) rfl)) (hw _ (List.mem_of_getElem? (i := 29) rfl)) e9 Ar0 EA FC (g := (mkF m 78 #[.val (.ref a1), .val (.ref a2), .val .null, .val (.long sm), .second, .val (.int n)] [(.ref a2), (.ref a1)])) rfl (by rw [hml]; rfl) rfl (hb hby d3_78) (by decide) (W := 1) (cap := 3) (by show 2 * 0 + _ ≤ _; exact Nat.le_of_eq rfl) (by decide) (by rw [S0]; exact own_cap M0 hn) (by decide) (by decide)
  have FA : Far Z h102 h0.size .int n f := ⟨_, A102, S0, M0, H0⟩
  have nq : a1 ≠ h0.size := Nat.ne_of_lt E.lt
  have Z102 : n0 ≤ h102.size := Nat.le_trans Z0 E102.1
  have pre102 : Steps p.tables e below _ (T102.setTop (mkF m 81 #[.val (.ref a1), .val (.ref a2), .val .null, .val (.long sm), .second, .val (.int n)] [(.ref h0.size), (.ref a1)])) := pre101.trans (st102 _ (Steps.refl _))
  obtain ⟨T103, X103, e103, st103⟩ := castY X102 hx hZ hown (hw _ (List.mem_of_getElem? (i := 30) rfl)) e102 (Ins.self EX102) (g := (mkF m 81 #[.val (.ref a1), .val (.ref a2), .val .null, .val (.long sm), .second, .val (.int n)] [(.ref h0.size), (.ref a1)])) rfl rfl (hb hby d3_81)
  have pre103 : Steps p.tables e below _ (T103.setTop (mkF m 84 #[.val (.ref a1), .val (.ref a2), .val .null, .val (.long sm), .second, .val (.int n)] [(.ref h0.size), (.ref a1)])) := pre102.trans (st103 _ (Steps.refl _))
  obtain ⟨T104, h104, X104, e104, W104, st104⟩ := putF X103 hx hZ hown (host := "") (Or.inl (hw _ (List.mem_of_getElem? (i := 32) rfl))) Via.refl e103 (F1.ext E102) (E.ext E102) (Or.inl (hw _ (List.mem_of_getElem? (i := 33) rfl))) (hw _ (List.mem_of_getElem? (i := 4) rfl)) (ty := (.array .int)) (by decide) rfl rfl (g := (mkF m 84 #[.val (.ref a1), .val (.ref a2), .val .null, .val (.long sm), .second, .val (.int n)] [(.ref h0.size), (.ref a1)])) rfl rfl (hb hby d3_84)
  have N104 := Fr.snoc X104 N9 g_a1
  have Z104 : n0 ≤ h104.size := Nat.le_trans Z102 (Keep.of_wr W104).1
  have pre104 : Steps p.tables e below _ (T104.setTop (mkF m 87 #[.val (.ref a1), .val (.ref a2), .val .null, .val (.long sm), .second, .val (.int n)] [])) := pre103.trans (st104 _ (Steps.refl _))
  have Ea := (E.ext E102).wr W104
  have Fa := (F1.ext E102).same W104
  have Ga := (F2.ext E102).other W104 (Or.inr (ne_pool_fairShares hw))
  have Ha := (F3.ext E102).other W104 (Or.inr (ne_started_fairShares hw))
  have Va := FA.other W104 (Ne.symm nq)
  have pre105 : Steps p.tables e below _ (T104.setTop (mkF m 89 #[.val (.ref a1), .val (.ref a2), .val .null, .val (.long sm), .second, .val (.int n)] [(.long sm), (.ref a1)])) := pre104.trans (by
    show Steps p.tables e below (T104.setTop (mkF m 87 #[.val (.ref a1), .val (.ref a2), .val .null, .val (.long sm), .second, .val (.int n)] [])) _
    refine XS.aloadN X104.here hx rfl (hb hby d3_87) rfl rfl ?_
    show Steps p.tables e below (T104.setTop (mkF m 88 #[.val (.ref a1), .val (.ref a2), .val .null, .val (.long sm), .second, .val (.int n)] [(.ref a1)])) _
    refine XS.lloadN X104.here hx rfl (hb hby d3_88) rfl ?_
    exact Steps.refl _)
  obtain ⟨T106, h106, X106, e106, W106, st106⟩ := putF X104 hx hZ hown (host := "") (Or.inl (hw _ (List.mem_of_getElem? (i := 34) rfl))) Via.refl e104 Ga Ea (Or.inl (hw _ (List.mem_of_getElem? (i := 35) rfl))) (hw _ (List.mem_of_getElem? (i := 4) rfl)) (ty := .long) (by decide) rfl rfl (g := (mkF m 89 #[.val (.ref a1), .val (.ref a2), .val .null, .val (.long sm), .second, .val (.int n)] [(.long sm), (.ref a1)])) rfl rfl (hb hby d3_89)
  have N106 := Fr.snoc X106 N104 g_a1
  have Z106 : n0 ≤ h106.size := Nat.le_trans Z104 (Keep.of_wr W106).1
  have pre106 : Steps p.tables e below _ (T106.setTop (mkF m 92 #[.val (.ref a1), .val (.ref a2), .val .null, .val (.long sm), .second, .val (.int n)] [])) := pre105.trans (st106 _ (Steps.refl _))
  have Eb := Ea.wr W106
  have Fb := Fa.other W106 (Or.inr (ne_fairShares_pool hw))
  have Hb := Ha.other W106 (Or.inr (ne_started_pool hw))
  have Vb := Va.other W106 (Ne.symm nq)
  have pre107 : Steps p.tables e below _ (T106.setTop (mkF m 102 #[.val (.ref a1), .val (.ref a2), .val .null, .val (.long sm), .second, .val (.int n)] [(.int (0 : Int32)), (.ref a1)])) := pre106.trans (by
    show Steps p.tables e below (T106.setTop (mkF m 92 #[.val (.ref a1), .val (.ref a2), .val .null, .val (.long sm), .second, .val (.int n)] [])) _
    refine XS.aloadN X106.here hx rfl (hb hby d3_92) rfl rfl ?_
    show Steps p.tables e below (T106.setTop (mkF m 93 #[.val (.ref a1), .val (.ref a2), .val .null, .val (.long sm), .second, .val (.int n)] [(.ref a1)])) _
    refine XS.aloadN X106.here hx rfl (hb hby d3_93) rfl rfl ?_
    show Steps p.tables e below (T106.setTop (mkF m 94 #[.val (.ref a1), .val (.ref a2), .val .null, .val (.long sm), .second, .val (.int n)] [.null, (.ref a1)])) _
    refine XS.ifnullYes X106.here hx rfl (pc0 := 94) (pc' := 101) rfl (hb hby d3_94) rfl (by decide) (by decide) ?_
    show Steps p.tables e below (T106.setTop (mkF m 101 #[.val (.ref a1), .val (.ref a2), .val .null, .val (.long sm), .second, .val (.int n)] [(.ref a1)])) _
    refine XS.iconst X106.here hx rfl (hb hby d3_101) ?_
    exact Steps.refl _)
  obtain ⟨T108, h108, X108, e108, W108, st108⟩ := putFN X106 hx hZ hown (hw _ (List.mem_of_getElem? (i := 36) rfl)) Via.refl e106 Hb Eb (Or.inl (hw _ (List.mem_of_getElem? (i := 37) rfl))) (hw _ (List.mem_of_getElem? (i := 4) rfl)) (ty := .boolean) (v' := (.int (0 : Int32))) (by decide) rfl rfl (g := (mkF m 102 #[.val (.ref a1), .val (.ref a2), .val .null, .val (.long sm), .second, .val (.int n)] [(.int (0 : Int32)), (.ref a1)])) rfl rfl (hb hby d3_102)
  have N108 := Fr.snoc X108 N106 g_a1
  have Fc := Fb.other W108 (Or.inr (ne_fairShares_started hw))
  have Vc := Vb.other W108 (Ne.symm nq)
  have pre108 : Steps p.tables e below _ (T108.setTop (mkF m 105 #[.val (.ref a1), .val (.ref a2), .val .null, .val (.long sm), .second, .val (.int n)] [])) := pre107.trans (st108 _ (Steps.refl _))
  have KK : Keep h0 h108 [a1] := ((((Keep.refl h0 [a1]).ext E102).wr W104 (Or.inl (List.mem_singleton.mpr rfl))).wr W106 (Or.inl (List.mem_singleton.mpr rfl))).wr W108 (Or.inl (List.mem_singleton.mpr rfl))
  obtain ⟨fs, hr, hrun, hended, hW, hsame⟩ := X108.leave (v := none) (fun h => by rfl)
  refine ⟨_, _, pre108.trans ?_, hrun, hended, _, _, rfl, ?_, ⟨_, rfl⟩, hW, hsame.mono (by decide) (by decide)⟩
  · exact X108.returnOut hx Bd.returns (hb hby d3_105) hr
  · exact ⟨rfl, N108, (by show Keep h0 T108.heap [a1]; rw [e108]; exact KK), (by show Fld Z T108.heap _ _ _ _ _; rw [e108]; exact Fc), (by show Far Z T108.heap _ _ _ _; rw [e108]; exact Vc)⟩
theorem d2_0 : decode prog_1_method_1_code 0 = .ok (.aload_n 0, 1) := by decide +kernel
theorem d2_1 : decode prog_1_method_1_code 1 = .ok (.aload_n 1, 1) := by decide +kernel
theorem d2_2 : decode prog_1_method_1_code 2 = .ok (.aconst_null, 1) := by decide +kernel
theorem d2_3 : decode prog_1_method_1_code 3 = .ok (.invokespecial 1, 3) := by decide +kernel
theorem d2_6 : decode prog_1_method_1_code 6 = .ok (.return_, 1) := by decide +kernel
theorem pn_rmI1 : plainName "com/example/quillfire/quillfire/AllocationPolicy" = true := by first | (simp [plainName, overriddenIn]; done) | decide +kernel
theorem pd_rmI1_0 : parseMethodDescriptor "([I[Z)V" = some ⟨[(.array .int), (.array .boolean)], none⟩ := by decide +kernel
theorem ef_rmI1 (m : MethodId) (a1 : Addr) (a2 : Addr) : entryFrame m #[(.ref a1), (.ref a2)] 2 = (mkF m 0 #[.val (.ref a1), .val (.ref a2)] []) := by first | (simp [entryFrame, mkF, argsToLocals, Value.category]; done) | rfl
def Q_rmI1 (Z : State) (a1 : Addr) (a2 : Addr) (n : Int32) (f : Nat → Int32) (h0 : Heap) (n0 : Nat) (v : Option Value) (h : Heap) (L : List Loc) : Prop := v = none ∧ Fr n0 L ∧ Keep h0 h [a1] ∧ Fld Z h a1 "com/example/quillfire/quillfire/AllocationPolicy" "fairShares" "[I" (.ref h0.size) ∧ Far Z h h0.size .int n f
set_option maxRecDepth 65536 in
set_option maxHeartbeats 40000000 in
theorem rmI1 (l : Launch) (Z : State) (a0 : Array Value) (hw : ∀ d ∈ tables_1, d.before a0 Z = true) (ws : List Jvm.Cond) (a1 : Addr) (a2 : Addr) (n : Int32) (f : Nat → Int32) (h0 : Heap) (n0 : Nat) (Z0 : n0 ≤ h0.size) (E : Exa Z h0 a1 "com/example/quillfire/quillfire/StaticPolicy") (F1 : Fld Z h0 a1 "com/example/quillfire/quillfire/AllocationPolicy" "fairShares" "[I" .null) (F2 : Fld Z h0 a1 "com/example/quillfire/quillfire/AllocationPolicy" "pool" "J" (.long (0 : Int64))) (F3 : Fld Z h0 a1 "com/example/quillfire/quillfire/AllocationPolicy" "started" "Z" (.int (0 : Int32))) (FS : Far Z h0 a2 .int n f) (EA : Exa Z h0 a2 "[I") (hn : n.toInt ≤ 3) (hf : ∀ k, k < n.toNatClampNeg → ¬ f k < (0 : Int32)) (g_a1 : n0 ≤ a1) :
    MetFree l (⟨"com/example/quillfire/quillfire/AllocationPolicy", "<init>", "([I)V"⟩ : MethodName) (head1 (Jvm.Cond.code (⟨"com/example/quillfire/quillfire/AllocationPolicy", "<init>", "([I)V"⟩ : MethodName) prog_1_method_1_code 2 none :: ws) ({ frames := 2, cells := 1, slots := 3, locals := 32 } : Room)) (fun a U => a = #[(.ref a1), (.ref a2)] ∧ Z.Warmed39 U.vm ∧ U.heap = h0) (fun _ _ _ _ _ => True) (fun _ U o U' => ∃ v L, o = .returned v ∧ Q_rmI1 Z a1 a2 n f h0 n0 v U'.heap L ∧ FrameEnd U o U' L ({ frames := 2, cells := 1, slots := 3, locals := 32 } : Room).cells ({ frames := 2, cells := 1, slots := 3, locals := 32 } : Room).slots) := by
  refine MetFree.of_bodySF (plainFor_of_name pn_rmI1) hisR ?_
  intro p e s m args below meth c s₁ Bd hml0 hP hK
  obtain ⟨rfl, hZ, hh⟩ := hP
  have hx := Bd.exec
  have hby := Bd.bytes
  have hml : c.maxLocals = 2 := hml0
  have hown : s.vm.findClass "com/example/quillfire/quillfire/AllocationPolicy" = some m.cls := findClass_of_methodNamed Bd.named
  have hnm := (name_of_methodNamed Bd.named Bd.method).1
  have X0 : Stand p l e ({ frames := 2, cells := 1, slots := 3, locals := 32 } : Room) s m #[(.ref a1), (.ref a2)] below meth c s₁ [] 0 0 := Stand.of_body Bd
  have e0 : s₁.heap = h0 := by rw [← hh, Bd.state]; rfl
  have N0 := Fr.nil n0
  have pre0 : Steps p.tables e below (s₁.setTop (entryFrame m #[(.ref a1), (.ref a2)] 2)) (s₁.setTop (mkF m 0 #[.val (.ref a1), .val (.ref a2)] [])) := castTop (ef_rmI1 m a1 a2) (Steps.refl _)
  have pre1 : Steps p.tables e below _ (s₁.setTop (mkF m 3 #[.val (.ref a1), .val (.ref a2)] [.null, (.ref a2), (.ref a1)])) := pre0.trans (by
    show Steps p.tables e below (s₁.setTop (mkF m 0 #[.val (.ref a1), .val (.ref a2)] [])) _
    refine XS.aloadN X0.here hx rfl (hb hby d2_0) rfl rfl ?_
    show Steps p.tables e below (s₁.setTop (mkF m 1 #[.val (.ref a1), .val (.ref a2)] [(.ref a1)])) _
    refine XS.aloadN X0.here hx rfl (hb hby d2_1) rfl rfl ?_
    show Steps p.tables e below (s₁.setTop (mkF m 2 #[.val (.ref a1), .val (.ref a2)] [(.ref a2), (.ref a1)])) _
    refine XS.aconstNull X0.here hx rfl (hb hby d2_2) ?_
    exact Steps.refl _)
  obtain ⟨_, _, ⟨T2, L2, k2, n2⟩, -, X2, ⟨Lc2, hQ2, l2, y2, z2⟩, st2⟩ := X0.specialBack hx (y := (⟨"com/example/quillfire/quillfire/AllocationPolicy", "<init>", "([I[Z)V"⟩ : MethodName)) rfl hown (mvT hZ (hw _ (List.mem_of_getElem? (i := 14) rfl))) (mvT hZ (hw _ (List.mem_of_getElem? (i := 15) rfl))) (mvT hZ (hw _ (List.mem_of_getElem? (i := 16) rfl))) (by decide) (backOf (W := 0) (rmI2 l Z a0 hw [] a1 a2 n f h0 n0 Z0 E F1 F2 F3 FS EA hn hf g_a1) hZ (hw _ (List.mem_of_getElem? (i := 16) rfl)) (hw _ (List.mem_of_getElem? (i := 12) rfl)) (by decide) (by decide)) (g := (mkF m 3 #[.val (.ref a1), .val (.ref a2)] [.null, (.ref a2), (.ref a1)])) rfl (by rw [hml]; rfl) (Steps.refl _) (a := a1) (argsL := [(.ref a2), .null]) (rest := []) (lenOf pd_rmI1_0 rfl) rfl (by show 2 * 0 + _ ≤ _; exact Nat.le_of_eq rfl) (hb hby d2_3) (fun _ _ => ⟨rfl, e0, (by decide : 0 + 1 ≤ _), (by decide : 0 + 3 ≤ _)⟩)
  dsimp only [Pt.U, Pt.locs, Pt.cells, Pt.slots] at X2 l2 y2 z2 st2 hQ2
  subst l2 y2 z2
  obtain ⟨rfl, N2q, K2, Fq2, FA2⟩ := hQ2
  have N2 := Fr.app N0 N2q
  have pre2 : Steps p.tables e below _ (T2.setTop (mkF m 6 #[.val (.ref a1), .val (.ref a2)] [])) := pre1.trans (st2)
  obtain ⟨fs, hr, hrun, hended, hW, hsame⟩ := X2.leave (v := none) (fun h => by rfl)
  refine ⟨_, _, pre2.trans ?_, hrun, hended, _, _, rfl, ?_, ⟨_, rfl⟩, hW, hsame.mono (by decide) (by decide)⟩
  · exact X2.returnOut hx Bd.returns (hb hby d2_6) hr
  · exact ⟨rfl, N2, K2, Fq2, FA2⟩
theorem d1_0 : decode prog_19_method_2_code 0 = .ok (.aload_n 0, 1) := by decide +kernel
theorem d1_1 : decode prog_19_method_2_code 1 = .ok (.aload_n 1, 1) := by decide +kernel
theorem d1_2 : decode prog_19_method_2_code 2 = .ok (.invokespecial 11, 3) := by decide +kernel
theorem d1_5 : decode prog_19_method_2_code 5 = .ok (.return_, 1) := by decide +kernel
theorem pn_rmI0 : plainName "com/example/quillfire/quillfire/StaticPolicy" = true := by first | (simp [plainName, overriddenIn]; done) | decide +kernel
theorem pd_rmI0_0 : parseMethodDescriptor "([I)V" = some ⟨[(.array .int)], none⟩ := by decide +kernel
theorem ef_rmI0 (m : MethodId) (a1 : Addr) (a2 : Addr) : entryFrame m #[(.ref a1), (.ref a2)] 2 = (mkF m 0 #[.val (.ref a1), .val (.ref a2)] []) := by first | (simp [entryFrame, mkF, argsToLocals, Value.category]; done) | rfl
def Q_rmI0 (Z : State) (a1 : Addr) (a2 : Addr) (n : Int32) (f : Nat → Int32) (h0 : Heap) (n0 : Nat) (v : Option Value) (h : Heap) (L : List Loc) : Prop := v = none ∧ Fr n0 L ∧ Keep h0 h [a1] ∧ Fld Z h a1 "com/example/quillfire/quillfire/AllocationPolicy" "fairShares" "[I" (.ref h0.size) ∧ Far Z h h0.size .int n f
set_option maxRecDepth 65536 in
set_option maxHeartbeats 40000000 in
theorem rmI0 (l : Launch) (Z : State) (a0 : Array Value) (hw : ∀ d ∈ tables_1, d.before a0 Z = true) (ws : List Jvm.Cond) (a1 : Addr) (a2 : Addr) (n : Int32) (f : Nat → Int32) (h0 : Heap) (n0 : Nat) (Z0 : n0 ≤ h0.size) (E : Exa Z h0 a1 "com/example/quillfire/quillfire/StaticPolicy") (F1 : Fld Z h0 a1 "com/example/quillfire/quillfire/AllocationPolicy" "fairShares" "[I" .null) (F2 : Fld Z h0 a1 "com/example/quillfire/quillfire/AllocationPolicy" "pool" "J" (.long (0 : Int64))) (F3 : Fld Z h0 a1 "com/example/quillfire/quillfire/AllocationPolicy" "started" "Z" (.int (0 : Int32))) (FS : Far Z h0 a2 .int n f) (EA : Exa Z h0 a2 "[I") (hn : n.toInt ≤ 3) (hf : ∀ k, k < n.toNatClampNeg → ¬ f k < (0 : Int32)) (g_a1 : n0 ≤ a1) :
    MetFree l (⟨"com/example/quillfire/quillfire/StaticPolicy", "<init>", "([I)V"⟩ : MethodName) (head1 (Jvm.Cond.code (⟨"com/example/quillfire/quillfire/StaticPolicy", "<init>", "([I)V"⟩ : MethodName) prog_19_method_2_code 2 none :: ws) ({ frames := 3, cells := 1, slots := 3, locals := 45 } : Room)) (fun a U => a = #[(.ref a1), (.ref a2)] ∧ Z.Warmed39 U.vm ∧ U.heap = h0) (fun _ _ _ _ _ => True) (fun _ U o U' => ∃ v L, o = .returned v ∧ Q_rmI0 Z a1 a2 n f h0 n0 v U'.heap L ∧ FrameEnd U o U' L ({ frames := 3, cells := 1, slots := 3, locals := 45 } : Room).cells ({ frames := 3, cells := 1, slots := 3, locals := 45 } : Room).slots) := by
  refine MetFree.of_bodySF (plainFor_of_name pn_rmI0) hisR ?_
  intro p e s m args below meth c s₁ Bd hml0 hP hK
  obtain ⟨rfl, hZ, hh⟩ := hP
  have hx := Bd.exec
  have hby := Bd.bytes
  have hml : c.maxLocals = 2 := hml0
  have hown : s.vm.findClass "com/example/quillfire/quillfire/StaticPolicy" = some m.cls := findClass_of_methodNamed Bd.named
  have hnm := (name_of_methodNamed Bd.named Bd.method).1
  have X0 : Stand p l e ({ frames := 3, cells := 1, slots := 3, locals := 45 } : Room) s m #[(.ref a1), (.ref a2)] below meth c s₁ [] 0 0 := Stand.of_body Bd
  have e0 : s₁.heap = h0 := by rw [← hh, Bd.state]; rfl
  have N0 := Fr.nil n0
  have pre0 : Steps p.tables e below (s₁.setTop (entryFrame m #[(.ref a1), (.ref a2)] 2)) (s₁.setTop (mkF m 0 #[.val (.ref a1), .val (.ref a2)] [])) := castTop (ef_rmI0 m a1 a2) (Steps.refl _)
  have pre1 : Steps p.tables e below _ (s₁.setTop (mkF m 2 #[.val (.ref a1), .val (.ref a2)] [(.ref a2), (.ref a1)])) := pre0.trans (by
    show Steps p.tables e below (s₁.setTop (mkF m 0 #[.val (.ref a1), .val (.ref a2)] [])) _
    refine XS.aloadN X0.here hx rfl (hb hby d1_0) rfl rfl ?_
    show Steps p.tables e below (s₁.setTop (mkF m 1 #[.val (.ref a1), .val (.ref a2)] [(.ref a1)])) _
    refine XS.aloadN X0.here hx rfl (hb hby d1_1) rfl rfl ?_
    exact Steps.refl _)
  obtain ⟨_, _, ⟨T2, L2, k2, n2⟩, -, X2, ⟨Lc2, hQ2, l2, y2, z2⟩, st2⟩ := X0.specialBack hx (y := (⟨"com/example/quillfire/quillfire/AllocationPolicy", "<init>", "([I)V"⟩ : MethodName)) rfl hown (mvT hZ (hw _ (List.mem_of_getElem? (i := 9) rfl))) (mvT hZ (hw _ (List.mem_of_getElem? (i := 10) rfl))) (mvT hZ (hw _ (List.mem_of_getElem? (i := 13) rfl))) (by decide) (backOf (W := 0) (rmI1 l Z a0 hw [] a1 a2 n f h0 n0 Z0 E F1 F2 F3 FS EA hn hf g_a1) hZ (hw _ (List.mem_of_getElem? (i := 13) rfl)) (hw _ (List.mem_of_getElem? (i := 12) rfl)) (by decide) (by decide)) (g := (mkF m 2 #[.val (.ref a1), .val (.ref a2)] [(.ref a2), (.ref a1)])) rfl (by rw [hml]; rfl) (Steps.refl _) (a := a1) (argsL := [(.ref a2)]) (rest := []) (lenOf pd_rmI0_0 rfl) rfl (by show 2 * 0 + _ ≤ _; exact Nat.le_of_eq rfl) (hb hby d1_2) (fun _ _ => ⟨rfl, e0, (by decide : 0 + 1 ≤ _), (by decide : 0 + 3 ≤ _)⟩)
  dsimp only [Pt.U, Pt.locs, Pt.cells, Pt.slots] at X2 l2 y2 z2 st2 hQ2
  subst l2 y2 z2
  obtain ⟨rfl, N2q, K2, Fq2, FA2⟩ := hQ2
  have N2 := Fr.app N0 N2q
  have pre2 : Steps p.tables e below _ (T2.setTop (mkF m 5 #[.val (.ref a1), .val (.ref a2)] [])) := pre1.trans (st2)
  obtain ⟨fs, hr, hrun, hended, hW, hsame⟩ := X2.leave (v := none) (fun h => by rfl)
  refine ⟨_, _, pre2.trans ?_, hrun, hended, _, _, rfl, ?_, ⟨_, rfl⟩, hW, hsame.mono (by decide) (by decide)⟩
  · exact X2.returnOut hx Bd.returns (hb hby d1_5) hr
  · exact ⟨rfl, N2, K2, Fq2, FA2⟩
theorem d6_0 : decode prog_19_method_3_code 0 = .ok (.aload_n 0, 1) := by decide +kernel
theorem d6_1 : decode prog_19_method_3_code 1 = .ok (.invokevirtual 14, 3) := by decide +kernel
theorem d6_4 : decode prog_19_method_3_code 4 = .ok (.newarray .int, 2) := by decide +kernel
theorem d6_6 : decode prog_19_method_3_code 6 = .ok (.astore 5, 2) := by decide +kernel
theorem d6_8 : decode prog_19_method_3_code 8 = .ok (.iconst 0, 1) := by decide +kernel
theorem d6_9 : decode prog_19_method_3_code 9 = .ok (.istore 6, 2) := by decide +kernel
theorem d6_11 : decode prog_19_method_3_code 11 = .ok (.iload 6, 2) := by decide +kernel
theorem d6_13 : decode prog_19_method_3_code 13 = .ok (.aload 5, 2) := by decide +kernel
theorem d6_15 : decode prog_19_method_3_code 15 = .ok (.arraylength, 1) := by decide +kernel
theorem d6_16 : decode prog_19_method_3_code 16 = .ok (.if_icmp .ge 31, 3) := by decide +kernel
theorem d6_19 : decode prog_19_method_3_code 19 = .ok (.aload 5, 2) := by decide +kernel
theorem d6_21 : decode prog_19_method_3_code 21 = .ok (.iload 6, 2) := by decide +kernel
theorem d6_23 : decode prog_19_method_3_code 23 = .ok (.aload_n 2, 1) := by decide +kernel
theorem d6_24 : decode prog_19_method_3_code 24 = .ok (.iload 6, 2) := by decide +kernel
theorem d6_26 : decode prog_19_method_3_code 26 = .ok (.baload, 1) := by decide +kernel
theorem d6_27 : decode prog_19_method_3_code 27 = .ok (.ifCond .eq 12, 3) := by decide +kernel
theorem d6_30 : decode prog_19_method_3_code 30 = .ok (.aload_n 0, 1) := by decide +kernel
theorem d6_31 : decode prog_19_method_3_code 31 = .ok (.iload 6, 2) := by decide +kernel
theorem d6_33 : decode prog_19_method_3_code 33 = .ok (.invokevirtual 18, 3) := by decide +kernel
theorem d6_36 : decode prog_19_method_3_code 36 = .ok (.goto 4, 3) := by decide +kernel
theorem d6_39 : decode prog_19_method_3_code 39 = .ok (.iconst 0, 1) := by decide +kernel
theorem d6_40 : decode prog_19_method_3_code 40 = .ok (.iastore, 1) := by decide +kernel
theorem d6_41 : decode prog_19_method_3_code 41 = .ok (.iinc 6 1, 3) := by decide +kernel
theorem d6_44 : decode prog_19_method_3_code 44 = .ok (.goto (-33), 3) := by decide +kernel
theorem d6_47 : decode prog_19_method_3_code 47 = .ok (.aload 5, 2) := by decide +kernel
theorem d6_49 : decode prog_19_method_3_code 49 = .ok (.areturn, 1) := by decide +kernel
theorem pn_rmD : plainName "com/example/quillfire/quillfire/StaticPolicy" = true := by first | (simp [plainName, overriddenIn]; done) | decide +kernel
theorem pd_rmD_0 : parseMethodDescriptor "()I" = some ⟨[], some .int⟩ := by decide +kernel
theorem pd_rmD_1 : parseMethodDescriptor "(I)I" = some ⟨[.int], some .int⟩ := by decide +kernel
theorem ef_rmD (m : MethodId) (a1 : Addr) (a2 : Addr) (a3 : Addr) (p4 : Int64) : entryFrame m #[(.ref a1), (.ref a2), (.ref a3), (.long p4)] 7 = (mkF m 0 #[.val (.ref a1), .val (.ref a2), .val (.ref a3), .val (.long p4), .second, .unset, .unset] []) := by first | (simp [entryFrame, mkF, argsToLocals, Value.category]; done) | rfl
def Q_rmD (Z : State) (a1 : Addr) (a2 : Addr) (a3 : Addr) (p4 : Int64) (b : Addr) (n : Int32) (f pr : Nat → Int32) (h0 : Heap) (n0 : Nat) (v : Option Value) (h : Heap) (L : List Loc) : Prop := v = some (.ref h0.size) ∧ Fr n0 L ∧ Far Z h h0.size .int n (fun k => if pr k = (0 : Int32) then (0 : Int32) else f k) ∧ n0 ≤ h.size
set_option maxRecDepth 65536 in
set_option maxHeartbeats 40000000 in
theorem rmD (l : Launch) (Z : State) (a0 : Array Value) (hw : ∀ d ∈ tables_1, d.before a0 Z = true) (ws : List Jvm.Cond) (a1 : Addr) (a2 : Addr) (a3 : Addr) (p4 : Int64) (b : Addr) (n : Int32) (f pr : Nat → Int32) (h0 : Heap) (n0 : Nat) (Z0 : n0 ≤ h0.size) (E : Exa Z h0 a1 "com/example/quillfire/quillfire/StaticPolicy") (F : Fld Z h0 a1 "com/example/quillfire/quillfire/AllocationPolicy" "fairShares" "[I" (.ref b)) (FB : Far Z h0 b .int n f) (FP : Far Z h0 a3 .boolean n pr) (hn : n.toInt ≤ 3) :
    MetFree l (⟨"com/example/quillfire/quillfire/StaticPolicy", "divide", "([I[ZJ)[I"⟩ : MethodName) (head1 (Jvm.Cond.code (⟨"com/example/quillfire/quillfire/StaticPolicy", "divide", "([I[ZJ)[I"⟩ : MethodName) prog_19_method_3_code 7 (some (.array .int)) :: ws) ({ frames := 1, cells := 1, slots := 3, locals := 15 } : Room)) (fun a U => a = #[(.ref a1), (.ref a2), (.ref a3), (.long p4)] ∧ Z.Warmed39 U.vm ∧ U.heap = h0) (fun _ _ _ _ _ => True) (fun _ U o U' => ∃ v L, o = .returned v ∧ Q_rmD Z a1 a2 a3 p4 b n f pr h0 n0 v U'.heap L ∧ FrameEnd U o U' L ({ frames := 1, cells := 1, slots := 3, locals := 15 } : Room).cells ({ frames := 1, cells := 1, slots := 3, locals := 15 } : Room).slots) := by
  refine MetFree.of_bodySF (plainFor_of_name pn_rmD) hisR ?_
  intro p e s m args below meth c s₁ Bd hml0 hP hK
  obtain ⟨rfl, hZ, hh⟩ := hP
  have hx := Bd.exec
  have hby := Bd.bytes
  have hml : c.maxLocals = 7 := hml0
  have hown : s.vm.findClass "com/example/quillfire/quillfire/StaticPolicy" = some m.cls := findClass_of_methodNamed Bd.named
  have hnm := (name_of_methodNamed Bd.named Bd.method).1
  have X0 : Stand p l e ({ frames := 1, cells := 1, slots := 3, locals := 15 } : Room) s m #[(.ref a1), (.ref a2), (.ref a3), (.long p4)] below meth c s₁ [] 0 0 := Stand.of_body Bd
  have e0 : s₁.heap = h0 := by rw [← hh, Bd.state]; rfl
  have N0 := Fr.nil n0
  have pre0 : Steps p.tables e below (s₁.setTop (entryFrame m #[(.ref a1), (.ref a2), (.ref a3), (.long p4)] 7)) (s₁.setTop (mkF m 0 #[.val (.ref a1), .val (.ref a2), .val (.ref a3), .val (.long p4), .second, .unset, .unset] [])) := castTop (ef_rmD m a1 a2 a3 p4) (Steps.refl _)
  obtain ⟨cl0, Ar0, S0, M0, H0⟩ := id FB
  have hn0 : 0 ≤ n.toInt := by have q := M0; rw [own_lt] at q; have e : (0 : Int32).toInt = 0 := rfl; omega
  have pre1 : Steps p.tables e below _ (s₁.setTop (mkF m 1 #[.val (.ref a1), .val (.ref a2), .val (.ref a3), .val (.long p4), .second, .unset, .unset] [(.ref a1)])) := pre0.trans (by
    show Steps p.tables e below (s₁.setTop (mkF m 0 #[.val (.ref a1), .val (.ref a2), .val (.ref a3), .val (.long p4), .second, .unset, .unset] [])) _
    refine XS.aloadN X0.here hx rfl (hb hby d6_0) rfl rfl ?_
    exact Steps.refl _)
  obtain ⟨cq2, kq2, q2a, q2b, q2c⟩ := isOf hZ e0 E
  obtain ⟨_, _, ⟨T2, L2, k2, n2⟩, -, X2, ⟨Lc2, hQ2, l2, y2, z2⟩, st2⟩ := X0.virtualBackUp hx (owner := "com/example/quillfire/quillfire/AllocationPolicy") (x := (⟨"com/example/quillfire/quillfire/StaticPolicy", "users", "()I"⟩ : MethodName)) (y := (⟨"com/example/quillfire/quillfire/AllocationPolicy", "users", "()I"⟩ : MethodName)) hown (mvT hZ (hw _ (List.mem_of_getElem? (i := 43) rfl))) (mvT hZ (hw _ (List.mem_of_getElem? (i := 44) rfl))) (mvT hZ (hw _ (List.mem_of_getElem? (i := 45) rfl))) (by decide) (mvT hZ (hw _ (List.mem_of_getElem? (i := 47) rfl))) (mvT hZ (hw _ (List.mem_of_getElem? (i := 46) rfl))) (backOf (W := 0) (rmU l Z a0 hw [] a1 b n f h0 n0 Z0 F FB) hZ (hw _ (List.mem_of_getElem? (i := 48) rfl)) (hw _ (List.mem_of_getElem? (i := 12) rfl)) (by decide) (by decide)) q2a q2c (g := (mkF m 1 #[.val (.ref a1), .val (.ref a2), .val (.ref a3), .val (.long p4), .second, .unset, .unset] [(.ref a1)])) rfl (by rw [hml]; rfl) (Steps.refl _) (argsL := []) (rest := []) (lenOf pd_rmD_0 rfl) rfl (by show 2 * 0 + _ ≤ _; exact Nat.le_of_eq rfl) (hb hby d6_1) (fun _ _ => ⟨rfl, e0, (by decide : 0 + 0 ≤ _), (by decide : 0 + 0 ≤ _)⟩)
  dsimp only [Pt.U, Pt.locs, Pt.cells, Pt.slots] at X2 l2 y2 z2 st2 hQ2
  subst l2 y2 z2
  obtain ⟨rfl, N2q, hh2⟩ := hQ2
  have N2 := Fr.app N0 N2q
  have pre2 : Steps p.tables e below _ (T2.setTop (mkF m 4 #[.val (.ref a1), .val (.ref a2), .val (.ref a3), .val (.long p4), .second, .unset, .unset] [(.int n)])) := pre1.trans (st2)
  obtain ⟨T3, h3, k3, X3, e3, E3, A3, st3⟩ := newP X2 hx hZ (hw _ (List.mem_of_getElem? (i := 1) rfl)) hh2 (g := (mkF m 4 #[.val (.ref a1), .val (.ref a2), .val (.ref a3), .val (.long p4), .second, .unset, .unset] [(.int n)])) rfl (hb hby d6_4) rfl M0 (cap := 3) (own_cap M0 hn) (by decide) (by decide) (by decide)
  obtain ⟨rb, g3⟩ : ∃ z, z = h0.size := ⟨_, rfl⟩
  rw [← g3] at A3 st3
  have g_rb : n0 ≤ rb := Nat.le_trans Z0 (Nat.le_of_eq g3.symm)
  have lt_rb : rb < h3.size := A3.lt
  have F3 : Far Z h3 rb .int n (fun _ => 0) := Far.new A3 M0 rfl
  have Z3 : n0 ≤ h3.size := Nat.le_trans Z0 E3.1
  have pre3 : Steps p.tables e below _ (T3.setTop (mkF m 6 #[.val (.ref a1), .val (.ref a2), .val (.ref a3), .val (.long p4), .second, .unset, .unset] [(.ref rb)])) := pre2.trans (st3 _ (Steps.refl _))
  have na1 : a1 ∉ [rb] := own_nin (by rw [g3]; exact Nat.ne_of_lt E.lt)
  have na3 : a3 ∉ [rb] := own_nin (by rw [g3]; exact Nat.ne_of_lt FP.lt)
  have nab : b ∉ [rb] := own_nin (by rw [g3]; exact Nat.ne_of_lt FB.lt)
  have K0 : Keep h0 h3 [rb] := (Keep.refl h0 [rb]).ext E3
  have pre4 : Steps p.tables e below _ (T3.setTop (mkF m 11 #[.val (.ref a1), .val (.ref a2), .val (.ref a3), .val (.long p4), .second, .val (.ref rb), .val (.int (0 : Int32))] [])) := pre3.trans (by
    show Steps p.tables e below (T3.setTop (mkF m 6 #[.val (.ref a1), .val (.ref a2), .val (.ref a3), .val (.long p4), .second, .unset, .unset] [(.ref rb)])) _
    refine XS.astore X3.here hx rfl (hb hby d6_6) rfl rfl (l' := #[.val (.ref a1), .val (.ref a2), .val (.ref a3), .val (.long p4), .second, .val (.ref rb), .unset]) rfl ?_
    show Steps p.tables e below (T3.setTop (mkF m 8 #[.val (.ref a1), .val (.ref a2), .val (.ref a3), .val (.long p4), .second, .val (.ref rb), .unset] [])) _
    refine XS.iconst X3.here hx rfl (hb hby d6_8) ?_
    show Steps p.tables e below (T3.setTop (mkF m 9 #[.val (.ref a1), .val (.ref a2), .val (.ref a3), .val (.long p4), .second, .val (.ref rb), .unset] [(.int (0 : Int32))])) _
    refine XS.istore X3.here hx rfl (hb hby d6_9) rfl (l' := #[.val (.ref a1), .val (.ref a2), .val (.ref a3), .val (.long p4), .second, .val (.ref rb), .val (.int (0 : Int32))]) rfl ?_
    exact Steps.refl _)
  have loop : ∀ (k : Nat) (i : Int32) (T : State) (h : Heap) (locs : List Loc), Stand p l e ({ frames := 1, cells := 1, slots := 3, locals := 15 } : Room) s m #[(.ref a1), (.ref a2), (.ref a3), (.long p4)] below meth c T locs 1 3 → T.heap = h → Keep h0 h [rb] → Fr n0 locs → 0 ≤ i.toInt → i.toInt + k = n.toInt → Far Z h rb .int n (fun j => if j < i.toNatClampNeg then (fun k => if pr k = (0 : Int32) then (0 : Int32) else f k) j else 0) → ∃ (T' : State) (locs' : List Loc), Stand p l e ({ frames := 1, cells := 1, slots := 3, locals := 15 } : Room) s m #[(.ref a1), (.ref a2), (.ref a3), (.long p4)] below meth c T' locs' 1 3 ∧ Keep h0 T'.heap [rb] ∧ Fr n0 locs' ∧ Far Z T'.heap rb .int n (fun j => if j < n.toNatClampNeg then (fun k => if pr k = (0 : Int32) then (0 : Int32) else f k) j else 0) ∧ Steps p.tables e below (T.setTop (mkF m 11 #[.val (.ref a1), .val (.ref a2), .val (.ref a3), .val (.long p4), .second, .val (.ref rb), .val (.int i)] [])) (T'.setTop (mkF m 47 #[.val (.ref a1), .val (.ref a2), .val (.ref a3), .val (.long p4), .second, .val (.ref rb), .val (.int n)] [])) := by
    intro k
    induction k with
    | zero =>
      intro i T h locs X eT K Nf i0 ik FR
      have hi : n = i := Int32.toInt_inj.mp (by omega)
      subst hi
      obtain ⟨cr, Ar, Sr, Mr, Hr⟩ := id FR
      have preL : Steps p.tables e below (T.setTop (mkF m 11 #[.val (.ref a1), .val (.ref a2), .val (.ref a3), .val (.long p4), .second, .val (.ref rb), .val (.int n)] [])) (T.setTop (mkF m 11 #[.val (.ref a1), .val (.ref a2), .val (.ref a3), .val (.long p4), .second, .val (.ref rb), .val (.int n)] [])) := Steps.refl _
      have pre5 : Steps p.tables e below _ (T.setTop (mkF m 47 #[.val (.ref a1), .val (.ref a2), .val (.ref a3), .val (.long p4), .second, .val (.ref rb), .val (.int n)] [])) := preL.trans (by
        show Steps p.tables e below (T.setTop (mkF m 11 #[.val (.ref a1), .val (.ref a2), .val (.ref a3), .val (.long p4), .second, .val (.ref rb), .val (.int n)] [])) _
        refine XS.iload X.here hx rfl (hb hby d6_11) rfl ?_
        show Steps p.tables e below (T.setTop (mkF m 13 #[.val (.ref a1), .val (.ref a2), .val (.ref a3), .val (.long p4), .second, .val (.ref rb), .val (.int n)] [(.int n)])) _
        refine XS.aload X.here hx rfl (hb hby d6_13) rfl rfl ?_
        show Steps p.tables e below (T.setTop (mkF m 15 #[.val (.ref a1), .val (.ref a2), .val (.ref a3), .val (.long p4), .second, .val (.ref rb), .val (.int n)] [(.ref rb), (.int n)])) _
        refine X.arraylength hx (by rw [eT]; exact Ar.1) (State.isArrayOf_alike hZ.alike Ar.2.1) (g := (mkF m 15 #[.val (.ref a1), .val (.ref a2), .val (.ref a3), .val (.long p4), .second, .val (.ref rb), .val (.int n)] [(.ref rb), (.int n)])) rfl rfl (hb hby d6_15) _ ?_
        rw [len_of Sr Mr]
        show Steps p.tables e below (T.setTop (mkF m 16 #[.val (.ref a1), .val (.ref a2), .val (.ref a3), .val (.long p4), .second, .val (.ref rb), .val (.int n)] [(.int n), (.int n)])) _
        refine XS.icmpYes X.here hx rfl (pc0 := 16) (pc' := 47) rfl (hb hby d6_16) rfl (flt (own_irr n)).2.1 (by decide) (by decide) ?_
        exact Steps.refl _)
      exact ⟨T, locs, X, by rw [eT]; exact K, Nf, by rw [eT]; exact FR, pre5⟩
    | succ k ih =>
      intro i T h locs X eT K Nf i0 ik FR
      obtain ⟨cr, Ar, Sr, Mr, Hr⟩ := id FR
      obtain ⟨cp, Ap, Sp, Mp, Hp⟩ := id (FP.keep K na3)
      have preL : Steps p.tables e below (T.setTop (mkF m 11 #[.val (.ref a1), .val (.ref a2), .val (.ref a3), .val (.long p4), .second, .val (.ref rb), .val (.int i)] [])) (T.setTop (mkF m 11 #[.val (.ref a1), .val (.ref a2), .val (.ref a3), .val (.long p4), .second, .val (.ref rb), .val (.int i)] [])) := Steps.refl _
      have hlt : i < n := by rw [own_lt]; omega
      have hge : ¬ i < 0 := by rw [own_lt]; have e : (0 : Int32).toInt = 0 := rfl; omega
      have hinp : ¬ (i < 0 ∨ cp.slots.size ≤ i.toNatClampNeg) := inb_of Sp ⟨hge, hlt⟩
      have hatp := own_at Hp hinp
      have Zh : n0 ≤ h.size := Nat.le_trans Z0 K.1
      have pre6 : Steps p.tables e below _ (T.setTop (mkF m 27 #[.val (.ref a1), .val (.ref a2), .val (.ref a3), .val (.long p4), .second, .val (.ref rb), .val (.int i)] [(.int (pr i.toNatClampNeg)), (.int i), (.ref rb)])) := preL.trans (by
        show Steps p.tables e below (T.setTop (mkF m 11 #[.val (.ref a1), .val (.ref a2), .val (.ref a3), .val (.long p4), .second, .val (.ref rb), .val (.int i)] [])) _
        refine XS.iload X.here hx rfl (hb hby d6_11) rfl ?_
        show Steps p.tables e below (T.setTop (mkF m 13 #[.val (.ref a1), .val (.ref a2), .val (.ref a3), .val (.long p4), .second, .val (.ref rb), .val (.int i)] [(.int i)])) _
        refine XS.aload X.here hx rfl (hb hby d6_13) rfl rfl ?_
        show Steps p.tables e below (T.setTop (mkF m 15 #[.val (.ref a1), .val (.ref a2), .val (.ref a3), .val (.long p4), .second, .val (.ref rb), .val (.int i)] [(.ref rb), (.int i)])) _
        refine X.arraylength hx (by rw [eT]; exact Ar.1) (State.isArrayOf_alike hZ.alike Ar.2.1) (g := (mkF m 15 #[.val (.ref a1), .val (.ref a2), .val (.ref a3), .val (.long p4), .second, .val (.ref rb), .val (.int i)] [(.ref rb), (.int i)])) rfl rfl (hb hby d6_15) _ ?_
        rw [len_of Sr Mr]
        show Steps p.tables e below (T.setTop (mkF m 16 #[.val (.ref a1), .val (.ref a2), .val (.ref a3), .val (.long p4), .second, .val (.ref rb), .val (.int i)] [(.int n), (.int i)])) _
        refine XS.icmpNo X.here hx rfl (hb hby d6_16) rfl (tlt hlt).2.1 ?_
        show Steps p.tables e below (T.setTop (mkF m 19 #[.val (.ref a1), .val (.ref a2), .val (.ref a3), .val (.long p4), .second, .val (.ref rb), .val (.int i)] [])) _
        refine XS.aload X.here hx rfl (hb hby d6_19) rfl rfl ?_
        show Steps p.tables e below (T.setTop (mkF m 21 #[.val (.ref a1), .val (.ref a2), .val (.ref a3), .val (.long p4), .second, .val (.ref rb), .val (.int i)] [(.ref rb)])) _
        refine XS.iload X.here hx rfl (hb hby d6_21) rfl ?_
        show Steps p.tables e below (T.setTop (mkF m 23 #[.val (.ref a1), .val (.ref a2), .val (.ref a3), .val (.long p4), .second, .val (.ref rb), .val (.int i)] [(.int i), (.ref rb)])) _
        refine XS.aloadN X.here hx rfl (hb hby d6_23) rfl rfl ?_
        show Steps p.tables e below (T.setTop (mkF m 24 #[.val (.ref a1), .val (.ref a2), .val (.ref a3), .val (.long p4), .second, .val (.ref rb), .val (.int i)] [(.ref a3), (.int i), (.ref rb)])) _
        refine XS.iload X.here hx rfl (hb hby d6_24) rfl ?_
        show Steps p.tables e below (T.setTop (mkF m 26 #[.val (.ref a1), .val (.ref a2), .val (.ref a3), .val (.long p4), .second, .val (.ref rb), .val (.int i)] [(.int i), (.ref a3), (.int i), (.ref rb)])) _
        refine X.baloadBooleans hx (j := i) (v := (.int (pr i.toNatClampNeg))) (by rw [eT]; exact Ap.1) (State.isArrayOf_alike hZ.alike Ap.2.1) Ap.2.2 hinp hatp (g := (mkF m 26 #[.val (.ref a1), .val (.ref a2), .val (.ref a3), .val (.long p4), .second, .val (.ref rb), .val (.int i)] [(.int i), (.ref a3), (.int i), (.ref rb)])) rfl rfl (hb hby d6_26) _ ?_
        exact Steps.refl _)
      obtain ⟨T7, l7, X7, N7, e7, pre7⟩ : ∃ (T' : State) (l' : List Loc), Stand p l e ({ frames := 1, cells := 1, slots := 3, locals := 15 } : Room) s m #[(.ref a1), (.ref a2), (.ref a3), (.long p4)] below meth c T' l' 1 3 ∧ Fr n0 l' ∧ T'.heap = h ∧ Steps p.tables e below (T.setTop (mkF m 11 #[.val (.ref a1), .val (.ref a2), .val (.ref a3), .val (.long p4), .second, .val (.ref rb), .val (.int i)] [])) (T'.setTop (mkF m 40 #[.val (.ref a1), .val (.ref a2), .val (.ref a3), .val (.long p4), .second, .val (.ref rb), .val (.int i)] [(.int ((fun k => if pr k = (0 : Int32) then (0 : Int32) else f k) i.toNatClampNeg)), (.int i), (.ref rb)])) := by
        rcases Decidable.em (pr i.toNatClampNeg = (0 : Int32)) with hz | hz
        · have hv : ((fun k => if pr k = (0 : Int32) then (0 : Int32) else f k) i.toNatClampNeg) = (0 : Int32) := if_pos hz
          rw [hv]
          have pre7 : Steps p.tables e below _ (T.setTop (mkF m 40 #[.val (.ref a1), .val (.ref a2), .val (.ref a3), .val (.long p4), .second, .val (.ref rb), .val (.int i)] [(.int (0 : Int32)), (.int i), (.ref rb)])) := pre6.trans (by
            show Steps p.tables e below (T.setTop (mkF m 27 #[.val (.ref a1), .val (.ref a2), .val (.ref a3), .val (.long p4), .second, .val (.ref rb), .val (.int i)] [(.int (pr i.toNatClampNeg)), (.int i), (.ref rb)])) _
            refine XS.ifYes X.here hx rfl (pc0 := 27) (pc' := 39) rfl (hb hby d6_27) rfl ((if0 _ _).trans (teq hz).1) (by decide) (by decide) ?_
            show Steps p.tables e below (T.setTop (mkF m 39 #[.val (.ref a1), .val (.ref a2), .val (.ref a3), .val (.long p4), .second, .val (.ref rb), .val (.int i)] [(.int i), (.ref rb)])) _
            refine XS.iconst X.here hx rfl (hb hby d6_39) ?_
            exact Steps.refl _)
          exact ⟨_, _, X, Nf, eT, pre7⟩
        · have hv : ((fun k => if pr k = (0 : Int32) then (0 : Int32) else f k) i.toNatClampNeg) = f i.toNatClampNeg := if_neg hz
          rw [hv]
          have pre8 : Steps p.tables e below _ (T.setTop (mkF m 33 #[.val (.ref a1), .val (.ref a2), .val (.ref a3), .val (.long p4), .second, .val (.ref rb), .val (.int i)] [(.int i), (.ref a1), (.int i), (.ref rb)])) := pre6.trans (by
            show Steps p.tables e below (T.setTop (mkF m 27 #[.val (.ref a1), .val (.ref a2), .val (.ref a3), .val (.long p4), .second, .val (.ref rb), .val (.int i)] [(.int (pr i.toNatClampNeg)), (.int i), (.ref rb)])) _
            refine XS.ifNo X.here hx rfl (hb hby d6_27) rfl ((if0 _ _).trans (feq hz).1) ?_
            show Steps p.tables e below (T.setTop (mkF m 30 #[.val (.ref a1), .val (.ref a2), .val (.ref a3), .val (.long p4), .second, .val (.ref rb), .val (.int i)] [(.int i), (.ref rb)])) _
            refine XS.aloadN X.here hx rfl (hb hby d6_30) rfl rfl ?_
            show Steps p.tables e below (T.setTop (mkF m 31 #[.val (.ref a1), .val (.ref a2), .val (.ref a3), .val (.long p4), .second, .val (.ref rb), .val (.int i)] [(.ref a1), (.int i), (.ref rb)])) _
            refine XS.iload X.here hx rfl (hb hby d6_31) rfl ?_
            exact Steps.refl _)
          obtain ⟨cq9, kq9, q9a, q9b, q9c⟩ := isOf hZ eT (E.keep K)
          obtain ⟨_, _, ⟨T9, L9, k9, n9⟩, -, X9, ⟨Lc9, hQ9, l9, y9, z9⟩, st9⟩ := X.virtualBackUp hx (owner := "com/example/quillfire/quillfire/AllocationPolicy") (x := (⟨"com/example/quillfire/quillfire/StaticPolicy", "fairShare", "(I)I"⟩ : MethodName)) (y := (⟨"com/example/quillfire/quillfire/AllocationPolicy", "fairShare", "(I)I"⟩ : MethodName)) hown (mvT hZ (hw _ (List.mem_of_getElem? (i := 53) rfl))) (mvT hZ (hw _ (List.mem_of_getElem? (i := 54) rfl))) (mvT hZ (hw _ (List.mem_of_getElem? (i := 55) rfl))) (by decide) (mvT hZ (hw _ (List.mem_of_getElem? (i := 57) rfl))) (mvT hZ (hw _ (List.mem_of_getElem? (i := 56) rfl))) (backOf (W := 2) (rmH l Z a0 hw [] a1 i b n f h n0 Zh (F.keep K na1) (FB.keep K nab) ⟨hge, hlt⟩) hZ (hw _ (List.mem_of_getElem? (i := 58) rfl)) (hw _ (List.mem_of_getElem? (i := 12) rfl)) (by decide) (by decide)) q9a q9c (g := (mkF m 33 #[.val (.ref a1), .val (.ref a2), .val (.ref a3), .val (.long p4), .second, .val (.ref rb), .val (.int i)] [(.int i), (.ref a1), (.int i), (.ref rb)])) rfl (by rw [hml]; rfl) (Steps.refl _) (argsL := [(.int i)]) (rest := [(.int i), (.ref rb)]) (lenOf pd_rmD_1 rfl) rfl (by show 2 * 0 + _ ≤ _; exact Nat.le_of_eq rfl) (hb hby d6_33) (fun _ _ => ⟨rfl, eT, (by decide : 1 + 0 ≤ _), (by decide : 3 + 0 ≤ _)⟩)
          dsimp only [Pt.U, Pt.locs, Pt.cells, Pt.slots] at X9 l9 y9 z9 st9 hQ9
          subst l9 y9 z9
          obtain ⟨rfl, N9q, hh9⟩ := hQ9
          have N9 := Fr.app Nf N9q
          have pre9 : Steps p.tables e below _ (T9.setTop (mkF m 36 #[.val (.ref a1), .val (.ref a2), .val (.ref a3), .val (.long p4), .second, .val (.ref rb), .val (.int i)] [(.int (f i.toNatClampNeg)), (.int i), (.ref rb)])) := pre8.trans (st9)
          have pre10 : Steps p.tables e below _ (T9.setTop (mkF m 40 #[.val (.ref a1), .val (.ref a2), .val (.ref a3), .val (.long p4), .second, .val (.ref rb), .val (.int i)] [(.int (f i.toNatClampNeg)), (.int i), (.ref rb)])) := pre9.trans (by
            show Steps p.tables e below (T9.setTop (mkF m 36 #[.val (.ref a1), .val (.ref a2), .val (.ref a3), .val (.long p4), .second, .val (.ref rb), .val (.int i)] [(.int (f i.toNatClampNeg)), (.int i), (.ref rb)])) _
            refine XS.goto X9.here hx rfl (pc0 := 36) (pc' := 40) rfl (hb hby d6_36) (by decide) (by decide) ?_
            exact Steps.refl _)
          exact ⟨_, _, X9, N9, hh9, pre10⟩
      obtain ⟨cl301, Ar301, S301, M301, H301⟩ := id FR
      have hin301 : ¬ (i < 0 ∨ cl301.slots.size ≤ (i).toNatClampNeg) := inb_of S301 ⟨hge, hlt⟩
      obtain ⟨T301, h301, X301, e301, W301, st301⟩ := stI X7 hx hZ e7 Ar301 (j := i) hin301 (g := (mkF m 40 #[.val (.ref a1), .val (.ref a2), .val (.ref a3), .val (.long p4), .second, .val (.ref rb), .val (.int i)] [(.int ((fun k => if pr k = (0 : Int32) then (0 : Int32) else f k) i.toNatClampNeg)), (.int i), (.ref rb)])) rfl rfl (hb hby d6_40)
      have F301 := Far.set Ar301 S301 M301 H301 W301
      have N301 := Fr.snoc X301 N7 g_rb
      have Z301 : n0 ≤ h301.size := Nat.le_trans Zh (Keep.of_wr W301).1
      have pre301 : Steps p.tables e below _ (T301.setTop (mkF m 41 #[.val (.ref a1), .val (.ref a2), .val (.ref a3), .val (.long p4), .second, .val (.ref rb), .val (.int i)] [])) := pre7.trans (st301 _ (Steps.refl _))
      have K301 := K.wr W301 (Or.inl (List.mem_singleton.mpr rfl))
      have pre302 : Steps p.tables e below _ (T301.setTop (mkF m 11 #[.val (.ref a1), .val (.ref a2), .val (.ref a3), .val (.long p4), .second, .val (.ref rb), .val (.int (i + (1 : Int32)))] [])) := pre301.trans (by
        show Steps p.tables e below (T301.setTop (mkF m 41 #[.val (.ref a1), .val (.ref a2), .val (.ref a3), .val (.long p4), .second, .val (.ref rb), .val (.int i)] [])) _
        refine XS.iinc X301.here hx rfl (hb hby d6_41) rfl (l' := #[.val (.ref a1), .val (.ref a2), .val (.ref a3), .val (.long p4), .second, .val (.ref rb), .val (.int (i + (1 : Int32)))]) rfl ?_
        show Steps p.tables e below (T301.setTop (mkF m 44 #[.val (.ref a1), .val (.ref a2), .val (.ref a3), .val (.long p4), .second, .val (.ref rb), .val (.int (i + (1 : Int32)))] [])) _
        refine XS.goto X301.here hx rfl (pc0 := 44) (pc' := 11) rfl (hb hby d6_44) (by decide) (by decide) ?_
        exact Steps.refl _)
      have ei : (i + (1 : Int32)).toInt = i.toInt + 1 := by have q := c_iadd i 1; simp only [Int32.reduceToInt] at q; have := rng32 (i + 1); have := rng32 n; omega
      obtain ⟨T', locs', X', K', N', F', st'⟩ := ih (i + (1 : Int32)) T301 h301 _ X301 e301 K301 N301 (by omega) (by omega) (F301.congr (fun j hj => by
          have w1 := own_nat i i0; have w2 := own_nat (i + (1 : Int32)) (by omega)
          show (if j = i.toNatClampNeg then ((fun k => if pr k = (0 : Int32) then (0 : Int32) else f k) i.toNatClampNeg) else if j < i.toNatClampNeg then (fun k => if pr k = (0 : Int32) then (0 : Int32) else f k) j else 0) = if j < (i + (1 : Int32)).toNatClampNeg then (fun k => if pr k = (0 : Int32) then (0 : Int32) else f k) j else 0
          by_cases q1 : j = i.toNatClampNeg
          · rw [if_pos q1, if_pos (by omega), q1]
          · rw [if_neg q1]
            by_cases q2 : j < i.toNatClampNeg
            · rw [if_pos q2, if_pos (by omega)]
            · rw [if_neg q2, if_neg (by omega)]))
      exact ⟨T', locs', X', K', N', F', pre302.trans st'⟩
  obtain ⟨T9, l9, X9, K9, N9, F9, st9⟩ := loop n.toInt.toNat (0 : Int32) T3 _ _ X3 e3 K0 N2 (by decide) (by rw [Int.toNat_of_nonneg hn0]; exact Int.zero_add _) (F3.congr (fun j hj => by
      have e : (0 : Int32).toNatClampNeg = 0 := rfl
      rw [e, if_neg (Nat.not_lt_zero j)]))
  have pre99 : Steps p.tables e below _ (T9.setTop (mkF m 47 #[.val (.ref a1), .val (.ref a2), .val (.ref a3), .val (.long p4), .second, .val (.ref rb), .val (.int n)] [])) := pre4.trans st9
  have F10 : Far Z T9.heap rb .int n (fun k => if pr k = (0 : Int32) then (0 : Int32) else f k) := F9.congr (fun j hj => if_pos hj)
  have pre303 : Steps p.tables e below _ (T9.setTop (mkF m 49 #[.val (.ref a1), .val (.ref a2), .val (.ref a3), .val (.long p4), .second, .val (.ref rb), .val (.int n)] [(.ref rb)])) := pre99.trans (by
    show Steps p.tables e below (T9.setTop (mkF m 47 #[.val (.ref a1), .val (.ref a2), .val (.ref a3), .val (.long p4), .second, .val (.ref rb), .val (.int n)] [])) _
    refine XS.aload X9.here hx rfl (hb hby d6_47) rfl rfl ?_
    exact Steps.refl _)
  obtain ⟨fs, hr, hrun, hended, hW, hsame⟩ := X9.leave (v := some (.ref rb)) (fun h => by rw [Bd.returns] at h; cases h)
  refine ⟨_, _, pre303.trans ?_, hrun, hended, _, _, rfl, ?_, ⟨_, rfl⟩, hW, hsame.mono (by decide) (by decide)⟩
  · exact X9.areturnOut hx rfl Bd.returns rfl (hb hby d6_49) hr
  · exact ⟨by rw [g3], N9, by rw [← g3]; exact F10, Nat.le_trans Z0 K9.1⟩
theorem d8_0 : decode method_3_code 0 = .ok (.iload_n 1, 1) := by decide +kernel
theorem d8_1 : decode method_3_code 1 = .ok (.iload_n 2, 1) := by decide +kernel
theorem d8_2 : decode method_3_code 2 = .ok (.if_icmp .lt 5, 3) := by decide +kernel
theorem d8_5 : decode method_3_code 5 = .ok (.iconst 1, 1) := by decide +kernel
theorem d8_6 : decode method_3_code 6 = .ok (.ireturn, 1) := by decide +kernel
theorem d8_7 : decode method_3_code 7 = .ok (.iload_n 3, 1) := by decide +kernel
theorem d8_8 : decode method_3_code 8 = .ok (.ifCond .eq 8, 3) := by decide +kernel
theorem d8_11 : decode method_3_code 11 = .ok (.iload 4, 2) := by decide +kernel
theorem d8_13 : decode method_3_code 13 = .ok (.goto 4, 3) := by decide +kernel
theorem d8_16 : decode method_3_code 16 = .ok (.iconst 0, 1) := by decide +kernel
theorem d8_17 : decode method_3_code 17 = .ok (.istore 5, 2) := by decide +kernel
theorem d8_19 : decode method_3_code 19 = .ok (.aload_n 0, 1) := by decide +kernel
theorem d8_20 : decode method_3_code 20 = .ok (.iload_n 1, 1) := by decide +kernel
theorem d8_21 : decode method_3_code 21 = .ok (.iaload, 1) := by decide +kernel
theorem d8_22 : decode method_3_code 22 = .ok (.iload 5, 2) := by decide +kernel
theorem d8_24 : decode method_3_code 24 = .ok (.if_icmp .ne 7, 3) := by decide +kernel
theorem d8_27 : decode method_3_code 27 = .ok (.iconst 1, 1) := by decide +kernel
theorem d8_28 : decode method_3_code 28 = .ok (.goto 4, 3) := by decide +kernel
theorem d8_32 : decode method_3_code 32 = .ok (.ireturn, 1) := by decide +kernel
theorem pn_rmA : plainName "com/example/quillfire/quillfire/StaticPolicyDividePinLaw" = true := by first | (simp [plainName, overriddenIn]; done) | decide +kernel
theorem ef_rmA (m : MethodId) (a1 : Addr) (p2 : Int32) (p3 : Int32) (p4 : Int32) (p5 : Int32) : entryFrame m #[(.ref a1), (.int p2), (.int p3), (.int p4), (.int p5)] 6 = (mkF m 0 #[.val (.ref a1), .val (.int p2), .val (.int p3), .val (.int p4), .val (.int p5), .unset] []) := by first | (simp [entryFrame, mkF, argsToLocals, Value.category]; done) | rfl
def Q_rmA (Z : State) (a1 : Addr) (p2 : Int32) (p3 : Int32) (p4 : Int32) (p5 : Int32) (g : Nat → Int32) (h0 : Heap) (n0 : Nat) (v : Option Value) (h : Heap) (L : List Loc) : Prop := v = some (.int (1 : Int32)) ∧ Fr n0 L ∧ h = h0
set_option maxRecDepth 65536 in
set_option maxHeartbeats 40000000 in
theorem rmA (l : Launch) (Z : State) (a0 : Array Value) (hw : ∀ d ∈ tables_1, d.before a0 Z = true) (ws : List Jvm.Cond) (a1 : Addr) (p2 : Int32) (p3 : Int32) (p4 : Int32) (p5 : Int32) (g : Nat → Int32) (h0 : Heap) (n0 : Nat) (Z0 : n0 ≤ h0.size) (F : Far Z h0 a1 .int p3 g) (hp : ¬ p2 < (0 : Int32)) (hg : p2 < p3 → g p2.toNatClampNeg = if p4 = (0 : Int32) then (0 : Int32) else p5) :
    MetFree l (⟨"com/example/quillfire/quillfire/StaticPolicyDividePinLaw", "at", "([IIIZI)Z"⟩ : MethodName) (head1 (Jvm.Cond.code (⟨"com/example/quillfire/quillfire/StaticPolicyDividePinLaw", "at", "([IIIZI)Z"⟩ : MethodName) method_3_code 6 (some .boolean) :: ws) ({ frames := 0, cells := 0, slots := 0, locals := 0 } : Room)) (fun a U => a = #[(.ref a1), (.int p2), (.int p3), (.int p4), (.int p5)] ∧ Z.Warmed39 U.vm ∧ U.heap = h0) (fun _ _ _ _ _ => True) (fun _ U o U' => ∃ v L, o = .returned v ∧ Q_rmA Z a1 p2 p3 p4 p5 g h0 n0 v U'.heap L ∧ FrameEnd U o U' L ({ frames := 0, cells := 0, slots := 0, locals := 0 } : Room).cells ({ frames := 0, cells := 0, slots := 0, locals := 0 } : Room).slots) := by
  refine MetFree.of_bodySF (plainFor_of_name pn_rmA) hisR ?_
  intro p e s m args below meth c s₁ Bd hml0 hP hK
  obtain ⟨rfl, hZ, hh⟩ := hP
  have hx := Bd.exec
  have hby := Bd.bytes
  have hml : c.maxLocals = 6 := hml0
  have hown : s.vm.findClass "com/example/quillfire/quillfire/StaticPolicyDividePinLaw" = some m.cls := findClass_of_methodNamed Bd.named
  have hnm := (name_of_methodNamed Bd.named Bd.method).1
  have X0 : Stand p l e ({ frames := 0, cells := 0, slots := 0, locals := 0 } : Room) s m #[(.ref a1), (.int p2), (.int p3), (.int p4), (.int p5)] below meth c s₁ [] 0 0 := Stand.of_body Bd
  have e0 : s₁.heap = h0 := by rw [← hh, Bd.state]; rfl
  have N0 := Fr.nil n0
  have pre0 : Steps p.tables e below (s₁.setTop (entryFrame m #[(.ref a1), (.int p2), (.int p3), (.int p4), (.int p5)] 6)) (s₁.setTop (mkF m 0 #[.val (.ref a1), .val (.int p2), .val (.int p3), .val (.int p4), .val (.int p5), .unset] [])) := castTop (ef_rmA m a1 p2 p3 p4 p5) (Steps.refl _)
  obtain ⟨cl, Ar, S, M, H⟩ := id F
  have pre1 : Steps p.tables e below _ (s₁.setTop (mkF m 2 #[.val (.ref a1), .val (.int p2), .val (.int p3), .val (.int p4), .val (.int p5), .unset] [(.int p3), (.int p2)])) := pre0.trans (by
    show Steps p.tables e below (s₁.setTop (mkF m 0 #[.val (.ref a1), .val (.int p2), .val (.int p3), .val (.int p4), .val (.int p5), .unset] [])) _
    refine XS.iloadN X0.here hx rfl (hb hby d8_0) rfl ?_
    show Steps p.tables e below (s₁.setTop (mkF m 1 #[.val (.ref a1), .val (.int p2), .val (.int p3), .val (.int p4), .val (.int p5), .unset] [(.int p2)])) _
    refine XS.iloadN X0.here hx rfl (hb hby d8_1) rfl ?_
    exact Steps.refl _)
  rcases (Decidable.em (p2 < p3)).symm with h | h
  · have hbr := h
    have pre2 : Steps p.tables e below _ (s₁.setTop (mkF m 6 #[.val (.ref a1), .val (.int p2), .val (.int p3), .val (.int p4), .val (.int p5), .unset] [(.int (1 : Int32))])) := pre1.trans (by
      show Steps p.tables e below (s₁.setTop (mkF m 2 #[.val (.ref a1), .val (.int p2), .val (.int p3), .val (.int p4), .val (.int p5), .unset] [(.int p3), (.int p2)])) _
      refine XS.icmpNo X0.here hx rfl (hb hby d8_2) rfl (flt h).1 ?_
      show Steps p.tables e below (s₁.setTop (mkF m 5 #[.val (.ref a1), .val (.int p2), .val (.int p3), .val (.int p4), .val (.int p5), .unset] [])) _
      refine XS.iconst X0.here hx rfl (hb hby d8_5) ?_
      exact Steps.refl _)
    obtain ⟨fs, hr, hrun, hended, hW, hsame⟩ := X0.leave (v := some (.int (1 : Int32))) (fun h => by rw [Bd.returns] at h; cases h)
    refine ⟨_, _, pre2.trans ?_, hrun, hended, _, _, rfl, ?_, ⟨_, rfl⟩, hW, hsame.mono (by decide) (by decide)⟩
    · exact retN X0 hx (t := .boolean) Bd.returns (by simp) (hb hby d8_6) hr
    · exact ⟨rfl, N0, e0⟩
  · have hin : ¬ (p2 < 0 ∨ cl.slots.size ≤ p2.toNatClampNeg) := inb_of S ⟨hp, h⟩
    have hat := own_at H hin
    rw [hg h] at hat
    rcases Decidable.em (p4 = (0 : Int32)) with hz | hz
    · rw [if_pos hz] at hat
      have pre3 : Steps p.tables e below _ (s₁.setTop (mkF m 32 #[.val (.ref a1), .val (.int p2), .val (.int p3), .val (.int p4), .val (.int p5), .val (.int (0 : Int32))] [(.int (1 : Int32))])) := pre1.trans (by
        show Steps p.tables e below (s₁.setTop (mkF m 2 #[.val (.ref a1), .val (.int p2), .val (.int p3), .val (.int p4), .val (.int p5), .unset] [(.int p3), (.int p2)])) _
        refine XS.icmpYes X0.here hx rfl (pc0 := 2) (pc' := 7) rfl (hb hby d8_2) rfl (tlt h).1 (by decide) (by decide) ?_
        show Steps p.tables e below (s₁.setTop (mkF m 7 #[.val (.ref a1), .val (.int p2), .val (.int p3), .val (.int p4), .val (.int p5), .unset] [])) _
        refine XS.iloadN X0.here hx rfl (hb hby d8_7) rfl ?_
        show Steps p.tables e below (s₁.setTop (mkF m 8 #[.val (.ref a1), .val (.int p2), .val (.int p3), .val (.int p4), .val (.int p5), .unset] [(.int p4)])) _
        refine XS.ifYes X0.here hx rfl (pc0 := 8) (pc' := 16) rfl (hb hby d8_8) rfl ((if0 _ _).trans (teq hz).1) (by decide) (by decide) ?_
        show Steps p.tables e below (s₁.setTop (mkF m 16 #[.val (.ref a1), .val (.int p2), .val (.int p3), .val (.int p4), .val (.int p5), .unset] [])) _
        refine XS.iconst X0.here hx rfl (hb hby d8_16) ?_
        show Steps p.tables e below (s₁.setTop (mkF m 17 #[.val (.ref a1), .val (.int p2), .val (.int p3), .val (.int p4), .val (.int p5), .unset] [(.int (0 : Int32))])) _
        refine XS.istore X0.here hx rfl (hb hby d8_17) rfl (l' := #[.val (.ref a1), .val (.int p2), .val (.int p3), .val (.int p4), .val (.int p5), .val (.int (0 : Int32))]) rfl ?_
        show Steps p.tables e below (s₁.setTop (mkF m 19 #[.val (.ref a1), .val (.int p2), .val (.int p3), .val (.int p4), .val (.int p5), .val (.int (0 : Int32))] [])) _
        refine XS.aloadN X0.here hx rfl (hb hby d8_19) rfl rfl ?_
        show Steps p.tables e below (s₁.setTop (mkF m 20 #[.val (.ref a1), .val (.int p2), .val (.int p3), .val (.int p4), .val (.int p5), .val (.int (0 : Int32))] [(.ref a1)])) _
        refine XS.iloadN X0.here hx rfl (hb hby d8_20) rfl ?_
        show Steps p.tables e below (s₁.setTop (mkF m 21 #[.val (.ref a1), .val (.int p2), .val (.int p3), .val (.int p4), .val (.int p5), .val (.int (0 : Int32))] [(.int p2), (.ref a1)])) _
        refine X0.iaload hx (j := p2) (v := (.int (0 : Int32))) (by rw [e0]; exact Ar.1) (State.isArrayOf_alike hZ.alike Ar.2.1) Ar.2.2 hin hat (g := (mkF m 21 #[.val (.ref a1), .val (.int p2), .val (.int p3), .val (.int p4), .val (.int p5), .val (.int (0 : Int32))] [(.int p2), (.ref a1)])) rfl rfl (hb hby d8_21) _ ?_
        show Steps p.tables e below (s₁.setTop (mkF m 22 #[.val (.ref a1), .val (.int p2), .val (.int p3), .val (.int p4), .val (.int p5), .val (.int (0 : Int32))] [(.int (0 : Int32))])) _
        refine XS.iload X0.here hx rfl (hb hby d8_22) rfl ?_
        show Steps p.tables e below (s₁.setTop (mkF m 24 #[.val (.ref a1), .val (.int p2), .val (.int p3), .val (.int p4), .val (.int p5), .val (.int (0 : Int32))] [(.int (0 : Int32)), (.int (0 : Int32))])) _
        refine XS.icmpNo X0.here hx rfl (hb hby d8_24) rfl (teq (rfl : (0 : Int32) = 0)).2 ?_
        show Steps p.tables e below (s₁.setTop (mkF m 27 #[.val (.ref a1), .val (.int p2), .val (.int p3), .val (.int p4), .val (.int p5), .val (.int (0 : Int32))] [])) _
        refine XS.iconst X0.here hx rfl (hb hby d8_27) ?_
        show Steps p.tables e below (s₁.setTop (mkF m 28 #[.val (.ref a1), .val (.int p2), .val (.int p3), .val (.int p4), .val (.int p5), .val (.int (0 : Int32))] [(.int (1 : Int32))])) _
        refine XS.goto X0.here hx rfl (pc0 := 28) (pc' := 32) rfl (hb hby d8_28) (by decide) (by decide) ?_
        exact Steps.refl _)
      obtain ⟨fs, hr, hrun, hended, hW, hsame⟩ := X0.leave (v := some (.int (1 : Int32))) (fun h => by rw [Bd.returns] at h; cases h)
      refine ⟨_, _, pre3.trans ?_, hrun, hended, _, _, rfl, ?_, ⟨_, rfl⟩, hW, hsame.mono (by decide) (by decide)⟩
      · exact retN X0 hx (t := .boolean) Bd.returns (by simp) (hb hby d8_32) hr
      · exact ⟨rfl, N0, e0⟩
    · rw [if_neg hz] at hat
      have pre4 : Steps p.tables e below _ (s₁.setTop (mkF m 32 #[.val (.ref a1), .val (.int p2), .val (.int p3), .val (.int p4), .val (.int p5), .val (.int p5)] [(.int (1 : Int32))])) := pre1.trans (by
        show Steps p.tables e below (s₁.setTop (mkF m 2 #[.val (.ref a1), .val (.int p2), .val (.int p3), .val (.int p4), .val (.int p5), .unset] [(.int p3), (.int p2)])) _
        refine XS.icmpYes X0.here hx rfl (pc0 := 2) (pc' := 7) rfl (hb hby d8_2) rfl (tlt h).1 (by decide) (by decide) ?_
        show Steps p.tables e below (s₁.setTop (mkF m 7 #[.val (.ref a1), .val (.int p2), .val (.int p3), .val (.int p4), .val (.int p5), .unset] [])) _
        refine XS.iloadN X0.here hx rfl (hb hby d8_7) rfl ?_
        show Steps p.tables e below (s₁.setTop (mkF m 8 #[.val (.ref a1), .val (.int p2), .val (.int p3), .val (.int p4), .val (.int p5), .unset] [(.int p4)])) _
        refine XS.ifNo X0.here hx rfl (hb hby d8_8) rfl ((if0 _ _).trans (feq hz).1) ?_
        show Steps p.tables e below (s₁.setTop (mkF m 11 #[.val (.ref a1), .val (.int p2), .val (.int p3), .val (.int p4), .val (.int p5), .unset] [])) _
        refine XS.iload X0.here hx rfl (hb hby d8_11) rfl ?_
        show Steps p.tables e below (s₁.setTop (mkF m 13 #[.val (.ref a1), .val (.int p2), .val (.int p3), .val (.int p4), .val (.int p5), .unset] [(.int p5)])) _
        refine XS.goto X0.here hx rfl (pc0 := 13) (pc' := 17) rfl (hb hby d8_13) (by decide) (by decide) ?_
        show Steps p.tables e below (s₁.setTop (mkF m 17 #[.val (.ref a1), .val (.int p2), .val (.int p3), .val (.int p4), .val (.int p5), .unset] [(.int p5)])) _
        refine XS.istore X0.here hx rfl (hb hby d8_17) rfl (l' := #[.val (.ref a1), .val (.int p2), .val (.int p3), .val (.int p4), .val (.int p5), .val (.int p5)]) rfl ?_
        show Steps p.tables e below (s₁.setTop (mkF m 19 #[.val (.ref a1), .val (.int p2), .val (.int p3), .val (.int p4), .val (.int p5), .val (.int p5)] [])) _
        refine XS.aloadN X0.here hx rfl (hb hby d8_19) rfl rfl ?_
        show Steps p.tables e below (s₁.setTop (mkF m 20 #[.val (.ref a1), .val (.int p2), .val (.int p3), .val (.int p4), .val (.int p5), .val (.int p5)] [(.ref a1)])) _
        refine XS.iloadN X0.here hx rfl (hb hby d8_20) rfl ?_
        show Steps p.tables e below (s₁.setTop (mkF m 21 #[.val (.ref a1), .val (.int p2), .val (.int p3), .val (.int p4), .val (.int p5), .val (.int p5)] [(.int p2), (.ref a1)])) _
        refine X0.iaload hx (j := p2) (v := (.int p5)) (by rw [e0]; exact Ar.1) (State.isArrayOf_alike hZ.alike Ar.2.1) Ar.2.2 hin hat (g := (mkF m 21 #[.val (.ref a1), .val (.int p2), .val (.int p3), .val (.int p4), .val (.int p5), .val (.int p5)] [(.int p2), (.ref a1)])) rfl rfl (hb hby d8_21) _ ?_
        show Steps p.tables e below (s₁.setTop (mkF m 22 #[.val (.ref a1), .val (.int p2), .val (.int p3), .val (.int p4), .val (.int p5), .val (.int p5)] [(.int p5)])) _
        refine XS.iload X0.here hx rfl (hb hby d8_22) rfl ?_
        show Steps p.tables e below (s₁.setTop (mkF m 24 #[.val (.ref a1), .val (.int p2), .val (.int p3), .val (.int p4), .val (.int p5), .val (.int p5)] [(.int p5), (.int p5)])) _
        refine XS.icmpNo X0.here hx rfl (hb hby d8_24) rfl (teq (rfl : p5 = p5)).2 ?_
        show Steps p.tables e below (s₁.setTop (mkF m 27 #[.val (.ref a1), .val (.int p2), .val (.int p3), .val (.int p4), .val (.int p5), .val (.int p5)] [])) _
        refine XS.iconst X0.here hx rfl (hb hby d8_27) ?_
        show Steps p.tables e below (s₁.setTop (mkF m 28 #[.val (.ref a1), .val (.int p2), .val (.int p3), .val (.int p4), .val (.int p5), .val (.int p5)] [(.int (1 : Int32))])) _
        refine XS.goto X0.here hx rfl (pc0 := 28) (pc' := 32) rfl (hb hby d8_28) (by decide) (by decide) ?_
        exact Steps.refl _)
      obtain ⟨fs, hr, hrun, hended, hW, hsame⟩ := X0.leave (v := some (.int (1 : Int32))) (fun h => by rw [Bd.returns] at h; cases h)
      refine ⟨_, _, pre4.trans ?_, hrun, hended, _, _, rfl, ?_, ⟨_, rfl⟩, hW, hsame.mono (by decide) (by decide)⟩
      · exact retN X0 hx (t := .boolean) Bd.returns (by simp) (hb hby d8_32) hr
      · exact ⟨rfl, N0, e0⟩
def own_b0_0_1 (p6 : Int32) : Int32 := (0 : Int32)
def own_b0_0_2 (p6 : Int32) : Int32 := (1 : Int32)
def own_b0_0_3 (p6 : Int32) : Int32 := if (((p6.toUInt32 >>> ((2 : Int32) &&& 31).toUInt32).toInt32) &&& (1 : Int32)) = (0 : Int32) then own_b0_0_1 p6 else own_b0_0_2 p6
def own_b1_0_1 (p6 : Int32) : Int32 := (0 : Int32)
def own_b1_0_2 (p6 : Int32) : Int32 := (1 : Int32)
def own_b1_0_3 (p6 : Int32) : Int32 := if (((p6.toUInt32 >>> ((3 : Int32) &&& 31).toUInt32).toInt32) &&& (1 : Int32)) = (0 : Int32) then own_b1_0_1 p6 else own_b1_0_2 p6
def own_b2_0_1 (p6 : Int32) : Int32 := (0 : Int32)
def own_b2_0_2 (p6 : Int32) : Int32 := (1 : Int32)
def own_b2_0_3 (p6 : Int32) : Int32 := if (((p6.toUInt32 >>> ((4 : Int32) &&& 31).toUInt32).toInt32) &&& (1 : Int32)) = (0 : Int32) then own_b2_0_1 p6 else own_b2_0_2 p6
def own_d0_0_1 (c0 : Int32) (p4 : Int32) (p5 : Int32) : Int32 := (0 : Int32)
def own_d0_0_2 (c0 : Int32) (p4 : Int32) (p5 : Int32) : Int32 := (p4 &&& (2147483647 : Int32))
def own_d0_0_3 (c0 : Int32) (p4 : Int32) (p5 : Int32) : Int32 := if c0 = (0 : Int32) then own_d0_0_1 c0 p4 p5 else own_d0_0_2 c0 p4 p5
def own_d1_0_1 (c1 : Int32) (p4 : Int32) (p5 : Int32) : Int32 := (0 : Int32)
def own_d1_0_2 (c1 : Int32) (p4 : Int32) (p5 : Int32) : Int32 := (p5 &&& (2147483647 : Int32))
def own_d1_0_3 (c1 : Int32) (p4 : Int32) (p5 : Int32) : Int32 := if c1 = (0 : Int32) then own_d1_0_1 c1 p4 p5 else own_d1_0_2 c1 p4 p5
def own_d2_0_1 (c2 : Int32) (p4 : Int32) (p5 : Int32) : Int32 := (0 : Int32)
def own_d2_0_2 (c2 : Int32) (p4 : Int32) (p5 : Int32) : Int32 := ((p4 ^^^ p5) &&& (2147483647 : Int32))
def own_d2_0_3 (c2 : Int32) (p4 : Int32) (p5 : Int32) : Int32 := if c2 = (0 : Int32) then own_d2_0_1 c2 p4 p5 else own_d2_0_2 c2 p4 p5
def own_po1_0_1 (c0 : Int32) (y0 : Int32) : Int64 := (0 : Int64)
def own_po1_0_2 (c0 : Int32) (y0 : Int32) : Int64 := ((0 : Int64) + (y0.toInt64))
def own_po1_0_3 (c0 : Int32) (y0 : Int32) : Int64 := if c0 = (0 : Int32) then own_po1_0_1 c0 y0 else own_po1_0_2 c0 y0
def own_po2_0_1 (c1 : Int32) (po1 : Int64) (y1 : Int32) : Int64 := po1
def own_po2_0_2 (c1 : Int32) (po1 : Int64) (y1 : Int32) : Int64 := (po1 + (y1.toInt64))
def own_po2_0_3 (c1 : Int32) (po1 : Int64) (y1 : Int32) : Int64 := if c1 = (0 : Int32) then own_po2_0_1 c1 po1 y1 else own_po2_0_2 c1 po1 y1
def own_po3_0_1 (c2 : Int32) (po2 : Int64) (y2 : Int32) : Int64 := po2
def own_po3_0_2 (c2 : Int32) (po2 : Int64) (y2 : Int32) : Int64 := (po2 + (y2.toInt64))
def own_po3_0_3 (c2 : Int32) (po2 : Int64) (y2 : Int32) : Int64 := if c2 = (0 : Int32) then own_po3_0_1 c2 po2 y2 else own_po3_0_2 c2 po2 y2
theorem own_01 (P : Prop) [Decidable P] : (if P then (0 : Int32) else 1) = 0 ∨ (if P then (0 : Int32) else 1) = 1 := by
  by_cases h : P
  · exact Or.inl (if_pos h)
  · exact Or.inr (if_neg h)
theorem own_nar {c : Int32} (h : c = 0 ∨ c = 1) : nar .boolean c = c := by rcases h with rfl | rfl <;> decide
theorem pn_rm0 : plainName "com/example/quillfire/quillfire/StaticPolicyDividePinLaw" = true := by first | (simp [plainName, overriddenIn]; done) | decide +kernel
theorem pd_rm0_0 : parseMethodDescriptor "([I)V" = some ⟨[(.array .int)], none⟩ := by decide +kernel
theorem pd_rm0_1 : parseMethodDescriptor "([I[ZJ)[I" = some ⟨[(.array .int), (.array .boolean), .long], some (.array .int)⟩ := by decide +kernel
theorem pd_rm0_2 : parseMethodDescriptor "([IIIZI)Z" = some ⟨[(.array .int), .int, .int, .boolean, .int], some .boolean⟩ := by decide +kernel
theorem ef_rm0 (m : MethodId) (p1 : Int32) (p2 : Int32) (p3 : Int32) (p4 : Int32) (p5 : Int32) (p6 : Int32) : entryFrame m #[(.int p1), (.int p2), (.int p3), (.int p4), (.int p5), (.int p6)] maxLocals = (mkF m 0 #[.val (.int p1), .val (.int p2), .val (.int p3), .val (.int p4), .val (.int p5), .val (.int p6), .unset, .unset, .unset, .unset, .unset, .unset, .unset, .unset, .unset, .unset, .unset, .unset, .unset, .unset, .unset, .unset, .unset] []) := by first | (simp [entryFrame, mkF, argsToLocals, Value.category, maxLocals]; done) | rfl
def Q_rm0 (Z : State) (p1 : Int32) (p2 : Int32) (p3 : Int32) (p4 : Int32) (p5 : Int32) (p6 : Int32)  (h0 : Heap) (n0 : Nat) (v : Option Value) (h : Heap) (L : List Loc) : Prop := v = some (.int (1 : Int32)) ∧ Fr n0 L
set_option maxRecDepth 65536 in
set_option maxHeartbeats 40000000 in
theorem rm0 (l : Launch) (Z : State) (a0 : Array Value) (hw : ∀ d ∈ tables_1, d.before a0 Z = true) (ws : List Jvm.Cond) (p1 : Int32) (p2 : Int32) (p3 : Int32) (p4 : Int32) (p5 : Int32) (p6 : Int32)  (h0 : Heap) (n0 : Nat) (Z0 : n0 ≤ h0.size)  :
    MetFree l x (head1 (Jvm.Cond.code x code maxLocals ret :: ws) room_1) (fun a U => a = #[(.int p1), (.int p2), (.int p3), (.int p4), (.int p5), (.int p6)] ∧ Z.Warmed39 U.vm ∧ U.heap = h0) (fun _ _ _ _ _ => True) (fun _ U o U' => ∃ v L, o = .returned v ∧ Q_rm0 Z p1 p2 p3 p4 p5 p6 h0 n0 v U'.heap L ∧ FrameEnd U o U' L 6 18) := by
  refine MetFree.of_bodySF (plainFor_of_name pn_rm0) hisR ?_
  intro p e s m args below meth c s₁ Bd hml0 hP hK
  obtain ⟨rfl, hZ, hh⟩ := hP
  have hx := Bd.exec
  have hby := Bd.bytes
  have hml : c.maxLocals = 23 := hml0
  have hown : s.vm.findClass "com/example/quillfire/quillfire/StaticPolicyDividePinLaw" = some m.cls := findClass_of_methodNamed Bd.named
  have hnm := (name_of_methodNamed Bd.named Bd.method).1
  have X0 : Stand p l e room_1 s m #[(.int p1), (.int p2), (.int p3), (.int p4), (.int p5), (.int p6)] below meth c s₁ [] 0 0 := Stand.of_body Bd
  have e0 : s₁.heap = h0 := by rw [← hh, Bd.state]; rfl
  have N0 := Fr.nil n0
  have pre0 : Steps p.tables e below (s₁.setTop (entryFrame m #[(.int p1), (.int p2), (.int p3), (.int p4), (.int p5), (.int p6)] maxLocals)) (s₁.setTop (mkF m 0 #[.val (.int p1), .val (.int p2), .val (.int p3), .val (.int p4), .val (.int p5), .val (.int p6), .unset, .unset, .unset, .unset, .unset, .unset, .unset, .unset, .unset, .unset, .unset, .unset, .unset, .unset, .unset, .unset, .unset] [])) := castTop (ef_rm0 m p1 p2 p3 p4 p5 p6) (Steps.refl _)
  have pre1 : Steps p.tables e below _ (s₁.setTop (mkF m 6 #[.val (.int p1), .val (.int p2), .val (.int p3), .val (.int p4), .val (.int p5), .val (.int p6), .val (.int (p6 &&& (3 : Int32))), .unset, .unset, .unset, .unset, .unset, .unset, .unset, .unset, .unset, .unset, .unset, .unset, .unset, .unset, .unset, .unset] [])) := pre0.trans (by
    show Steps p.tables e below (s₁.setTop (mkF m 0 #[.val (.int p1), .val (.int p2), .val (.int p3), .val (.int p4), .val (.int p5), .val (.int p6), .unset, .unset, .unset, .unset, .unset, .unset, .unset, .unset, .unset, .unset, .unset, .unset, .unset, .unset, .unset, .unset, .unset] [])) _
    refine XS.iload X0.here hx rfl (hb hby at_0) rfl ?_
    show Steps p.tables e below (s₁.setTop (mkF m 2 #[.val (.int p1), .val (.int p2), .val (.int p3), .val (.int p4), .val (.int p5), .val (.int p6), .unset, .unset, .unset, .unset, .unset, .unset, .unset, .unset, .unset, .unset, .unset, .unset, .unset, .unset, .unset, .unset, .unset] [(.int p6)])) _
    refine XS.iconst X0.here hx rfl (hb hby at_2) ?_
    show Steps p.tables e below (s₁.setTop (mkF m 3 #[.val (.int p1), .val (.int p2), .val (.int p3), .val (.int p4), .val (.int p5), .val (.int p6), .unset, .unset, .unset, .unset, .unset, .unset, .unset, .unset, .unset, .unset, .unset, .unset, .unset, .unset, .unset, .unset, .unset] [(.int (3 : Int32)), (.int p6)])) _
    refine XS.iand X0.here hx rfl (hb hby at_3) rfl ?_
    show Steps p.tables e below (s₁.setTop (mkF m 4 #[.val (.int p1), .val (.int p2), .val (.int p3), .val (.int p4), .val (.int p5), .val (.int p6), .unset, .unset, .unset, .unset, .unset, .unset, .unset, .unset, .unset, .unset, .unset, .unset, .unset, .unset, .unset, .unset, .unset] [(.int (p6 &&& (3 : Int32)))])) _
    refine XS.istore X0.here hx rfl (hb hby at_4) rfl (l' := #[.val (.int p1), .val (.int p2), .val (.int p3), .val (.int p4), .val (.int p5), .val (.int p6), .val (.int (p6 &&& (3 : Int32))), .unset, .unset, .unset, .unset, .unset, .unset, .unset, .unset, .unset, .unset, .unset, .unset, .unset, .unset, .unset, .unset]) rfl ?_
    exact Steps.refl _)
  obtain ⟨n, h_n⟩ : ∃ z, z = (p6 &&& (3 : Int32)) := ⟨_, rfl⟩
  rw [← h_n] at pre1
  have bn : 0 ≤ n.toInt ∧ n.toInt ≤ 3 := by have q : (p6 &&& (3 : Int32)).toInt = p6.toInt % 4 := c_mask p6 3 2 (by decide) (by decide); rw [← h_n] at q; omega
  have pre2 : Steps p.tables e below _ (s₁.setTop (mkF m 24 #[.val (.int p1), .val (.int p2), .val (.int p3), .val (.int p4), .val (.int p5), .val (.int p6), .val (.int n), .val (.int (p1 &&& (2147483647 : Int32))), .val (.int (p2 &&& (2147483647 : Int32))), .val (.int (p3 &&& (2147483647 : Int32))), .unset, .unset, .unset, .unset, .unset, .unset, .unset, .unset, .unset, .unset, .unset, .unset, .unset] [])) := pre1.trans (by
    show Steps p.tables e below (s₁.setTop (mkF m 6 #[.val (.int p1), .val (.int p2), .val (.int p3), .val (.int p4), .val (.int p5), .val (.int p6), .val (.int n), .unset, .unset, .unset, .unset, .unset, .unset, .unset, .unset, .unset, .unset, .unset, .unset, .unset, .unset, .unset, .unset] [])) _
    refine XS.iloadN X0.here hx rfl (hb hby at_6) rfl ?_
    show Steps p.tables e below (s₁.setTop (mkF m 7 #[.val (.int p1), .val (.int p2), .val (.int p3), .val (.int p4), .val (.int p5), .val (.int p6), .val (.int n), .unset, .unset, .unset, .unset, .unset, .unset, .unset, .unset, .unset, .unset, .unset, .unset, .unset, .unset, .unset, .unset] [(.int p1)])) _
    refine X0.ldcInt hx hown (mvT hZ (hw _ (List.mem_of_getElem? (i := 0) rfl))) (g := (mkF m 7 #[.val (.int p1), .val (.int p2), .val (.int p3), .val (.int p4), .val (.int p5), .val (.int p6), .val (.int n), .unset, .unset, .unset, .unset, .unset, .unset, .unset, .unset, .unset, .unset, .unset, .unset, .unset, .unset, .unset, .unset] [(.int p1)])) rfl (hb hby at_7) _ ?_
    show Steps p.tables e below (s₁.setTop (mkF m 9 #[.val (.int p1), .val (.int p2), .val (.int p3), .val (.int p4), .val (.int p5), .val (.int p6), .val (.int n), .unset, .unset, .unset, .unset, .unset, .unset, .unset, .unset, .unset, .unset, .unset, .unset, .unset, .unset, .unset, .unset] [(.int (2147483647 : Int32)), (.int p1)])) _
    refine XS.iand X0.here hx rfl (hb hby at_9) rfl ?_
    show Steps p.tables e below (s₁.setTop (mkF m 10 #[.val (.int p1), .val (.int p2), .val (.int p3), .val (.int p4), .val (.int p5), .val (.int p6), .val (.int n), .unset, .unset, .unset, .unset, .unset, .unset, .unset, .unset, .unset, .unset, .unset, .unset, .unset, .unset, .unset, .unset] [(.int (p1 &&& (2147483647 : Int32)))])) _
    refine XS.istore X0.here hx rfl (hb hby at_10) rfl (l' := #[.val (.int p1), .val (.int p2), .val (.int p3), .val (.int p4), .val (.int p5), .val (.int p6), .val (.int n), .val (.int (p1 &&& (2147483647 : Int32))), .unset, .unset, .unset, .unset, .unset, .unset, .unset, .unset, .unset, .unset, .unset, .unset, .unset, .unset, .unset]) rfl ?_
    show Steps p.tables e below (s₁.setTop (mkF m 12 #[.val (.int p1), .val (.int p2), .val (.int p3), .val (.int p4), .val (.int p5), .val (.int p6), .val (.int n), .val (.int (p1 &&& (2147483647 : Int32))), .unset, .unset, .unset, .unset, .unset, .unset, .unset, .unset, .unset, .unset, .unset, .unset, .unset, .unset, .unset] [])) _
    refine XS.iloadN X0.here hx rfl (hb hby at_12) rfl ?_
    show Steps p.tables e below (s₁.setTop (mkF m 13 #[.val (.int p1), .val (.int p2), .val (.int p3), .val (.int p4), .val (.int p5), .val (.int p6), .val (.int n), .val (.int (p1 &&& (2147483647 : Int32))), .unset, .unset, .unset, .unset, .unset, .unset, .unset, .unset, .unset, .unset, .unset, .unset, .unset, .unset, .unset] [(.int p2)])) _
    refine X0.ldcInt hx hown (mvT hZ (hw _ (List.mem_of_getElem? (i := 0) rfl))) (g := (mkF m 13 #[.val (.int p1), .val (.int p2), .val (.int p3), .val (.int p4), .val (.int p5), .val (.int p6), .val (.int n), .val (.int (p1 &&& (2147483647 : Int32))), .unset, .unset, .unset, .unset, .unset, .unset, .unset, .unset, .unset, .unset, .unset, .unset, .unset, .unset, .unset] [(.int p2)])) rfl (hb hby at_13) _ ?_
    show Steps p.tables e below (s₁.setTop (mkF m 15 #[.val (.int p1), .val (.int p2), .val (.int p3), .val (.int p4), .val (.int p5), .val (.int p6), .val (.int n), .val (.int (p1 &&& (2147483647 : Int32))), .unset, .unset, .unset, .unset, .unset, .unset, .unset, .unset, .unset, .unset, .unset, .unset, .unset, .unset, .unset] [(.int (2147483647 : Int32)), (.int p2)])) _
    refine XS.iand X0.here hx rfl (hb hby at_15) rfl ?_
    show Steps p.tables e below (s₁.setTop (mkF m 16 #[.val (.int p1), .val (.int p2), .val (.int p3), .val (.int p4), .val (.int p5), .val (.int p6), .val (.int n), .val (.int (p1 &&& (2147483647 : Int32))), .unset, .unset, .unset, .unset, .unset, .unset, .unset, .unset, .unset, .unset, .unset, .unset, .unset, .unset, .unset] [(.int (p2 &&& (2147483647 : Int32)))])) _
    refine XS.istore X0.here hx rfl (hb hby at_16) rfl (l' := #[.val (.int p1), .val (.int p2), .val (.int p3), .val (.int p4), .val (.int p5), .val (.int p6), .val (.int n), .val (.int (p1 &&& (2147483647 : Int32))), .val (.int (p2 &&& (2147483647 : Int32))), .unset, .unset, .unset, .unset, .unset, .unset, .unset, .unset, .unset, .unset, .unset, .unset, .unset, .unset]) rfl ?_
    show Steps p.tables e below (s₁.setTop (mkF m 18 #[.val (.int p1), .val (.int p2), .val (.int p3), .val (.int p4), .val (.int p5), .val (.int p6), .val (.int n), .val (.int (p1 &&& (2147483647 : Int32))), .val (.int (p2 &&& (2147483647 : Int32))), .unset, .unset, .unset, .unset, .unset, .unset, .unset, .unset, .unset, .unset, .unset, .unset, .unset, .unset] [])) _
    refine XS.iloadN X0.here hx rfl (hb hby at_18) rfl ?_
    show Steps p.tables e below (s₁.setTop (mkF m 19 #[.val (.int p1), .val (.int p2), .val (.int p3), .val (.int p4), .val (.int p5), .val (.int p6), .val (.int n), .val (.int (p1 &&& (2147483647 : Int32))), .val (.int (p2 &&& (2147483647 : Int32))), .unset, .unset, .unset, .unset, .unset, .unset, .unset, .unset, .unset, .unset, .unset, .unset, .unset, .unset] [(.int p3)])) _
    refine X0.ldcInt hx hown (mvT hZ (hw _ (List.mem_of_getElem? (i := 0) rfl))) (g := (mkF m 19 #[.val (.int p1), .val (.int p2), .val (.int p3), .val (.int p4), .val (.int p5), .val (.int p6), .val (.int n), .val (.int (p1 &&& (2147483647 : Int32))), .val (.int (p2 &&& (2147483647 : Int32))), .unset, .unset, .unset, .unset, .unset, .unset, .unset, .unset, .unset, .unset, .unset, .unset, .unset, .unset] [(.int p3)])) rfl (hb hby at_19) _ ?_
    show Steps p.tables e below (s₁.setTop (mkF m 21 #[.val (.int p1), .val (.int p2), .val (.int p3), .val (.int p4), .val (.int p5), .val (.int p6), .val (.int n), .val (.int (p1 &&& (2147483647 : Int32))), .val (.int (p2 &&& (2147483647 : Int32))), .unset, .unset, .unset, .unset, .unset, .unset, .unset, .unset, .unset, .unset, .unset, .unset, .unset, .unset] [(.int (2147483647 : Int32)), (.int p3)])) _
    refine XS.iand X0.here hx rfl (hb hby at_21) rfl ?_
    show Steps p.tables e below (s₁.setTop (mkF m 22 #[.val (.int p1), .val (.int p2), .val (.int p3), .val (.int p4), .val (.int p5), .val (.int p6), .val (.int n), .val (.int (p1 &&& (2147483647 : Int32))), .val (.int (p2 &&& (2147483647 : Int32))), .unset, .unset, .unset, .unset, .unset, .unset, .unset, .unset, .unset, .unset, .unset, .unset, .unset, .unset] [(.int (p3 &&& (2147483647 : Int32)))])) _
    refine XS.istore X0.here hx rfl (hb hby at_22) rfl (l' := #[.val (.int p1), .val (.int p2), .val (.int p3), .val (.int p4), .val (.int p5), .val (.int p6), .val (.int n), .val (.int (p1 &&& (2147483647 : Int32))), .val (.int (p2 &&& (2147483647 : Int32))), .val (.int (p3 &&& (2147483647 : Int32))), .unset, .unset, .unset, .unset, .unset, .unset, .unset, .unset, .unset, .unset, .unset, .unset, .unset]) rfl ?_
    exact Steps.refl _)
  obtain ⟨y0, h_y0⟩ : ∃ z, z = (p1 &&& (2147483647 : Int32)) := ⟨_, rfl⟩
  rw [← h_y0] at pre2
  have ba0 : ¬ y0 < (0 : Int32) := by have q : (p1 &&& (2147483647 : Int32)).toInt = p1.toInt % 2147483648 := c_mask p1 2147483647 31 (by decide) (by decide); rw [← h_y0] at q; rw [own_lt]; have e : (0 : Int32).toInt = 0 := rfl; omega
  obtain ⟨y1, h_y1⟩ : ∃ z, z = (p2 &&& (2147483647 : Int32)) := ⟨_, rfl⟩
  rw [← h_y1] at pre2
  have ba1 : ¬ y1 < (0 : Int32) := by have q : (p2 &&& (2147483647 : Int32)).toInt = p2.toInt % 2147483648 := c_mask p2 2147483647 31 (by decide) (by decide); rw [← h_y1] at q; rw [own_lt]; have e : (0 : Int32).toInt = 0 := rfl; omega
  obtain ⟨y2, h_y2⟩ : ∃ z, z = (p3 &&& (2147483647 : Int32)) := ⟨_, rfl⟩
  rw [← h_y2] at pre2
  have ba2 : ¬ y2 < (0 : Int32) := by have q : (p3 &&& (2147483647 : Int32)).toInt = p3.toInt % 2147483648 := c_mask p3 2147483647 31 (by decide) (by decide); rw [← h_y2] at q; rw [own_lt]; have e : (0 : Int32).toInt = 0 := rfl; omega
  obtain ⟨c0, h_c0⟩ : ∃ z, z = own_b0_0_3 p6 := ⟨_, rfl⟩
  have Bb0_1 (hv0 : c0 = own_b0_0_1 p6) : Steps p.tables e below (s₁.setTop (mkF m 37 #[.val (.int p1), .val (.int p2), .val (.int p3), .val (.int p4), .val (.int p5), .val (.int p6), .val (.int n), .val (.int y0), .val (.int y1), .val (.int y2), .unset, .unset, .unset, .unset, .unset, .unset, .unset, .unset, .unset, .unset, .unset, .unset, .unset] [])) (s₁.setTop (mkF m 38 #[.val (.int p1), .val (.int p2), .val (.int p3), .val (.int p4), .val (.int p5), .val (.int p6), .val (.int n), .val (.int y0), .val (.int y1), .val (.int y2), .unset, .unset, .unset, .unset, .unset, .unset, .unset, .unset, .unset, .unset, .unset, .unset, .unset] [(.int c0)])) := by
    have hw0 : c0 = (0 : Int32) := hv0
    rw [hw0]
    show Steps p.tables e below (s₁.setTop (mkF m 37 #[.val (.int p1), .val (.int p2), .val (.int p3), .val (.int p4), .val (.int p5), .val (.int p6), .val (.int n), .val (.int y0), .val (.int y1), .val (.int y2), .unset, .unset, .unset, .unset, .unset, .unset, .unset, .unset, .unset, .unset, .unset, .unset, .unset] [])) _
    refine XS.iconst X0.here hx rfl (hb hby at_37) ?_
    exact Steps.refl _
  have Bb0_2 (hv0 : c0 = own_b0_0_2 p6) : Steps p.tables e below (s₁.setTop (mkF m 33 #[.val (.int p1), .val (.int p2), .val (.int p3), .val (.int p4), .val (.int p5), .val (.int p6), .val (.int n), .val (.int y0), .val (.int y1), .val (.int y2), .unset, .unset, .unset, .unset, .unset, .unset, .unset, .unset, .unset, .unset, .unset, .unset, .unset] [])) (s₁.setTop (mkF m 38 #[.val (.int p1), .val (.int p2), .val (.int p3), .val (.int p4), .val (.int p5), .val (.int p6), .val (.int n), .val (.int y0), .val (.int y1), .val (.int y2), .unset, .unset, .unset, .unset, .unset, .unset, .unset, .unset, .unset, .unset, .unset, .unset, .unset] [(.int c0)])) := by
    have hw0 : c0 = (1 : Int32) := hv0
    rw [hw0]
    show Steps p.tables e below (s₁.setTop (mkF m 33 #[.val (.int p1), .val (.int p2), .val (.int p3), .val (.int p4), .val (.int p5), .val (.int p6), .val (.int n), .val (.int y0), .val (.int y1), .val (.int y2), .unset, .unset, .unset, .unset, .unset, .unset, .unset, .unset, .unset, .unset, .unset, .unset, .unset] [])) _
    refine XS.iconst X0.here hx rfl (hb hby at_33) ?_
    show Steps p.tables e below (s₁.setTop (mkF m 34 #[.val (.int p1), .val (.int p2), .val (.int p3), .val (.int p4), .val (.int p5), .val (.int p6), .val (.int n), .val (.int y0), .val (.int y1), .val (.int y2), .unset, .unset, .unset, .unset, .unset, .unset, .unset, .unset, .unset, .unset, .unset, .unset, .unset] [(.int (1 : Int32))])) _
    refine XS.goto X0.here hx rfl (pc0 := 34) (pc' := 38) rfl (hb hby at_34) (by decide) (by decide) ?_
    exact Steps.refl _
  have Bb0_3 (hv0 : c0 = own_b0_0_3 p6) : Steps p.tables e below (s₁.setTop (mkF m 24 #[.val (.int p1), .val (.int p2), .val (.int p3), .val (.int p4), .val (.int p5), .val (.int p6), .val (.int n), .val (.int y0), .val (.int y1), .val (.int y2), .unset, .unset, .unset, .unset, .unset, .unset, .unset, .unset, .unset, .unset, .unset, .unset, .unset] [])) (s₁.setTop (mkF m 38 #[.val (.int p1), .val (.int p2), .val (.int p3), .val (.int p4), .val (.int p5), .val (.int p6), .val (.int n), .val (.int y0), .val (.int y1), .val (.int y2), .unset, .unset, .unset, .unset, .unset, .unset, .unset, .unset, .unset, .unset, .unset, .unset, .unset] [(.int c0)])) := by
    show Steps p.tables e below (s₁.setTop (mkF m 24 #[.val (.int p1), .val (.int p2), .val (.int p3), .val (.int p4), .val (.int p5), .val (.int p6), .val (.int n), .val (.int y0), .val (.int y1), .val (.int y2), .unset, .unset, .unset, .unset, .unset, .unset, .unset, .unset, .unset, .unset, .unset, .unset, .unset] [])) _
    refine XS.iload X0.here hx rfl (hb hby at_24) rfl ?_
    show Steps p.tables e below (s₁.setTop (mkF m 26 #[.val (.int p1), .val (.int p2), .val (.int p3), .val (.int p4), .val (.int p5), .val (.int p6), .val (.int n), .val (.int y0), .val (.int y1), .val (.int y2), .unset, .unset, .unset, .unset, .unset, .unset, .unset, .unset, .unset, .unset, .unset, .unset, .unset] [(.int p6)])) _
    refine XS.iconst X0.here hx rfl (hb hby at_26) ?_
    show Steps p.tables e below (s₁.setTop (mkF m 27 #[.val (.int p1), .val (.int p2), .val (.int p3), .val (.int p4), .val (.int p5), .val (.int p6), .val (.int n), .val (.int y0), .val (.int y1), .val (.int y2), .unset, .unset, .unset, .unset, .unset, .unset, .unset, .unset, .unset, .unset, .unset, .unset, .unset] [(.int (2 : Int32)), (.int p6)])) _
    refine XS.iushr X0.here hx rfl (hb hby at_27) rfl ?_
    show Steps p.tables e below (s₁.setTop (mkF m 28 #[.val (.int p1), .val (.int p2), .val (.int p3), .val (.int p4), .val (.int p5), .val (.int p6), .val (.int n), .val (.int y0), .val (.int y1), .val (.int y2), .unset, .unset, .unset, .unset, .unset, .unset, .unset, .unset, .unset, .unset, .unset, .unset, .unset] [(.int ((p6.toUInt32 >>> ((2 : Int32) &&& 31).toUInt32).toInt32))])) _
    refine XS.iconst X0.here hx rfl (hb hby at_28) ?_
    show Steps p.tables e below (s₁.setTop (mkF m 29 #[.val (.int p1), .val (.int p2), .val (.int p3), .val (.int p4), .val (.int p5), .val (.int p6), .val (.int n), .val (.int y0), .val (.int y1), .val (.int y2), .unset, .unset, .unset, .unset, .unset, .unset, .unset, .unset, .unset, .unset, .unset, .unset, .unset] [(.int (1 : Int32)), (.int ((p6.toUInt32 >>> ((2 : Int32) &&& 31).toUInt32).toInt32))])) _
    refine XS.iand X0.here hx rfl (hb hby at_29) rfl ?_
    show Steps p.tables e below (s₁.setTop (mkF m 30 #[.val (.int p1), .val (.int p2), .val (.int p3), .val (.int p4), .val (.int p5), .val (.int p6), .val (.int n), .val (.int y0), .val (.int y1), .val (.int y2), .unset, .unset, .unset, .unset, .unset, .unset, .unset, .unset, .unset, .unset, .unset, .unset, .unset] [(.int (((p6.toUInt32 >>> ((2 : Int32) &&& 31).toUInt32).toInt32) &&& (1 : Int32)))])) _
    by_cases h30 : (((p6.toUInt32 >>> ((2 : Int32) &&& 31).toUInt32).toInt32) &&& (1 : Int32)) = (0 : Int32)
    · refine XS.ifYes X0.here hx rfl (pc0 := 30) (pc' := 37) rfl (hb hby at_30) rfl ((if0 _ _).trans (teq h30).1) (by decide) (by decide) ?_
      exact Bb0_1 (hv0.trans (if_pos h30))
    · refine XS.ifNo X0.here hx rfl (hb hby at_30) rfl ((if0 _ _).trans (feq h30).1) ?_
      exact Bb0_2 (hv0.trans (if_neg h30))
  have pre3 : Steps p.tables e below _ (s₁.setTop (mkF m 38 #[.val (.int p1), .val (.int p2), .val (.int p3), .val (.int p4), .val (.int p5), .val (.int p6), .val (.int n), .val (.int y0), .val (.int y1), .val (.int y2), .unset, .unset, .unset, .unset, .unset, .unset, .unset, .unset, .unset, .unset, .unset, .unset, .unset] [(.int c0)])) := pre2.trans (Bb0_3 h_c0)
  have bc0 : c0 = 0 ∨ c0 = 1 := by rw [h_c0]; exact own_01 _
  have pre4 : Steps p.tables e below _ (s₁.setTop (mkF m 40 #[.val (.int p1), .val (.int p2), .val (.int p3), .val (.int p4), .val (.int p5), .val (.int p6), .val (.int n), .val (.int y0), .val (.int y1), .val (.int y2), .val (.int c0), .unset, .unset, .unset, .unset, .unset, .unset, .unset, .unset, .unset, .unset, .unset, .unset] [])) := pre3.trans (by
    show Steps p.tables e below (s₁.setTop (mkF m 38 #[.val (.int p1), .val (.int p2), .val (.int p3), .val (.int p4), .val (.int p5), .val (.int p6), .val (.int n), .val (.int y0), .val (.int y1), .val (.int y2), .unset, .unset, .unset, .unset, .unset, .unset, .unset, .unset, .unset, .unset, .unset, .unset, .unset] [(.int c0)])) _
    refine XS.istore X0.here hx rfl (hb hby at_38) rfl (l' := #[.val (.int p1), .val (.int p2), .val (.int p3), .val (.int p4), .val (.int p5), .val (.int p6), .val (.int n), .val (.int y0), .val (.int y1), .val (.int y2), .val (.int c0), .unset, .unset, .unset, .unset, .unset, .unset, .unset, .unset, .unset, .unset, .unset, .unset]) rfl ?_
    exact Steps.refl _)
  obtain ⟨c1, h_c1⟩ : ∃ z, z = own_b1_0_3 p6 := ⟨_, rfl⟩
  have Bb1_1 (hv0 : c1 = own_b1_0_1 p6) : Steps p.tables e below (s₁.setTop (mkF m 53 #[.val (.int p1), .val (.int p2), .val (.int p3), .val (.int p4), .val (.int p5), .val (.int p6), .val (.int n), .val (.int y0), .val (.int y1), .val (.int y2), .val (.int c0), .unset, .unset, .unset, .unset, .unset, .unset, .unset, .unset, .unset, .unset, .unset, .unset] [])) (s₁.setTop (mkF m 54 #[.val (.int p1), .val (.int p2), .val (.int p3), .val (.int p4), .val (.int p5), .val (.int p6), .val (.int n), .val (.int y0), .val (.int y1), .val (.int y2), .val (.int c0), .unset, .unset, .unset, .unset, .unset, .unset, .unset, .unset, .unset, .unset, .unset, .unset] [(.int c1)])) := by
    have hw0 : c1 = (0 : Int32) := hv0
    rw [hw0]
    show Steps p.tables e below (s₁.setTop (mkF m 53 #[.val (.int p1), .val (.int p2), .val (.int p3), .val (.int p4), .val (.int p5), .val (.int p6), .val (.int n), .val (.int y0), .val (.int y1), .val (.int y2), .val (.int c0), .unset, .unset, .unset, .unset, .unset, .unset, .unset, .unset, .unset, .unset, .unset, .unset] [])) _
    refine XS.iconst X0.here hx rfl (hb hby at_53) ?_
    exact Steps.refl _
  have Bb1_2 (hv0 : c1 = own_b1_0_2 p6) : Steps p.tables e below (s₁.setTop (mkF m 49 #[.val (.int p1), .val (.int p2), .val (.int p3), .val (.int p4), .val (.int p5), .val (.int p6), .val (.int n), .val (.int y0), .val (.int y1), .val (.int y2), .val (.int c0), .unset, .unset, .unset, .unset, .unset, .unset, .unset, .unset, .unset, .unset, .unset, .unset] [])) (s₁.setTop (mkF m 54 #[.val (.int p1), .val (.int p2), .val (.int p3), .val (.int p4), .val (.int p5), .val (.int p6), .val (.int n), .val (.int y0), .val (.int y1), .val (.int y2), .val (.int c0), .unset, .unset, .unset, .unset, .unset, .unset, .unset, .unset, .unset, .unset, .unset, .unset] [(.int c1)])) := by
    have hw0 : c1 = (1 : Int32) := hv0
    rw [hw0]
    show Steps p.tables e below (s₁.setTop (mkF m 49 #[.val (.int p1), .val (.int p2), .val (.int p3), .val (.int p4), .val (.int p5), .val (.int p6), .val (.int n), .val (.int y0), .val (.int y1), .val (.int y2), .val (.int c0), .unset, .unset, .unset, .unset, .unset, .unset, .unset, .unset, .unset, .unset, .unset, .unset] [])) _
    refine XS.iconst X0.here hx rfl (hb hby at_49) ?_
    show Steps p.tables e below (s₁.setTop (mkF m 50 #[.val (.int p1), .val (.int p2), .val (.int p3), .val (.int p4), .val (.int p5), .val (.int p6), .val (.int n), .val (.int y0), .val (.int y1), .val (.int y2), .val (.int c0), .unset, .unset, .unset, .unset, .unset, .unset, .unset, .unset, .unset, .unset, .unset, .unset] [(.int (1 : Int32))])) _
    refine XS.goto X0.here hx rfl (pc0 := 50) (pc' := 54) rfl (hb hby at_50) (by decide) (by decide) ?_
    exact Steps.refl _
  have Bb1_3 (hv0 : c1 = own_b1_0_3 p6) : Steps p.tables e below (s₁.setTop (mkF m 40 #[.val (.int p1), .val (.int p2), .val (.int p3), .val (.int p4), .val (.int p5), .val (.int p6), .val (.int n), .val (.int y0), .val (.int y1), .val (.int y2), .val (.int c0), .unset, .unset, .unset, .unset, .unset, .unset, .unset, .unset, .unset, .unset, .unset, .unset] [])) (s₁.setTop (mkF m 54 #[.val (.int p1), .val (.int p2), .val (.int p3), .val (.int p4), .val (.int p5), .val (.int p6), .val (.int n), .val (.int y0), .val (.int y1), .val (.int y2), .val (.int c0), .unset, .unset, .unset, .unset, .unset, .unset, .unset, .unset, .unset, .unset, .unset, .unset] [(.int c1)])) := by
    show Steps p.tables e below (s₁.setTop (mkF m 40 #[.val (.int p1), .val (.int p2), .val (.int p3), .val (.int p4), .val (.int p5), .val (.int p6), .val (.int n), .val (.int y0), .val (.int y1), .val (.int y2), .val (.int c0), .unset, .unset, .unset, .unset, .unset, .unset, .unset, .unset, .unset, .unset, .unset, .unset] [])) _
    refine XS.iload X0.here hx rfl (hb hby at_40) rfl ?_
    show Steps p.tables e below (s₁.setTop (mkF m 42 #[.val (.int p1), .val (.int p2), .val (.int p3), .val (.int p4), .val (.int p5), .val (.int p6), .val (.int n), .val (.int y0), .val (.int y1), .val (.int y2), .val (.int c0), .unset, .unset, .unset, .unset, .unset, .unset, .unset, .unset, .unset, .unset, .unset, .unset] [(.int p6)])) _
    refine XS.iconst X0.here hx rfl (hb hby at_42) ?_
    show Steps p.tables e below (s₁.setTop (mkF m 43 #[.val (.int p1), .val (.int p2), .val (.int p3), .val (.int p4), .val (.int p5), .val (.int p6), .val (.int n), .val (.int y0), .val (.int y1), .val (.int y2), .val (.int c0), .unset, .unset, .unset, .unset, .unset, .unset, .unset, .unset, .unset, .unset, .unset, .unset] [(.int (3 : Int32)), (.int p6)])) _
    refine XS.iushr X0.here hx rfl (hb hby at_43) rfl ?_
    show Steps p.tables e below (s₁.setTop (mkF m 44 #[.val (.int p1), .val (.int p2), .val (.int p3), .val (.int p4), .val (.int p5), .val (.int p6), .val (.int n), .val (.int y0), .val (.int y1), .val (.int y2), .val (.int c0), .unset, .unset, .unset, .unset, .unset, .unset, .unset, .unset, .unset, .unset, .unset, .unset] [(.int ((p6.toUInt32 >>> ((3 : Int32) &&& 31).toUInt32).toInt32))])) _
    refine XS.iconst X0.here hx rfl (hb hby at_44) ?_
    show Steps p.tables e below (s₁.setTop (mkF m 45 #[.val (.int p1), .val (.int p2), .val (.int p3), .val (.int p4), .val (.int p5), .val (.int p6), .val (.int n), .val (.int y0), .val (.int y1), .val (.int y2), .val (.int c0), .unset, .unset, .unset, .unset, .unset, .unset, .unset, .unset, .unset, .unset, .unset, .unset] [(.int (1 : Int32)), (.int ((p6.toUInt32 >>> ((3 : Int32) &&& 31).toUInt32).toInt32))])) _
    refine XS.iand X0.here hx rfl (hb hby at_45) rfl ?_
    show Steps p.tables e below (s₁.setTop (mkF m 46 #[.val (.int p1), .val (.int p2), .val (.int p3), .val (.int p4), .val (.int p5), .val (.int p6), .val (.int n), .val (.int y0), .val (.int y1), .val (.int y2), .val (.int c0), .unset, .unset, .unset, .unset, .unset, .unset, .unset, .unset, .unset, .unset, .unset, .unset] [(.int (((p6.toUInt32 >>> ((3 : Int32) &&& 31).toUInt32).toInt32) &&& (1 : Int32)))])) _
    by_cases h46 : (((p6.toUInt32 >>> ((3 : Int32) &&& 31).toUInt32).toInt32) &&& (1 : Int32)) = (0 : Int32)
    · refine XS.ifYes X0.here hx rfl (pc0 := 46) (pc' := 53) rfl (hb hby at_46) rfl ((if0 _ _).trans (teq h46).1) (by decide) (by decide) ?_
      exact Bb1_1 (hv0.trans (if_pos h46))
    · refine XS.ifNo X0.here hx rfl (hb hby at_46) rfl ((if0 _ _).trans (feq h46).1) ?_
      exact Bb1_2 (hv0.trans (if_neg h46))
  have pre5 : Steps p.tables e below _ (s₁.setTop (mkF m 54 #[.val (.int p1), .val (.int p2), .val (.int p3), .val (.int p4), .val (.int p5), .val (.int p6), .val (.int n), .val (.int y0), .val (.int y1), .val (.int y2), .val (.int c0), .unset, .unset, .unset, .unset, .unset, .unset, .unset, .unset, .unset, .unset, .unset, .unset] [(.int c1)])) := pre4.trans (Bb1_3 h_c1)
  have bc1 : c1 = 0 ∨ c1 = 1 := by rw [h_c1]; exact own_01 _
  have pre6 : Steps p.tables e below _ (s₁.setTop (mkF m 56 #[.val (.int p1), .val (.int p2), .val (.int p3), .val (.int p4), .val (.int p5), .val (.int p6), .val (.int n), .val (.int y0), .val (.int y1), .val (.int y2), .val (.int c0), .val (.int c1), .unset, .unset, .unset, .unset, .unset, .unset, .unset, .unset, .unset, .unset, .unset] [])) := pre5.trans (by
    show Steps p.tables e below (s₁.setTop (mkF m 54 #[.val (.int p1), .val (.int p2), .val (.int p3), .val (.int p4), .val (.int p5), .val (.int p6), .val (.int n), .val (.int y0), .val (.int y1), .val (.int y2), .val (.int c0), .unset, .unset, .unset, .unset, .unset, .unset, .unset, .unset, .unset, .unset, .unset, .unset] [(.int c1)])) _
    refine XS.istore X0.here hx rfl (hb hby at_54) rfl (l' := #[.val (.int p1), .val (.int p2), .val (.int p3), .val (.int p4), .val (.int p5), .val (.int p6), .val (.int n), .val (.int y0), .val (.int y1), .val (.int y2), .val (.int c0), .val (.int c1), .unset, .unset, .unset, .unset, .unset, .unset, .unset, .unset, .unset, .unset, .unset]) rfl ?_
    exact Steps.refl _)
  obtain ⟨c2, h_c2⟩ : ∃ z, z = own_b2_0_3 p6 := ⟨_, rfl⟩
  have Bb2_1 (hv0 : c2 = own_b2_0_1 p6) : Steps p.tables e below (s₁.setTop (mkF m 69 #[.val (.int p1), .val (.int p2), .val (.int p3), .val (.int p4), .val (.int p5), .val (.int p6), .val (.int n), .val (.int y0), .val (.int y1), .val (.int y2), .val (.int c0), .val (.int c1), .unset, .unset, .unset, .unset, .unset, .unset, .unset, .unset, .unset, .unset, .unset] [])) (s₁.setTop (mkF m 70 #[.val (.int p1), .val (.int p2), .val (.int p3), .val (.int p4), .val (.int p5), .val (.int p6), .val (.int n), .val (.int y0), .val (.int y1), .val (.int y2), .val (.int c0), .val (.int c1), .unset, .unset, .unset, .unset, .unset, .unset, .unset, .unset, .unset, .unset, .unset] [(.int c2)])) := by
    have hw0 : c2 = (0 : Int32) := hv0
    rw [hw0]
    show Steps p.tables e below (s₁.setTop (mkF m 69 #[.val (.int p1), .val (.int p2), .val (.int p3), .val (.int p4), .val (.int p5), .val (.int p6), .val (.int n), .val (.int y0), .val (.int y1), .val (.int y2), .val (.int c0), .val (.int c1), .unset, .unset, .unset, .unset, .unset, .unset, .unset, .unset, .unset, .unset, .unset] [])) _
    refine XS.iconst X0.here hx rfl (hb hby at_69) ?_
    exact Steps.refl _
  have Bb2_2 (hv0 : c2 = own_b2_0_2 p6) : Steps p.tables e below (s₁.setTop (mkF m 65 #[.val (.int p1), .val (.int p2), .val (.int p3), .val (.int p4), .val (.int p5), .val (.int p6), .val (.int n), .val (.int y0), .val (.int y1), .val (.int y2), .val (.int c0), .val (.int c1), .unset, .unset, .unset, .unset, .unset, .unset, .unset, .unset, .unset, .unset, .unset] [])) (s₁.setTop (mkF m 70 #[.val (.int p1), .val (.int p2), .val (.int p3), .val (.int p4), .val (.int p5), .val (.int p6), .val (.int n), .val (.int y0), .val (.int y1), .val (.int y2), .val (.int c0), .val (.int c1), .unset, .unset, .unset, .unset, .unset, .unset, .unset, .unset, .unset, .unset, .unset] [(.int c2)])) := by
    have hw0 : c2 = (1 : Int32) := hv0
    rw [hw0]
    show Steps p.tables e below (s₁.setTop (mkF m 65 #[.val (.int p1), .val (.int p2), .val (.int p3), .val (.int p4), .val (.int p5), .val (.int p6), .val (.int n), .val (.int y0), .val (.int y1), .val (.int y2), .val (.int c0), .val (.int c1), .unset, .unset, .unset, .unset, .unset, .unset, .unset, .unset, .unset, .unset, .unset] [])) _
    refine XS.iconst X0.here hx rfl (hb hby at_65) ?_
    show Steps p.tables e below (s₁.setTop (mkF m 66 #[.val (.int p1), .val (.int p2), .val (.int p3), .val (.int p4), .val (.int p5), .val (.int p6), .val (.int n), .val (.int y0), .val (.int y1), .val (.int y2), .val (.int c0), .val (.int c1), .unset, .unset, .unset, .unset, .unset, .unset, .unset, .unset, .unset, .unset, .unset] [(.int (1 : Int32))])) _
    refine XS.goto X0.here hx rfl (pc0 := 66) (pc' := 70) rfl (hb hby at_66) (by decide) (by decide) ?_
    exact Steps.refl _
  have Bb2_3 (hv0 : c2 = own_b2_0_3 p6) : Steps p.tables e below (s₁.setTop (mkF m 56 #[.val (.int p1), .val (.int p2), .val (.int p3), .val (.int p4), .val (.int p5), .val (.int p6), .val (.int n), .val (.int y0), .val (.int y1), .val (.int y2), .val (.int c0), .val (.int c1), .unset, .unset, .unset, .unset, .unset, .unset, .unset, .unset, .unset, .unset, .unset] [])) (s₁.setTop (mkF m 70 #[.val (.int p1), .val (.int p2), .val (.int p3), .val (.int p4), .val (.int p5), .val (.int p6), .val (.int n), .val (.int y0), .val (.int y1), .val (.int y2), .val (.int c0), .val (.int c1), .unset, .unset, .unset, .unset, .unset, .unset, .unset, .unset, .unset, .unset, .unset] [(.int c2)])) := by
    show Steps p.tables e below (s₁.setTop (mkF m 56 #[.val (.int p1), .val (.int p2), .val (.int p3), .val (.int p4), .val (.int p5), .val (.int p6), .val (.int n), .val (.int y0), .val (.int y1), .val (.int y2), .val (.int c0), .val (.int c1), .unset, .unset, .unset, .unset, .unset, .unset, .unset, .unset, .unset, .unset, .unset] [])) _
    refine XS.iload X0.here hx rfl (hb hby at_56) rfl ?_
    show Steps p.tables e below (s₁.setTop (mkF m 58 #[.val (.int p1), .val (.int p2), .val (.int p3), .val (.int p4), .val (.int p5), .val (.int p6), .val (.int n), .val (.int y0), .val (.int y1), .val (.int y2), .val (.int c0), .val (.int c1), .unset, .unset, .unset, .unset, .unset, .unset, .unset, .unset, .unset, .unset, .unset] [(.int p6)])) _
    refine XS.iconst X0.here hx rfl (hb hby at_58) ?_
    show Steps p.tables e below (s₁.setTop (mkF m 59 #[.val (.int p1), .val (.int p2), .val (.int p3), .val (.int p4), .val (.int p5), .val (.int p6), .val (.int n), .val (.int y0), .val (.int y1), .val (.int y2), .val (.int c0), .val (.int c1), .unset, .unset, .unset, .unset, .unset, .unset, .unset, .unset, .unset, .unset, .unset] [(.int (4 : Int32)), (.int p6)])) _
    refine XS.iushr X0.here hx rfl (hb hby at_59) rfl ?_
    show Steps p.tables e below (s₁.setTop (mkF m 60 #[.val (.int p1), .val (.int p2), .val (.int p3), .val (.int p4), .val (.int p5), .val (.int p6), .val (.int n), .val (.int y0), .val (.int y1), .val (.int y2), .val (.int c0), .val (.int c1), .unset, .unset, .unset, .unset, .unset, .unset, .unset, .unset, .unset, .unset, .unset] [(.int ((p6.toUInt32 >>> ((4 : Int32) &&& 31).toUInt32).toInt32))])) _
    refine XS.iconst X0.here hx rfl (hb hby at_60) ?_
    show Steps p.tables e below (s₁.setTop (mkF m 61 #[.val (.int p1), .val (.int p2), .val (.int p3), .val (.int p4), .val (.int p5), .val (.int p6), .val (.int n), .val (.int y0), .val (.int y1), .val (.int y2), .val (.int c0), .val (.int c1), .unset, .unset, .unset, .unset, .unset, .unset, .unset, .unset, .unset, .unset, .unset] [(.int (1 : Int32)), (.int ((p6.toUInt32 >>> ((4 : Int32) &&& 31).toUInt32).toInt32))])) _
    refine XS.iand X0.here hx rfl (hb hby at_61) rfl ?_
    show Steps p.tables e below (s₁.setTop (mkF m 62 #[.val (.int p1), .val (.int p2), .val (.int p3), .val (.int p4), .val (.int p5), .val (.int p6), .val (.int n), .val (.int y0), .val (.int y1), .val (.int y2), .val (.int c0), .val (.int c1), .unset, .unset, .unset, .unset, .unset, .unset, .unset, .unset, .unset, .unset, .unset] [(.int (((p6.toUInt32 >>> ((4 : Int32) &&& 31).toUInt32).toInt32) &&& (1 : Int32)))])) _
    by_cases h62 : (((p6.toUInt32 >>> ((4 : Int32) &&& 31).toUInt32).toInt32) &&& (1 : Int32)) = (0 : Int32)
    · refine XS.ifYes X0.here hx rfl (pc0 := 62) (pc' := 69) rfl (hb hby at_62) rfl ((if0 _ _).trans (teq h62).1) (by decide) (by decide) ?_
      exact Bb2_1 (hv0.trans (if_pos h62))
    · refine XS.ifNo X0.here hx rfl (hb hby at_62) rfl ((if0 _ _).trans (feq h62).1) ?_
      exact Bb2_2 (hv0.trans (if_neg h62))
  have pre7 : Steps p.tables e below _ (s₁.setTop (mkF m 70 #[.val (.int p1), .val (.int p2), .val (.int p3), .val (.int p4), .val (.int p5), .val (.int p6), .val (.int n), .val (.int y0), .val (.int y1), .val (.int y2), .val (.int c0), .val (.int c1), .unset, .unset, .unset, .unset, .unset, .unset, .unset, .unset, .unset, .unset, .unset] [(.int c2)])) := pre6.trans (Bb2_3 h_c2)
  have bc2 : c2 = 0 ∨ c2 = 1 := by rw [h_c2]; exact own_01 _
  have pre8 : Steps p.tables e below _ (s₁.setTop (mkF m 72 #[.val (.int p1), .val (.int p2), .val (.int p3), .val (.int p4), .val (.int p5), .val (.int p6), .val (.int n), .val (.int y0), .val (.int y1), .val (.int y2), .val (.int c0), .val (.int c1), .val (.int c2), .unset, .unset, .unset, .unset, .unset, .unset, .unset, .unset, .unset, .unset] [])) := pre7.trans (by
    show Steps p.tables e below (s₁.setTop (mkF m 70 #[.val (.int p1), .val (.int p2), .val (.int p3), .val (.int p4), .val (.int p5), .val (.int p6), .val (.int n), .val (.int y0), .val (.int y1), .val (.int y2), .val (.int c0), .val (.int c1), .unset, .unset, .unset, .unset, .unset, .unset, .unset, .unset, .unset, .unset, .unset] [(.int c2)])) _
    refine XS.istore X0.here hx rfl (hb hby at_70) rfl (l' := #[.val (.int p1), .val (.int p2), .val (.int p3), .val (.int p4), .val (.int p5), .val (.int p6), .val (.int n), .val (.int y0), .val (.int y1), .val (.int y2), .val (.int c0), .val (.int c1), .val (.int c2), .unset, .unset, .unset, .unset, .unset, .unset, .unset, .unset, .unset, .unset]) rfl ?_
    exact Steps.refl _)
  obtain ⟨m0, h_m0⟩ : ∃ z, z = own_d0_0_3 c0 p4 p5 := ⟨_, rfl⟩
  have Bd0_1 (hv0 : m0 = own_d0_0_1 c0 p4 p5) : Steps p.tables e below (s₁.setTop (mkF m 84 #[.val (.int p1), .val (.int p2), .val (.int p3), .val (.int p4), .val (.int p5), .val (.int p6), .val (.int n), .val (.int y0), .val (.int y1), .val (.int y2), .val (.int c0), .val (.int c1), .val (.int c2), .unset, .unset, .unset, .unset, .unset, .unset, .unset, .unset, .unset, .unset] [])) (s₁.setTop (mkF m 85 #[.val (.int p1), .val (.int p2), .val (.int p3), .val (.int p4), .val (.int p5), .val (.int p6), .val (.int n), .val (.int y0), .val (.int y1), .val (.int y2), .val (.int c0), .val (.int c1), .val (.int c2), .unset, .unset, .unset, .unset, .unset, .unset, .unset, .unset, .unset, .unset] [(.int m0)])) := by
    have hw0 : m0 = (0 : Int32) := hv0
    rw [hw0]
    show Steps p.tables e below (s₁.setTop (mkF m 84 #[.val (.int p1), .val (.int p2), .val (.int p3), .val (.int p4), .val (.int p5), .val (.int p6), .val (.int n), .val (.int y0), .val (.int y1), .val (.int y2), .val (.int c0), .val (.int c1), .val (.int c2), .unset, .unset, .unset, .unset, .unset, .unset, .unset, .unset, .unset, .unset] [])) _
    refine XS.iconst X0.here hx rfl (hb hby at_84) ?_
    exact Steps.refl _
  have Bd0_2 (hv0 : m0 = own_d0_0_2 c0 p4 p5) : Steps p.tables e below (s₁.setTop (mkF m 77 #[.val (.int p1), .val (.int p2), .val (.int p3), .val (.int p4), .val (.int p5), .val (.int p6), .val (.int n), .val (.int y0), .val (.int y1), .val (.int y2), .val (.int c0), .val (.int c1), .val (.int c2), .unset, .unset, .unset, .unset, .unset, .unset, .unset, .unset, .unset, .unset] [])) (s₁.setTop (mkF m 85 #[.val (.int p1), .val (.int p2), .val (.int p3), .val (.int p4), .val (.int p5), .val (.int p6), .val (.int n), .val (.int y0), .val (.int y1), .val (.int y2), .val (.int c0), .val (.int c1), .val (.int c2), .unset, .unset, .unset, .unset, .unset, .unset, .unset, .unset, .unset, .unset] [(.int m0)])) := by
    have hw0 : m0 = (p4 &&& (2147483647 : Int32)) := hv0
    rw [hw0]
    show Steps p.tables e below (s₁.setTop (mkF m 77 #[.val (.int p1), .val (.int p2), .val (.int p3), .val (.int p4), .val (.int p5), .val (.int p6), .val (.int n), .val (.int y0), .val (.int y1), .val (.int y2), .val (.int c0), .val (.int c1), .val (.int c2), .unset, .unset, .unset, .unset, .unset, .unset, .unset, .unset, .unset, .unset] [])) _
    refine XS.iloadN X0.here hx rfl (hb hby at_77) rfl ?_
    show Steps p.tables e below (s₁.setTop (mkF m 78 #[.val (.int p1), .val (.int p2), .val (.int p3), .val (.int p4), .val (.int p5), .val (.int p6), .val (.int n), .val (.int y0), .val (.int y1), .val (.int y2), .val (.int c0), .val (.int c1), .val (.int c2), .unset, .unset, .unset, .unset, .unset, .unset, .unset, .unset, .unset, .unset] [(.int p4)])) _
    refine X0.ldcInt hx hown (mvT hZ (hw _ (List.mem_of_getElem? (i := 0) rfl))) (g := (mkF m 78 #[.val (.int p1), .val (.int p2), .val (.int p3), .val (.int p4), .val (.int p5), .val (.int p6), .val (.int n), .val (.int y0), .val (.int y1), .val (.int y2), .val (.int c0), .val (.int c1), .val (.int c2), .unset, .unset, .unset, .unset, .unset, .unset, .unset, .unset, .unset, .unset] [(.int p4)])) rfl (hb hby at_78) _ ?_
    show Steps p.tables e below (s₁.setTop (mkF m 80 #[.val (.int p1), .val (.int p2), .val (.int p3), .val (.int p4), .val (.int p5), .val (.int p6), .val (.int n), .val (.int y0), .val (.int y1), .val (.int y2), .val (.int c0), .val (.int c1), .val (.int c2), .unset, .unset, .unset, .unset, .unset, .unset, .unset, .unset, .unset, .unset] [(.int (2147483647 : Int32)), (.int p4)])) _
    refine XS.iand X0.here hx rfl (hb hby at_80) rfl ?_
    show Steps p.tables e below (s₁.setTop (mkF m 81 #[.val (.int p1), .val (.int p2), .val (.int p3), .val (.int p4), .val (.int p5), .val (.int p6), .val (.int n), .val (.int y0), .val (.int y1), .val (.int y2), .val (.int c0), .val (.int c1), .val (.int c2), .unset, .unset, .unset, .unset, .unset, .unset, .unset, .unset, .unset, .unset] [(.int (p4 &&& (2147483647 : Int32)))])) _
    refine XS.goto X0.here hx rfl (pc0 := 81) (pc' := 85) rfl (hb hby at_81) (by decide) (by decide) ?_
    exact Steps.refl _
  have Bd0_3 (hv0 : m0 = own_d0_0_3 c0 p4 p5) : Steps p.tables e below (s₁.setTop (mkF m 72 #[.val (.int p1), .val (.int p2), .val (.int p3), .val (.int p4), .val (.int p5), .val (.int p6), .val (.int n), .val (.int y0), .val (.int y1), .val (.int y2), .val (.int c0), .val (.int c1), .val (.int c2), .unset, .unset, .unset, .unset, .unset, .unset, .unset, .unset, .unset, .unset] [])) (s₁.setTop (mkF m 85 #[.val (.int p1), .val (.int p2), .val (.int p3), .val (.int p4), .val (.int p5), .val (.int p6), .val (.int n), .val (.int y0), .val (.int y1), .val (.int y2), .val (.int c0), .val (.int c1), .val (.int c2), .unset, .unset, .unset, .unset, .unset, .unset, .unset, .unset, .unset, .unset] [(.int m0)])) := by
    show Steps p.tables e below (s₁.setTop (mkF m 72 #[.val (.int p1), .val (.int p2), .val (.int p3), .val (.int p4), .val (.int p5), .val (.int p6), .val (.int n), .val (.int y0), .val (.int y1), .val (.int y2), .val (.int c0), .val (.int c1), .val (.int c2), .unset, .unset, .unset, .unset, .unset, .unset, .unset, .unset, .unset, .unset] [])) _
    refine XS.iload X0.here hx rfl (hb hby at_72) rfl ?_
    show Steps p.tables e below (s₁.setTop (mkF m 74 #[.val (.int p1), .val (.int p2), .val (.int p3), .val (.int p4), .val (.int p5), .val (.int p6), .val (.int n), .val (.int y0), .val (.int y1), .val (.int y2), .val (.int c0), .val (.int c1), .val (.int c2), .unset, .unset, .unset, .unset, .unset, .unset, .unset, .unset, .unset, .unset] [(.int c0)])) _
    by_cases h74 : c0 = (0 : Int32)
    · refine XS.ifYes X0.here hx rfl (pc0 := 74) (pc' := 84) rfl (hb hby at_74) rfl ((if0 _ _).trans (teq h74).1) (by decide) (by decide) ?_
      exact Bd0_1 (hv0.trans (if_pos h74))
    · refine XS.ifNo X0.here hx rfl (hb hby at_74) rfl ((if0 _ _).trans (feq h74).1) ?_
      exact Bd0_2 (hv0.trans (if_neg h74))
  have pre9 : Steps p.tables e below _ (s₁.setTop (mkF m 85 #[.val (.int p1), .val (.int p2), .val (.int p3), .val (.int p4), .val (.int p5), .val (.int p6), .val (.int n), .val (.int y0), .val (.int y1), .val (.int y2), .val (.int c0), .val (.int c1), .val (.int c2), .unset, .unset, .unset, .unset, .unset, .unset, .unset, .unset, .unset, .unset] [(.int m0)])) := pre8.trans (Bd0_3 h_m0)
  have pre10 : Steps p.tables e below _ (s₁.setTop (mkF m 87 #[.val (.int p1), .val (.int p2), .val (.int p3), .val (.int p4), .val (.int p5), .val (.int p6), .val (.int n), .val (.int y0), .val (.int y1), .val (.int y2), .val (.int c0), .val (.int c1), .val (.int c2), .val (.int m0), .unset, .unset, .unset, .unset, .unset, .unset, .unset, .unset, .unset] [])) := pre9.trans (by
    show Steps p.tables e below (s₁.setTop (mkF m 85 #[.val (.int p1), .val (.int p2), .val (.int p3), .val (.int p4), .val (.int p5), .val (.int p6), .val (.int n), .val (.int y0), .val (.int y1), .val (.int y2), .val (.int c0), .val (.int c1), .val (.int c2), .unset, .unset, .unset, .unset, .unset, .unset, .unset, .unset, .unset, .unset] [(.int m0)])) _
    refine XS.istore X0.here hx rfl (hb hby at_85) rfl (l' := #[.val (.int p1), .val (.int p2), .val (.int p3), .val (.int p4), .val (.int p5), .val (.int p6), .val (.int n), .val (.int y0), .val (.int y1), .val (.int y2), .val (.int c0), .val (.int c1), .val (.int c2), .val (.int m0), .unset, .unset, .unset, .unset, .unset, .unset, .unset, .unset, .unset]) rfl ?_
    exact Steps.refl _)
  obtain ⟨m1, h_m1⟩ : ∃ z, z = own_d1_0_3 c1 p4 p5 := ⟨_, rfl⟩
  have Bd1_1 (hv0 : m1 = own_d1_0_1 c1 p4 p5) : Steps p.tables e below (s₁.setTop (mkF m 100 #[.val (.int p1), .val (.int p2), .val (.int p3), .val (.int p4), .val (.int p5), .val (.int p6), .val (.int n), .val (.int y0), .val (.int y1), .val (.int y2), .val (.int c0), .val (.int c1), .val (.int c2), .val (.int m0), .unset, .unset, .unset, .unset, .unset, .unset, .unset, .unset, .unset] [])) (s₁.setTop (mkF m 101 #[.val (.int p1), .val (.int p2), .val (.int p3), .val (.int p4), .val (.int p5), .val (.int p6), .val (.int n), .val (.int y0), .val (.int y1), .val (.int y2), .val (.int c0), .val (.int c1), .val (.int c2), .val (.int m0), .unset, .unset, .unset, .unset, .unset, .unset, .unset, .unset, .unset] [(.int m1)])) := by
    have hw0 : m1 = (0 : Int32) := hv0
    rw [hw0]
    show Steps p.tables e below (s₁.setTop (mkF m 100 #[.val (.int p1), .val (.int p2), .val (.int p3), .val (.int p4), .val (.int p5), .val (.int p6), .val (.int n), .val (.int y0), .val (.int y1), .val (.int y2), .val (.int c0), .val (.int c1), .val (.int c2), .val (.int m0), .unset, .unset, .unset, .unset, .unset, .unset, .unset, .unset, .unset] [])) _
    refine XS.iconst X0.here hx rfl (hb hby at_100) ?_
    exact Steps.refl _
  have Bd1_2 (hv0 : m1 = own_d1_0_2 c1 p4 p5) : Steps p.tables e below (s₁.setTop (mkF m 92 #[.val (.int p1), .val (.int p2), .val (.int p3), .val (.int p4), .val (.int p5), .val (.int p6), .val (.int n), .val (.int y0), .val (.int y1), .val (.int y2), .val (.int c0), .val (.int c1), .val (.int c2), .val (.int m0), .unset, .unset, .unset, .unset, .unset, .unset, .unset, .unset, .unset] [])) (s₁.setTop (mkF m 101 #[.val (.int p1), .val (.int p2), .val (.int p3), .val (.int p4), .val (.int p5), .val (.int p6), .val (.int n), .val (.int y0), .val (.int y1), .val (.int y2), .val (.int c0), .val (.int c1), .val (.int c2), .val (.int m0), .unset, .unset, .unset, .unset, .unset, .unset, .unset, .unset, .unset] [(.int m1)])) := by
    have hw0 : m1 = (p5 &&& (2147483647 : Int32)) := hv0
    rw [hw0]
    show Steps p.tables e below (s₁.setTop (mkF m 92 #[.val (.int p1), .val (.int p2), .val (.int p3), .val (.int p4), .val (.int p5), .val (.int p6), .val (.int n), .val (.int y0), .val (.int y1), .val (.int y2), .val (.int c0), .val (.int c1), .val (.int c2), .val (.int m0), .unset, .unset, .unset, .unset, .unset, .unset, .unset, .unset, .unset] [])) _
    refine XS.iload X0.here hx rfl (hb hby at_92) rfl ?_
    show Steps p.tables e below (s₁.setTop (mkF m 94 #[.val (.int p1), .val (.int p2), .val (.int p3), .val (.int p4), .val (.int p5), .val (.int p6), .val (.int n), .val (.int y0), .val (.int y1), .val (.int y2), .val (.int c0), .val (.int c1), .val (.int c2), .val (.int m0), .unset, .unset, .unset, .unset, .unset, .unset, .unset, .unset, .unset] [(.int p5)])) _
    refine X0.ldcInt hx hown (mvT hZ (hw _ (List.mem_of_getElem? (i := 0) rfl))) (g := (mkF m 94 #[.val (.int p1), .val (.int p2), .val (.int p3), .val (.int p4), .val (.int p5), .val (.int p6), .val (.int n), .val (.int y0), .val (.int y1), .val (.int y2), .val (.int c0), .val (.int c1), .val (.int c2), .val (.int m0), .unset, .unset, .unset, .unset, .unset, .unset, .unset, .unset, .unset] [(.int p5)])) rfl (hb hby at_94) _ ?_
    show Steps p.tables e below (s₁.setTop (mkF m 96 #[.val (.int p1), .val (.int p2), .val (.int p3), .val (.int p4), .val (.int p5), .val (.int p6), .val (.int n), .val (.int y0), .val (.int y1), .val (.int y2), .val (.int c0), .val (.int c1), .val (.int c2), .val (.int m0), .unset, .unset, .unset, .unset, .unset, .unset, .unset, .unset, .unset] [(.int (2147483647 : Int32)), (.int p5)])) _
    refine XS.iand X0.here hx rfl (hb hby at_96) rfl ?_
    show Steps p.tables e below (s₁.setTop (mkF m 97 #[.val (.int p1), .val (.int p2), .val (.int p3), .val (.int p4), .val (.int p5), .val (.int p6), .val (.int n), .val (.int y0), .val (.int y1), .val (.int y2), .val (.int c0), .val (.int c1), .val (.int c2), .val (.int m0), .unset, .unset, .unset, .unset, .unset, .unset, .unset, .unset, .unset] [(.int (p5 &&& (2147483647 : Int32)))])) _
    refine XS.goto X0.here hx rfl (pc0 := 97) (pc' := 101) rfl (hb hby at_97) (by decide) (by decide) ?_
    exact Steps.refl _
  have Bd1_3 (hv0 : m1 = own_d1_0_3 c1 p4 p5) : Steps p.tables e below (s₁.setTop (mkF m 87 #[.val (.int p1), .val (.int p2), .val (.int p3), .val (.int p4), .val (.int p5), .val (.int p6), .val (.int n), .val (.int y0), .val (.int y1), .val (.int y2), .val (.int c0), .val (.int c1), .val (.int c2), .val (.int m0), .unset, .unset, .unset, .unset, .unset, .unset, .unset, .unset, .unset] [])) (s₁.setTop (mkF m 101 #[.val (.int p1), .val (.int p2), .val (.int p3), .val (.int p4), .val (.int p5), .val (.int p6), .val (.int n), .val (.int y0), .val (.int y1), .val (.int y2), .val (.int c0), .val (.int c1), .val (.int c2), .val (.int m0), .unset, .unset, .unset, .unset, .unset, .unset, .unset, .unset, .unset] [(.int m1)])) := by
    show Steps p.tables e below (s₁.setTop (mkF m 87 #[.val (.int p1), .val (.int p2), .val (.int p3), .val (.int p4), .val (.int p5), .val (.int p6), .val (.int n), .val (.int y0), .val (.int y1), .val (.int y2), .val (.int c0), .val (.int c1), .val (.int c2), .val (.int m0), .unset, .unset, .unset, .unset, .unset, .unset, .unset, .unset, .unset] [])) _
    refine XS.iload X0.here hx rfl (hb hby at_87) rfl ?_
    show Steps p.tables e below (s₁.setTop (mkF m 89 #[.val (.int p1), .val (.int p2), .val (.int p3), .val (.int p4), .val (.int p5), .val (.int p6), .val (.int n), .val (.int y0), .val (.int y1), .val (.int y2), .val (.int c0), .val (.int c1), .val (.int c2), .val (.int m0), .unset, .unset, .unset, .unset, .unset, .unset, .unset, .unset, .unset] [(.int c1)])) _
    by_cases h89 : c1 = (0 : Int32)
    · refine XS.ifYes X0.here hx rfl (pc0 := 89) (pc' := 100) rfl (hb hby at_89) rfl ((if0 _ _).trans (teq h89).1) (by decide) (by decide) ?_
      exact Bd1_1 (hv0.trans (if_pos h89))
    · refine XS.ifNo X0.here hx rfl (hb hby at_89) rfl ((if0 _ _).trans (feq h89).1) ?_
      exact Bd1_2 (hv0.trans (if_neg h89))
  have pre11 : Steps p.tables e below _ (s₁.setTop (mkF m 101 #[.val (.int p1), .val (.int p2), .val (.int p3), .val (.int p4), .val (.int p5), .val (.int p6), .val (.int n), .val (.int y0), .val (.int y1), .val (.int y2), .val (.int c0), .val (.int c1), .val (.int c2), .val (.int m0), .unset, .unset, .unset, .unset, .unset, .unset, .unset, .unset, .unset] [(.int m1)])) := pre10.trans (Bd1_3 h_m1)
  have pre12 : Steps p.tables e below _ (s₁.setTop (mkF m 103 #[.val (.int p1), .val (.int p2), .val (.int p3), .val (.int p4), .val (.int p5), .val (.int p6), .val (.int n), .val (.int y0), .val (.int y1), .val (.int y2), .val (.int c0), .val (.int c1), .val (.int c2), .val (.int m0), .val (.int m1), .unset, .unset, .unset, .unset, .unset, .unset, .unset, .unset] [])) := pre11.trans (by
    show Steps p.tables e below (s₁.setTop (mkF m 101 #[.val (.int p1), .val (.int p2), .val (.int p3), .val (.int p4), .val (.int p5), .val (.int p6), .val (.int n), .val (.int y0), .val (.int y1), .val (.int y2), .val (.int c0), .val (.int c1), .val (.int c2), .val (.int m0), .unset, .unset, .unset, .unset, .unset, .unset, .unset, .unset, .unset] [(.int m1)])) _
    refine XS.istore X0.here hx rfl (hb hby at_101) rfl (l' := #[.val (.int p1), .val (.int p2), .val (.int p3), .val (.int p4), .val (.int p5), .val (.int p6), .val (.int n), .val (.int y0), .val (.int y1), .val (.int y2), .val (.int c0), .val (.int c1), .val (.int c2), .val (.int m0), .val (.int m1), .unset, .unset, .unset, .unset, .unset, .unset, .unset, .unset]) rfl ?_
    exact Steps.refl _)
  obtain ⟨m2, h_m2⟩ : ∃ z, z = own_d2_0_3 c2 p4 p5 := ⟨_, rfl⟩
  have Bd2_1 (hv0 : m2 = own_d2_0_1 c2 p4 p5) : Steps p.tables e below (s₁.setTop (mkF m 118 #[.val (.int p1), .val (.int p2), .val (.int p3), .val (.int p4), .val (.int p5), .val (.int p6), .val (.int n), .val (.int y0), .val (.int y1), .val (.int y2), .val (.int c0), .val (.int c1), .val (.int c2), .val (.int m0), .val (.int m1), .unset, .unset, .unset, .unset, .unset, .unset, .unset, .unset] [])) (s₁.setTop (mkF m 119 #[.val (.int p1), .val (.int p2), .val (.int p3), .val (.int p4), .val (.int p5), .val (.int p6), .val (.int n), .val (.int y0), .val (.int y1), .val (.int y2), .val (.int c0), .val (.int c1), .val (.int c2), .val (.int m0), .val (.int m1), .unset, .unset, .unset, .unset, .unset, .unset, .unset, .unset] [(.int m2)])) := by
    have hw0 : m2 = (0 : Int32) := hv0
    rw [hw0]
    show Steps p.tables e below (s₁.setTop (mkF m 118 #[.val (.int p1), .val (.int p2), .val (.int p3), .val (.int p4), .val (.int p5), .val (.int p6), .val (.int n), .val (.int y0), .val (.int y1), .val (.int y2), .val (.int c0), .val (.int c1), .val (.int c2), .val (.int m0), .val (.int m1), .unset, .unset, .unset, .unset, .unset, .unset, .unset, .unset] [])) _
    refine XS.iconst X0.here hx rfl (hb hby at_118) ?_
    exact Steps.refl _
  have Bd2_2 (hv0 : m2 = own_d2_0_2 c2 p4 p5) : Steps p.tables e below (s₁.setTop (mkF m 108 #[.val (.int p1), .val (.int p2), .val (.int p3), .val (.int p4), .val (.int p5), .val (.int p6), .val (.int n), .val (.int y0), .val (.int y1), .val (.int y2), .val (.int c0), .val (.int c1), .val (.int c2), .val (.int m0), .val (.int m1), .unset, .unset, .unset, .unset, .unset, .unset, .unset, .unset] [])) (s₁.setTop (mkF m 119 #[.val (.int p1), .val (.int p2), .val (.int p3), .val (.int p4), .val (.int p5), .val (.int p6), .val (.int n), .val (.int y0), .val (.int y1), .val (.int y2), .val (.int c0), .val (.int c1), .val (.int c2), .val (.int m0), .val (.int m1), .unset, .unset, .unset, .unset, .unset, .unset, .unset, .unset] [(.int m2)])) := by
    have hw0 : m2 = ((p4 ^^^ p5) &&& (2147483647 : Int32)) := hv0
    rw [hw0]
    show Steps p.tables e below (s₁.setTop (mkF m 108 #[.val (.int p1), .val (.int p2), .val (.int p3), .val (.int p4), .val (.int p5), .val (.int p6), .val (.int n), .val (.int y0), .val (.int y1), .val (.int y2), .val (.int c0), .val (.int c1), .val (.int c2), .val (.int m0), .val (.int m1), .unset, .unset, .unset, .unset, .unset, .unset, .unset, .unset] [])) _
    refine XS.iloadN X0.here hx rfl (hb hby at_108) rfl ?_
    show Steps p.tables e below (s₁.setTop (mkF m 109 #[.val (.int p1), .val (.int p2), .val (.int p3), .val (.int p4), .val (.int p5), .val (.int p6), .val (.int n), .val (.int y0), .val (.int y1), .val (.int y2), .val (.int c0), .val (.int c1), .val (.int c2), .val (.int m0), .val (.int m1), .unset, .unset, .unset, .unset, .unset, .unset, .unset, .unset] [(.int p4)])) _
    refine XS.iload X0.here hx rfl (hb hby at_109) rfl ?_
    show Steps p.tables e below (s₁.setTop (mkF m 111 #[.val (.int p1), .val (.int p2), .val (.int p3), .val (.int p4), .val (.int p5), .val (.int p6), .val (.int n), .val (.int y0), .val (.int y1), .val (.int y2), .val (.int c0), .val (.int c1), .val (.int c2), .val (.int m0), .val (.int m1), .unset, .unset, .unset, .unset, .unset, .unset, .unset, .unset] [(.int p5), (.int p4)])) _
    refine XS.ixor X0.here hx rfl (hb hby at_111) rfl ?_
    show Steps p.tables e below (s₁.setTop (mkF m 112 #[.val (.int p1), .val (.int p2), .val (.int p3), .val (.int p4), .val (.int p5), .val (.int p6), .val (.int n), .val (.int y0), .val (.int y1), .val (.int y2), .val (.int c0), .val (.int c1), .val (.int c2), .val (.int m0), .val (.int m1), .unset, .unset, .unset, .unset, .unset, .unset, .unset, .unset] [(.int (p4 ^^^ p5))])) _
    refine X0.ldcInt hx hown (mvT hZ (hw _ (List.mem_of_getElem? (i := 0) rfl))) (g := (mkF m 112 #[.val (.int p1), .val (.int p2), .val (.int p3), .val (.int p4), .val (.int p5), .val (.int p6), .val (.int n), .val (.int y0), .val (.int y1), .val (.int y2), .val (.int c0), .val (.int c1), .val (.int c2), .val (.int m0), .val (.int m1), .unset, .unset, .unset, .unset, .unset, .unset, .unset, .unset] [(.int (p4 ^^^ p5))])) rfl (hb hby at_112) _ ?_
    show Steps p.tables e below (s₁.setTop (mkF m 114 #[.val (.int p1), .val (.int p2), .val (.int p3), .val (.int p4), .val (.int p5), .val (.int p6), .val (.int n), .val (.int y0), .val (.int y1), .val (.int y2), .val (.int c0), .val (.int c1), .val (.int c2), .val (.int m0), .val (.int m1), .unset, .unset, .unset, .unset, .unset, .unset, .unset, .unset] [(.int (2147483647 : Int32)), (.int (p4 ^^^ p5))])) _
    refine XS.iand X0.here hx rfl (hb hby at_114) rfl ?_
    show Steps p.tables e below (s₁.setTop (mkF m 115 #[.val (.int p1), .val (.int p2), .val (.int p3), .val (.int p4), .val (.int p5), .val (.int p6), .val (.int n), .val (.int y0), .val (.int y1), .val (.int y2), .val (.int c0), .val (.int c1), .val (.int c2), .val (.int m0), .val (.int m1), .unset, .unset, .unset, .unset, .unset, .unset, .unset, .unset] [(.int ((p4 ^^^ p5) &&& (2147483647 : Int32)))])) _
    refine XS.goto X0.here hx rfl (pc0 := 115) (pc' := 119) rfl (hb hby at_115) (by decide) (by decide) ?_
    exact Steps.refl _
  have Bd2_3 (hv0 : m2 = own_d2_0_3 c2 p4 p5) : Steps p.tables e below (s₁.setTop (mkF m 103 #[.val (.int p1), .val (.int p2), .val (.int p3), .val (.int p4), .val (.int p5), .val (.int p6), .val (.int n), .val (.int y0), .val (.int y1), .val (.int y2), .val (.int c0), .val (.int c1), .val (.int c2), .val (.int m0), .val (.int m1), .unset, .unset, .unset, .unset, .unset, .unset, .unset, .unset] [])) (s₁.setTop (mkF m 119 #[.val (.int p1), .val (.int p2), .val (.int p3), .val (.int p4), .val (.int p5), .val (.int p6), .val (.int n), .val (.int y0), .val (.int y1), .val (.int y2), .val (.int c0), .val (.int c1), .val (.int c2), .val (.int m0), .val (.int m1), .unset, .unset, .unset, .unset, .unset, .unset, .unset, .unset] [(.int m2)])) := by
    show Steps p.tables e below (s₁.setTop (mkF m 103 #[.val (.int p1), .val (.int p2), .val (.int p3), .val (.int p4), .val (.int p5), .val (.int p6), .val (.int n), .val (.int y0), .val (.int y1), .val (.int y2), .val (.int c0), .val (.int c1), .val (.int c2), .val (.int m0), .val (.int m1), .unset, .unset, .unset, .unset, .unset, .unset, .unset, .unset] [])) _
    refine XS.iload X0.here hx rfl (hb hby at_103) rfl ?_
    show Steps p.tables e below (s₁.setTop (mkF m 105 #[.val (.int p1), .val (.int p2), .val (.int p3), .val (.int p4), .val (.int p5), .val (.int p6), .val (.int n), .val (.int y0), .val (.int y1), .val (.int y2), .val (.int c0), .val (.int c1), .val (.int c2), .val (.int m0), .val (.int m1), .unset, .unset, .unset, .unset, .unset, .unset, .unset, .unset] [(.int c2)])) _
    by_cases h105 : c2 = (0 : Int32)
    · refine XS.ifYes X0.here hx rfl (pc0 := 105) (pc' := 118) rfl (hb hby at_105) rfl ((if0 _ _).trans (teq h105).1) (by decide) (by decide) ?_
      exact Bd2_1 (hv0.trans (if_pos h105))
    · refine XS.ifNo X0.here hx rfl (hb hby at_105) rfl ((if0 _ _).trans (feq h105).1) ?_
      exact Bd2_2 (hv0.trans (if_neg h105))
  have pre13 : Steps p.tables e below _ (s₁.setTop (mkF m 119 #[.val (.int p1), .val (.int p2), .val (.int p3), .val (.int p4), .val (.int p5), .val (.int p6), .val (.int n), .val (.int y0), .val (.int y1), .val (.int y2), .val (.int c0), .val (.int c1), .val (.int c2), .val (.int m0), .val (.int m1), .unset, .unset, .unset, .unset, .unset, .unset, .unset, .unset] [(.int m2)])) := pre12.trans (Bd2_3 h_m2)
  have e00 : (0 : Int32).toInt = 0 := rfl
  have e11 : (1 : Int32).toInt = 1 := rfl
  have e22 : (2 : Int32).toInt = 2 := rfl
  have nn : ¬ n < (0 : Int32) := by rw [own_lt]; omega
  have pre14 : Steps p.tables e below _ (s₁.setTop (mkF m 123 #[.val (.int p1), .val (.int p2), .val (.int p3), .val (.int p4), .val (.int p5), .val (.int p6), .val (.int n), .val (.int y0), .val (.int y1), .val (.int y2), .val (.int c0), .val (.int c1), .val (.int c2), .val (.int m0), .val (.int m1), .val (.int m2), .unset, .unset, .unset, .unset, .unset, .unset, .unset] [(.int n)])) := pre13.trans (by
    show Steps p.tables e below (s₁.setTop (mkF m 119 #[.val (.int p1), .val (.int p2), .val (.int p3), .val (.int p4), .val (.int p5), .val (.int p6), .val (.int n), .val (.int y0), .val (.int y1), .val (.int y2), .val (.int c0), .val (.int c1), .val (.int c2), .val (.int m0), .val (.int m1), .unset, .unset, .unset, .unset, .unset, .unset, .unset, .unset] [(.int m2)])) _
    refine XS.istore X0.here hx rfl (hb hby at_119) rfl (l' := #[.val (.int p1), .val (.int p2), .val (.int p3), .val (.int p4), .val (.int p5), .val (.int p6), .val (.int n), .val (.int y0), .val (.int y1), .val (.int y2), .val (.int c0), .val (.int c1), .val (.int c2), .val (.int m0), .val (.int m1), .val (.int m2), .unset, .unset, .unset, .unset, .unset, .unset, .unset]) rfl ?_
    show Steps p.tables e below (s₁.setTop (mkF m 121 #[.val (.int p1), .val (.int p2), .val (.int p3), .val (.int p4), .val (.int p5), .val (.int p6), .val (.int n), .val (.int y0), .val (.int y1), .val (.int y2), .val (.int c0), .val (.int c1), .val (.int c2), .val (.int m0), .val (.int m1), .val (.int m2), .unset, .unset, .unset, .unset, .unset, .unset, .unset] [])) _
    refine XS.iload X0.here hx rfl (hb hby at_121) rfl ?_
    exact Steps.refl _)
  obtain ⟨T15, h15, k15, X15, e15, E15, A15, EX15, st15⟩ := newPE X0 hx hZ (hw _ (List.mem_of_getElem? (i := 1) rfl)) e0 (g := (mkF m 123 #[.val (.int p1), .val (.int p2), .val (.int p3), .val (.int p4), .val (.int p5), .val (.int p6), .val (.int n), .val (.int y0), .val (.int y1), .val (.int y2), .val (.int c0), .val (.int c1), .val (.int c2), .val (.int m0), .val (.int m1), .val (.int m2), .unset, .unset, .unset, .unset, .unset, .unset, .unset] [(.int n)])) rfl (hb hby at_123) rfl nn (cap := 3) (own_cap nn bn.2) (by decide) (by decide) (by decide) (ad := "[I") (by decide)
  obtain ⟨sb, g15⟩ : ∃ z, z = h0.size := ⟨_, rfl⟩
  rw [← g15] at A15 EX15 st15
  have g_sb : n0 ≤ sb := Nat.le_trans Z0 (Nat.le_of_eq g15.symm)
  have lt_sb : sb < h15.size := A15.lt
  have F15 : Far Z h15 sb .int n (fun _ => 0) := Far.new A15 nn rfl
  have Z15 : n0 ≤ h15.size := Nat.le_trans Z0 E15.1
  have pre15 : Steps p.tables e below _ (T15.setTop (mkF m 125 #[.val (.int p1), .val (.int p2), .val (.int p3), .val (.int p4), .val (.int p5), .val (.int p6), .val (.int n), .val (.int y0), .val (.int y1), .val (.int y2), .val (.int c0), .val (.int c1), .val (.int c2), .val (.int m0), .val (.int m1), .val (.int m2), .unset, .unset, .unset, .unset, .unset, .unset, .unset] [(.ref sb)])) := pre14.trans (st15 _ (Steps.refl _))
  have pre16 : Steps p.tables e below _ (T15.setTop (mkF m 129 #[.val (.int p1), .val (.int p2), .val (.int p3), .val (.int p4), .val (.int p5), .val (.int p6), .val (.int n), .val (.int y0), .val (.int y1), .val (.int y2), .val (.int c0), .val (.int c1), .val (.int c2), .val (.int m0), .val (.int m1), .val (.int m2), .val (.ref sb), .unset, .unset, .unset, .unset, .unset, .unset] [(.int n)])) := pre15.trans (by
    show Steps p.tables e below (T15.setTop (mkF m 125 #[.val (.int p1), .val (.int p2), .val (.int p3), .val (.int p4), .val (.int p5), .val (.int p6), .val (.int n), .val (.int y0), .val (.int y1), .val (.int y2), .val (.int c0), .val (.int c1), .val (.int c2), .val (.int m0), .val (.int m1), .val (.int m2), .unset, .unset, .unset, .unset, .unset, .unset, .unset] [(.ref sb)])) _
    refine XS.astore X15.here hx rfl (hb hby at_125) rfl rfl (l' := #[.val (.int p1), .val (.int p2), .val (.int p3), .val (.int p4), .val (.int p5), .val (.int p6), .val (.int n), .val (.int y0), .val (.int y1), .val (.int y2), .val (.int c0), .val (.int c1), .val (.int c2), .val (.int m0), .val (.int m1), .val (.int m2), .val (.ref sb), .unset, .unset, .unset, .unset, .unset, .unset]) rfl ?_
    show Steps p.tables e below (T15.setTop (mkF m 127 #[.val (.int p1), .val (.int p2), .val (.int p3), .val (.int p4), .val (.int p5), .val (.int p6), .val (.int n), .val (.int y0), .val (.int y1), .val (.int y2), .val (.int c0), .val (.int c1), .val (.int c2), .val (.int m0), .val (.int m1), .val (.int m2), .val (.ref sb), .unset, .unset, .unset, .unset, .unset, .unset] [])) _
    refine XS.iload X15.here hx rfl (hb hby at_127) rfl ?_
    exact Steps.refl _)
  obtain ⟨T17, h17, k17, X17, e17, E17, A17, st17⟩ := newP X15 hx hZ (hw _ (List.mem_of_getElem? (i := 1) rfl)) e15 (g := (mkF m 129 #[.val (.int p1), .val (.int p2), .val (.int p3), .val (.int p4), .val (.int p5), .val (.int p6), .val (.int n), .val (.int y0), .val (.int y1), .val (.int y2), .val (.int c0), .val (.int c1), .val (.int c2), .val (.int m0), .val (.int m1), .val (.int m2), .val (.ref sb), .unset, .unset, .unset, .unset, .unset, .unset] [(.int n)])) rfl (hb hby at_129) rfl nn (cap := 3) (own_cap nn bn.2) (by decide) (by decide) (by decide)
  obtain ⟨db, g17⟩ : ∃ z, z = h15.size := ⟨_, rfl⟩
  rw [← g17] at A17 st17
  have g_db : n0 ≤ db := Nat.le_trans Z15 (Nat.le_of_eq g17.symm)
  have lt_db : db < h17.size := A17.lt
  have F17 : Far Z h17 db .int n (fun _ => 0) := Far.new A17 nn rfl
  have Z17 : n0 ≤ h17.size := Nat.le_trans Z15 E17.1
  have pre17 : Steps p.tables e below _ (T17.setTop (mkF m 131 #[.val (.int p1), .val (.int p2), .val (.int p3), .val (.int p4), .val (.int p5), .val (.int p6), .val (.int n), .val (.int y0), .val (.int y1), .val (.int y2), .val (.int c0), .val (.int c1), .val (.int c2), .val (.int m0), .val (.int m1), .val (.int m2), .val (.ref sb), .unset, .unset, .unset, .unset, .unset, .unset] [(.ref db)])) := pre16.trans (st17 _ (Steps.refl _))
  have pre18 : Steps p.tables e below _ (T17.setTop (mkF m 135 #[.val (.int p1), .val (.int p2), .val (.int p3), .val (.int p4), .val (.int p5), .val (.int p6), .val (.int n), .val (.int y0), .val (.int y1), .val (.int y2), .val (.int c0), .val (.int c1), .val (.int c2), .val (.int m0), .val (.int m1), .val (.int m2), .val (.ref sb), .val (.ref db), .unset, .unset, .unset, .unset, .unset] [(.int n)])) := pre17.trans (by
    show Steps p.tables e below (T17.setTop (mkF m 131 #[.val (.int p1), .val (.int p2), .val (.int p3), .val (.int p4), .val (.int p5), .val (.int p6), .val (.int n), .val (.int y0), .val (.int y1), .val (.int y2), .val (.int c0), .val (.int c1), .val (.int c2), .val (.int m0), .val (.int m1), .val (.int m2), .val (.ref sb), .unset, .unset, .unset, .unset, .unset, .unset] [(.ref db)])) _
    refine XS.astore X17.here hx rfl (hb hby at_131) rfl rfl (l' := #[.val (.int p1), .val (.int p2), .val (.int p3), .val (.int p4), .val (.int p5), .val (.int p6), .val (.int n), .val (.int y0), .val (.int y1), .val (.int y2), .val (.int c0), .val (.int c1), .val (.int c2), .val (.int m0), .val (.int m1), .val (.int m2), .val (.ref sb), .val (.ref db), .unset, .unset, .unset, .unset, .unset]) rfl ?_
    show Steps p.tables e below (T17.setTop (mkF m 133 #[.val (.int p1), .val (.int p2), .val (.int p3), .val (.int p4), .val (.int p5), .val (.int p6), .val (.int n), .val (.int y0), .val (.int y1), .val (.int y2), .val (.int c0), .val (.int c1), .val (.int c2), .val (.int m0), .val (.int m1), .val (.int m2), .val (.ref sb), .val (.ref db), .unset, .unset, .unset, .unset, .unset] [])) _
    refine XS.iload X17.here hx rfl (hb hby at_133) rfl ?_
    exact Steps.refl _)
  obtain ⟨T19, h19, k19, X19, e19, E19, A19, st19⟩ := newP X17 hx hZ (hw _ (List.mem_of_getElem? (i := 2) rfl)) e17 (g := (mkF m 135 #[.val (.int p1), .val (.int p2), .val (.int p3), .val (.int p4), .val (.int p5), .val (.int p6), .val (.int n), .val (.int y0), .val (.int y1), .val (.int y2), .val (.int c0), .val (.int c1), .val (.int c2), .val (.int m0), .val (.int m1), .val (.int m2), .val (.ref sb), .val (.ref db), .unset, .unset, .unset, .unset, .unset] [(.int n)])) rfl (hb hby at_135) rfl nn (cap := 3) (own_cap nn bn.2) (by decide) (by decide) (by decide)
  obtain ⟨pb, g19⟩ : ∃ z, z = h17.size := ⟨_, rfl⟩
  rw [← g19] at A19 st19
  have g_pb : n0 ≤ pb := Nat.le_trans Z17 (Nat.le_of_eq g19.symm)
  have lt_pb : pb < h19.size := A19.lt
  have F19 : Far Z h19 pb .boolean n (fun _ => 0) := Far.new A19 nn rfl
  have Z19 : n0 ≤ h19.size := Nat.le_trans Z17 E19.1
  have pre19 : Steps p.tables e below _ (T19.setTop (mkF m 137 #[.val (.int p1), .val (.int p2), .val (.int p3), .val (.int p4), .val (.int p5), .val (.int p6), .val (.int n), .val (.int y0), .val (.int y1), .val (.int y2), .val (.int c0), .val (.int c1), .val (.int c2), .val (.int m0), .val (.int m1), .val (.int m2), .val (.ref sb), .val (.ref db), .unset, .unset, .unset, .unset, .unset] [(.ref pb)])) := pre18.trans (st19 _ (Steps.refl _))
  have sd : sb ≠ db := Nat.ne_of_lt (Nat.lt_of_lt_of_le F15.lt (Nat.le_of_eq g17.symm))
  have sp : sb ≠ pb := Nat.ne_of_lt (Nat.lt_of_lt_of_le (F15.ext E17).lt (Nat.le_of_eq g19.symm))
  have dp : db ≠ pb := Nat.ne_of_lt (Nat.lt_of_lt_of_le F17.lt (Nat.le_of_eq g19.symm))
  have FS0 := (F15.ext E17).ext E19
  have ES0 := (EX15.ext E17).ext E19
  have FD0 := F17.ext E19
  have FP0 := F19
  have pre20 : Steps p.tables e below _ (T19.setTop (mkF m 142 #[.val (.int p1), .val (.int p2), .val (.int p3), .val (.int p4), .val (.int p5), .val (.int p6), .val (.int n), .val (.int y0), .val (.int y1), .val (.int y2), .val (.int c0), .val (.int c1), .val (.int c2), .val (.int m0), .val (.int m1), .val (.int m2), .val (.ref sb), .val (.ref db), .val (.ref pb), .val (.long (0 : Int64)), .second, .unset, .unset] [])) := pre19.trans (by
    show Steps p.tables e below (T19.setTop (mkF m 137 #[.val (.int p1), .val (.int p2), .val (.int p3), .val (.int p4), .val (.int p5), .val (.int p6), .val (.int n), .val (.int y0), .val (.int y1), .val (.int y2), .val (.int c0), .val (.int c1), .val (.int c2), .val (.int m0), .val (.int m1), .val (.int m2), .val (.ref sb), .val (.ref db), .unset, .unset, .unset, .unset, .unset] [(.ref pb)])) _
    refine XS.astore X19.here hx rfl (hb hby at_137) rfl rfl (l' := #[.val (.int p1), .val (.int p2), .val (.int p3), .val (.int p4), .val (.int p5), .val (.int p6), .val (.int n), .val (.int y0), .val (.int y1), .val (.int y2), .val (.int c0), .val (.int c1), .val (.int c2), .val (.int m0), .val (.int m1), .val (.int m2), .val (.ref sb), .val (.ref db), .val (.ref pb), .unset, .unset, .unset, .unset]) rfl ?_
    show Steps p.tables e below (T19.setTop (mkF m 139 #[.val (.int p1), .val (.int p2), .val (.int p3), .val (.int p4), .val (.int p5), .val (.int p6), .val (.int n), .val (.int y0), .val (.int y1), .val (.int y2), .val (.int c0), .val (.int c1), .val (.int c2), .val (.int m0), .val (.int m1), .val (.int m2), .val (.ref sb), .val (.ref db), .val (.ref pb), .unset, .unset, .unset, .unset] [])) _
    refine XS.lconst X19.here hx rfl (hb hby at_139) ?_
    show Steps p.tables e below (T19.setTop (mkF m 140 #[.val (.int p1), .val (.int p2), .val (.int p3), .val (.int p4), .val (.int p5), .val (.int p6), .val (.int n), .val (.int y0), .val (.int y1), .val (.int y2), .val (.int c0), .val (.int c1), .val (.int c2), .val (.int m0), .val (.int m1), .val (.int m2), .val (.ref sb), .val (.ref db), .val (.ref pb), .unset, .unset, .unset, .unset] [(.long (0 : Int64))])) _
    refine XS.lstore X19.here hx rfl (hb hby at_140) rfl (l' := #[.val (.int p1), .val (.int p2), .val (.int p3), .val (.int p4), .val (.int p5), .val (.int p6), .val (.int n), .val (.int y0), .val (.int y1), .val (.int y2), .val (.int c0), .val (.int c1), .val (.int c2), .val (.int m0), .val (.int m1), .val (.int m2), .val (.ref sb), .val (.ref db), .val (.ref pb), .val (.long (0 : Int64)), .second, .unset, .unset]) rfl ?_
    exact Steps.refl _)
  obtain ⟨fd0, FD0x⟩ : ∃ fd, Far Z h19 db .int n fd := ⟨_, FD0⟩
  have pre21 : Steps p.tables e below _ (T19.setTop (mkF m 144 #[.val (.int p1), .val (.int p2), .val (.int p3), .val (.int p4), .val (.int p5), .val (.int p6), .val (.int n), .val (.int y0), .val (.int y1), .val (.int y2), .val (.int c0), .val (.int c1), .val (.int c2), .val (.int m0), .val (.int m1), .val (.int m2), .val (.ref sb), .val (.ref db), .val (.ref pb), .val (.long (0 : Int64)), .second, .unset, .unset] [(.int n)])) := pre20.trans (by
    show Steps p.tables e below (T19.setTop (mkF m 142 #[.val (.int p1), .val (.int p2), .val (.int p3), .val (.int p4), .val (.int p5), .val (.int p6), .val (.int n), .val (.int y0), .val (.int y1), .val (.int y2), .val (.int c0), .val (.int c1), .val (.int c2), .val (.int m0), .val (.int m1), .val (.int m2), .val (.ref sb), .val (.ref db), .val (.ref pb), .val (.long (0 : Int64)), .second, .unset, .unset] [])) _
    refine XS.iload X19.here hx rfl (hb hby at_142) rfl ?_
    exact Steps.refl _)
  obtain ⟨U1, lu1, po1, fd1, XU1, NU1, FSu1, ESu1, FDu1, FPu1, ZU1, preU1⟩ : ∃ (T' : State) (l' : List Loc) (po1 : Int64) (fd : Nat → Int32), Stand p l e room_1 s m #[(.int p1), (.int p2), (.int p3), (.int p4), (.int p5), (.int p6)] below meth c T' l' 3 9 ∧ Fr n0 l' ∧ Far Z T'.heap sb .int n (fun k : Nat => (if k = 0 then y0 else 0)) ∧ Exa Z T'.heap sb "[I" ∧ Far Z T'.heap db .int n fd ∧ Far Z T'.heap pb .boolean n (fun k : Nat => (if k = 0 then c0 else 0)) ∧ n0 ≤ T'.heap.size ∧ Steps p.tables e below (s₁.setTop (entryFrame m #[(.int p1), (.int p2), (.int p3), (.int p4), (.int p5), (.int p6)] maxLocals)) (T'.setTop (mkF m 178 #[.val (.int p1), .val (.int p2), .val (.int p3), .val (.int p4), .val (.int p5), .val (.int p6), .val (.int n), .val (.int y0), .val (.int y1), .val (.int y2), .val (.int c0), .val (.int c1), .val (.int c2), .val (.int m0), .val (.int m1), .val (.int m2), .val (.ref sb), .val (.ref db), .val (.ref pb), .val (.long po1), .second, .unset, .unset] [])) := by
    rcases Decidable.em ((0 : Int32) < n) with h | h
    · have hi : ¬ (0 : Int32) < 0 ∧ (0 : Int32) < n := ⟨by decide, h⟩
      have pre22 : Steps p.tables e below _ (T19.setTop (mkF m 152 #[.val (.int p1), .val (.int p2), .val (.int p3), .val (.int p4), .val (.int p5), .val (.int p6), .val (.int n), .val (.int y0), .val (.int y1), .val (.int y2), .val (.int c0), .val (.int c1), .val (.int c2), .val (.int m0), .val (.int m1), .val (.int m2), .val (.ref sb), .val (.ref db), .val (.ref pb), .val (.long (0 : Int64)), .second, .unset, .unset] [(.int y0), (.int (0 : Int32)), (.ref sb)])) := pre21.trans (by
        show Steps p.tables e below (T19.setTop (mkF m 144 #[.val (.int p1), .val (.int p2), .val (.int p3), .val (.int p4), .val (.int p5), .val (.int p6), .val (.int n), .val (.int y0), .val (.int y1), .val (.int y2), .val (.int c0), .val (.int c1), .val (.int c2), .val (.int m0), .val (.int m1), .val (.int m2), .val (.ref sb), .val (.ref db), .val (.ref pb), .val (.long (0 : Int64)), .second, .unset, .unset] [(.int n)])) _
        refine XS.ifNo X19.here hx rfl (hb hby at_144) rfl ((if0 _ _).trans (tlt h).2.2.2) ?_
        show Steps p.tables e below (T19.setTop (mkF m 147 #[.val (.int p1), .val (.int p2), .val (.int p3), .val (.int p4), .val (.int p5), .val (.int p6), .val (.int n), .val (.int y0), .val (.int y1), .val (.int y2), .val (.int c0), .val (.int c1), .val (.int c2), .val (.int m0), .val (.int m1), .val (.int m2), .val (.ref sb), .val (.ref db), .val (.ref pb), .val (.long (0 : Int64)), .second, .unset, .unset] [])) _
        refine XS.aload X19.here hx rfl (hb hby at_147) rfl rfl ?_
        show Steps p.tables e below (T19.setTop (mkF m 149 #[.val (.int p1), .val (.int p2), .val (.int p3), .val (.int p4), .val (.int p5), .val (.int p6), .val (.int n), .val (.int y0), .val (.int y1), .val (.int y2), .val (.int c0), .val (.int c1), .val (.int c2), .val (.int m0), .val (.int m1), .val (.int m2), .val (.ref sb), .val (.ref db), .val (.ref pb), .val (.long (0 : Int64)), .second, .unset, .unset] [(.ref sb)])) _
        refine XS.iconst X19.here hx rfl (hb hby at_149) ?_
        show Steps p.tables e below (T19.setTop (mkF m 150 #[.val (.int p1), .val (.int p2), .val (.int p3), .val (.int p4), .val (.int p5), .val (.int p6), .val (.int n), .val (.int y0), .val (.int y1), .val (.int y2), .val (.int c0), .val (.int c1), .val (.int c2), .val (.int m0), .val (.int m1), .val (.int m2), .val (.ref sb), .val (.ref db), .val (.ref pb), .val (.long (0 : Int64)), .second, .unset, .unset] [(.int (0 : Int32)), (.ref sb)])) _
        refine XS.iload X19.here hx rfl (hb hby at_150) rfl ?_
        exact Steps.refl _)
      obtain ⟨cl23, Ar23, S23, M23, H23⟩ := id FS0
      have hin23 : ¬ ((0 : Int32) < 0 ∨ cl23.slots.size ≤ ((0 : Int32)).toNatClampNeg) := inb_of S23 hi
      obtain ⟨T23, h23, X23, e23, W23, st23⟩ := stI X19 hx hZ e19 Ar23 (j := (0 : Int32)) hin23 (g := (mkF m 152 #[.val (.int p1), .val (.int p2), .val (.int p3), .val (.int p4), .val (.int p5), .val (.int p6), .val (.int n), .val (.int y0), .val (.int y1), .val (.int y2), .val (.int c0), .val (.int c1), .val (.int c2), .val (.int m0), .val (.int m1), .val (.int m2), .val (.ref sb), .val (.ref db), .val (.ref pb), .val (.long (0 : Int64)), .second, .unset, .unset] [(.int y0), (.int (0 : Int32)), (.ref sb)])) rfl rfl (hb hby at_152)
      have F23 := Far.set Ar23 S23 M23 H23 W23
      have N23 := Fr.snoc X23 N0 g_sb
      have Z23 : n0 ≤ h23.size := Nat.le_trans Z19 (Keep.of_wr W23).1
      have pre23 : Steps p.tables e below _ (T23.setTop (mkF m 153 #[.val (.int p1), .val (.int p2), .val (.int p3), .val (.int p4), .val (.int p5), .val (.int p6), .val (.int n), .val (.int y0), .val (.int y1), .val (.int y2), .val (.int c0), .val (.int c1), .val (.int c2), .val (.int m0), .val (.int m1), .val (.int m2), .val (.ref sb), .val (.ref db), .val (.ref pb), .val (.long (0 : Int64)), .second, .unset, .unset] [])) := pre22.trans (st23 _ (Steps.refl _))
      have PA := FP0.other W23 (Ne.symm sp)
      have DA := FD0x.other W23 (Ne.symm sd)
      have EA := ES0.wr W23
      have pre24 : Steps p.tables e below _ (T23.setTop (mkF m 158 #[.val (.int p1), .val (.int p2), .val (.int p3), .val (.int p4), .val (.int p5), .val (.int p6), .val (.int n), .val (.int y0), .val (.int y1), .val (.int y2), .val (.int c0), .val (.int c1), .val (.int c2), .val (.int m0), .val (.int m1), .val (.int m2), .val (.ref sb), .val (.ref db), .val (.ref pb), .val (.long (0 : Int64)), .second, .unset, .unset] [(.int c0), (.int (0 : Int32)), (.ref pb)])) := pre23.trans (by
        show Steps p.tables e below (T23.setTop (mkF m 153 #[.val (.int p1), .val (.int p2), .val (.int p3), .val (.int p4), .val (.int p5), .val (.int p6), .val (.int n), .val (.int y0), .val (.int y1), .val (.int y2), .val (.int c0), .val (.int c1), .val (.int c2), .val (.int m0), .val (.int m1), .val (.int m2), .val (.ref sb), .val (.ref db), .val (.ref pb), .val (.long (0 : Int64)), .second, .unset, .unset] [])) _
        refine XS.aload X23.here hx rfl (hb hby at_153) rfl rfl ?_
        show Steps p.tables e below (T23.setTop (mkF m 155 #[.val (.int p1), .val (.int p2), .val (.int p3), .val (.int p4), .val (.int p5), .val (.int p6), .val (.int n), .val (.int y0), .val (.int y1), .val (.int y2), .val (.int c0), .val (.int c1), .val (.int c2), .val (.int m0), .val (.int m1), .val (.int m2), .val (.ref sb), .val (.ref db), .val (.ref pb), .val (.long (0 : Int64)), .second, .unset, .unset] [(.ref pb)])) _
        refine XS.iconst X23.here hx rfl (hb hby at_155) ?_
        show Steps p.tables e below (T23.setTop (mkF m 156 #[.val (.int p1), .val (.int p2), .val (.int p3), .val (.int p4), .val (.int p5), .val (.int p6), .val (.int n), .val (.int y0), .val (.int y1), .val (.int y2), .val (.int c0), .val (.int c1), .val (.int c2), .val (.int m0), .val (.int m1), .val (.int m2), .val (.ref sb), .val (.ref db), .val (.ref pb), .val (.long (0 : Int64)), .second, .unset, .unset] [(.int (0 : Int32)), (.ref pb)])) _
        refine XS.iload X23.here hx rfl (hb hby at_156) rfl ?_
        exact Steps.refl _)
      obtain ⟨cl25, Ar25, S25, M25, H25⟩ := id PA
      have hin25 : ¬ ((0 : Int32) < 0 ∨ cl25.slots.size ≤ ((0 : Int32)).toNatClampNeg) := inb_of S25 hi
      obtain ⟨T25, h25, X25, e25, W25, st25⟩ := stZ X23 hx hZ e23 Ar25 (j := (0 : Int32)) hin25 (g := (mkF m 158 #[.val (.int p1), .val (.int p2), .val (.int p3), .val (.int p4), .val (.int p5), .val (.int p6), .val (.int n), .val (.int y0), .val (.int y1), .val (.int y2), .val (.int c0), .val (.int c1), .val (.int c2), .val (.int m0), .val (.int m1), .val (.int m2), .val (.ref sb), .val (.ref db), .val (.ref pb), .val (.long (0 : Int64)), .second, .unset, .unset] [(.int c0), (.int (0 : Int32)), (.ref pb)])) rfl rfl (hb hby at_158)
      have F25 := Far.set Ar25 S25 M25 H25 W25
      have N25 := Fr.snoc X25 N23 g_pb
      have Z25 : n0 ≤ h25.size := Nat.le_trans Z23 (Keep.of_wr W25).1
      have pre25 : Steps p.tables e below _ (T25.setTop (mkF m 159 #[.val (.int p1), .val (.int p2), .val (.int p3), .val (.int p4), .val (.int p5), .val (.int p6), .val (.int n), .val (.int y0), .val (.int y1), .val (.int y2), .val (.int c0), .val (.int c1), .val (.int c2), .val (.int m0), .val (.int m1), .val (.int m2), .val (.ref sb), .val (.ref db), .val (.ref pb), .val (.long (0 : Int64)), .second, .unset, .unset] [])) := pre24.trans (st25 _ (Steps.refl _))
      have SB := F23.other W25 sp
      have DB := DA.other W25 dp
      have EB := EA.wr W25
      have pre26 : Steps p.tables e below _ (T25.setTop (mkF m 164 #[.val (.int p1), .val (.int p2), .val (.int p3), .val (.int p4), .val (.int p5), .val (.int p6), .val (.int n), .val (.int y0), .val (.int y1), .val (.int y2), .val (.int c0), .val (.int c1), .val (.int c2), .val (.int m0), .val (.int m1), .val (.int m2), .val (.ref sb), .val (.ref db), .val (.ref pb), .val (.long (0 : Int64)), .second, .unset, .unset] [(.int m0), (.int (0 : Int32)), (.ref db)])) := pre25.trans (by
        show Steps p.tables e below (T25.setTop (mkF m 159 #[.val (.int p1), .val (.int p2), .val (.int p3), .val (.int p4), .val (.int p5), .val (.int p6), .val (.int n), .val (.int y0), .val (.int y1), .val (.int y2), .val (.int c0), .val (.int c1), .val (.int c2), .val (.int m0), .val (.int m1), .val (.int m2), .val (.ref sb), .val (.ref db), .val (.ref pb), .val (.long (0 : Int64)), .second, .unset, .unset] [])) _
        refine XS.aload X25.here hx rfl (hb hby at_159) rfl rfl ?_
        show Steps p.tables e below (T25.setTop (mkF m 161 #[.val (.int p1), .val (.int p2), .val (.int p3), .val (.int p4), .val (.int p5), .val (.int p6), .val (.int n), .val (.int y0), .val (.int y1), .val (.int y2), .val (.int c0), .val (.int c1), .val (.int c2), .val (.int m0), .val (.int m1), .val (.int m2), .val (.ref sb), .val (.ref db), .val (.ref pb), .val (.long (0 : Int64)), .second, .unset, .unset] [(.ref db)])) _
        refine XS.iconst X25.here hx rfl (hb hby at_161) ?_
        show Steps p.tables e below (T25.setTop (mkF m 162 #[.val (.int p1), .val (.int p2), .val (.int p3), .val (.int p4), .val (.int p5), .val (.int p6), .val (.int n), .val (.int y0), .val (.int y1), .val (.int y2), .val (.int c0), .val (.int c1), .val (.int c2), .val (.int m0), .val (.int m1), .val (.int m2), .val (.ref sb), .val (.ref db), .val (.ref pb), .val (.long (0 : Int64)), .second, .unset, .unset] [(.int (0 : Int32)), (.ref db)])) _
        refine XS.iload X25.here hx rfl (hb hby at_162) rfl ?_
        exact Steps.refl _)
      obtain ⟨cl27, Ar27, S27, M27, H27⟩ := id DB
      have hin27 : ¬ ((0 : Int32) < 0 ∨ cl27.slots.size ≤ ((0 : Int32)).toNatClampNeg) := inb_of S27 hi
      obtain ⟨T27, h27, X27, e27, W27, st27⟩ := stI X25 hx hZ e25 Ar27 (j := (0 : Int32)) hin27 (g := (mkF m 164 #[.val (.int p1), .val (.int p2), .val (.int p3), .val (.int p4), .val (.int p5), .val (.int p6), .val (.int n), .val (.int y0), .val (.int y1), .val (.int y2), .val (.int c0), .val (.int c1), .val (.int c2), .val (.int m0), .val (.int m1), .val (.int m2), .val (.ref sb), .val (.ref db), .val (.ref pb), .val (.long (0 : Int64)), .second, .unset, .unset] [(.int m0), (.int (0 : Int32)), (.ref db)])) rfl rfl (hb hby at_164)
      have F27 := Far.set Ar27 S27 M27 H27 W27
      have N27 := Fr.snoc X27 N25 g_db
      have Z27 : n0 ≤ h27.size := Nat.le_trans Z25 (Keep.of_wr W27).1
      have pre27 : Steps p.tables e below _ (T27.setTop (mkF m 165 #[.val (.int p1), .val (.int p2), .val (.int p3), .val (.int p4), .val (.int p5), .val (.int p6), .val (.int n), .val (.int y0), .val (.int y1), .val (.int y2), .val (.int c0), .val (.int c1), .val (.int c2), .val (.int m0), .val (.int m1), .val (.int m2), .val (.ref sb), .val (.ref db), .val (.ref pb), .val (.long (0 : Int64)), .second, .unset, .unset] [])) := pre26.trans (st27 _ (Steps.refl _))
      have SC := SB.other W27 sd
      have PC := F25.other W27 (Ne.symm dp)
      have EC := EB.wr W27
      have eC := e27
      obtain ⟨pv1, h_pv1⟩ : ∃ z, z = own_po1_0_3 c0 y0 := ⟨_, rfl⟩
      have Bpo1_1 (hv0 : pv1 = own_po1_0_1 c0 y0) : Steps p.tables e below (T27.setTop (mkF m 178 #[.val (.int p1), .val (.int p2), .val (.int p3), .val (.int p4), .val (.int p5), .val (.int p6), .val (.int n), .val (.int y0), .val (.int y1), .val (.int y2), .val (.int c0), .val (.int c1), .val (.int c2), .val (.int m0), .val (.int m1), .val (.int m2), .val (.ref sb), .val (.ref db), .val (.ref pb), .val (.long (0 : Int64)), .second, .unset, .unset] [])) (T27.setTop (mkF m 178 #[.val (.int p1), .val (.int p2), .val (.int p3), .val (.int p4), .val (.int p5), .val (.int p6), .val (.int n), .val (.int y0), .val (.int y1), .val (.int y2), .val (.int c0), .val (.int c1), .val (.int c2), .val (.int m0), .val (.int m1), .val (.int m2), .val (.ref sb), .val (.ref db), .val (.ref pb), .val (.long pv1), .second, .unset, .unset] [])) := by
        have hw0 : pv1 = (0 : Int64) := hv0
        rw [hw0]
        exact Steps.refl _
      have Bpo1_2 (hv0 : pv1 = own_po1_0_2 c0 y0) : Steps p.tables e below (T27.setTop (mkF m 170 #[.val (.int p1), .val (.int p2), .val (.int p3), .val (.int p4), .val (.int p5), .val (.int p6), .val (.int n), .val (.int y0), .val (.int y1), .val (.int y2), .val (.int c0), .val (.int c1), .val (.int c2), .val (.int m0), .val (.int m1), .val (.int m2), .val (.ref sb), .val (.ref db), .val (.ref pb), .val (.long (0 : Int64)), .second, .unset, .unset] [])) (T27.setTop (mkF m 178 #[.val (.int p1), .val (.int p2), .val (.int p3), .val (.int p4), .val (.int p5), .val (.int p6), .val (.int n), .val (.int y0), .val (.int y1), .val (.int y2), .val (.int c0), .val (.int c1), .val (.int c2), .val (.int m0), .val (.int m1), .val (.int m2), .val (.ref sb), .val (.ref db), .val (.ref pb), .val (.long pv1), .second, .unset, .unset] [])) := by
        have hw0 : pv1 = ((0 : Int64) + (y0.toInt64)) := hv0
        rw [hw0]
        show Steps p.tables e below (T27.setTop (mkF m 170 #[.val (.int p1), .val (.int p2), .val (.int p3), .val (.int p4), .val (.int p5), .val (.int p6), .val (.int n), .val (.int y0), .val (.int y1), .val (.int y2), .val (.int c0), .val (.int c1), .val (.int c2), .val (.int m0), .val (.int m1), .val (.int m2), .val (.ref sb), .val (.ref db), .val (.ref pb), .val (.long (0 : Int64)), .second, .unset, .unset] [])) _
        refine XS.lload X27.here hx rfl (hb hby at_170) rfl ?_
        show Steps p.tables e below (T27.setTop (mkF m 172 #[.val (.int p1), .val (.int p2), .val (.int p3), .val (.int p4), .val (.int p5), .val (.int p6), .val (.int n), .val (.int y0), .val (.int y1), .val (.int y2), .val (.int c0), .val (.int c1), .val (.int c2), .val (.int m0), .val (.int m1), .val (.int m2), .val (.ref sb), .val (.ref db), .val (.ref pb), .val (.long (0 : Int64)), .second, .unset, .unset] [(.long (0 : Int64))])) _
        refine XS.iload X27.here hx rfl (hb hby at_172) rfl ?_
        show Steps p.tables e below (T27.setTop (mkF m 174 #[.val (.int p1), .val (.int p2), .val (.int p3), .val (.int p4), .val (.int p5), .val (.int p6), .val (.int n), .val (.int y0), .val (.int y1), .val (.int y2), .val (.int c0), .val (.int c1), .val (.int c2), .val (.int m0), .val (.int m1), .val (.int m2), .val (.ref sb), .val (.ref db), .val (.ref pb), .val (.long (0 : Int64)), .second, .unset, .unset] [(.int y0), (.long (0 : Int64))])) _
        refine XS.i2l X27.here hx rfl (hb hby at_174) rfl ?_
        show Steps p.tables e below (T27.setTop (mkF m 175 #[.val (.int p1), .val (.int p2), .val (.int p3), .val (.int p4), .val (.int p5), .val (.int p6), .val (.int n), .val (.int y0), .val (.int y1), .val (.int y2), .val (.int c0), .val (.int c1), .val (.int c2), .val (.int m0), .val (.int m1), .val (.int m2), .val (.ref sb), .val (.ref db), .val (.ref pb), .val (.long (0 : Int64)), .second, .unset, .unset] [(.long (y0.toInt64)), (.long (0 : Int64))])) _
        refine XS.ladd X27.here hx rfl (hb hby at_175) rfl ?_
        show Steps p.tables e below (T27.setTop (mkF m 176 #[.val (.int p1), .val (.int p2), .val (.int p3), .val (.int p4), .val (.int p5), .val (.int p6), .val (.int n), .val (.int y0), .val (.int y1), .val (.int y2), .val (.int c0), .val (.int c1), .val (.int c2), .val (.int m0), .val (.int m1), .val (.int m2), .val (.ref sb), .val (.ref db), .val (.ref pb), .val (.long (0 : Int64)), .second, .unset, .unset] [(.long ((0 : Int64) + (y0.toInt64)))])) _
        refine XS.lstore X27.here hx rfl (hb hby at_176) rfl (l' := #[.val (.int p1), .val (.int p2), .val (.int p3), .val (.int p4), .val (.int p5), .val (.int p6), .val (.int n), .val (.int y0), .val (.int y1), .val (.int y2), .val (.int c0), .val (.int c1), .val (.int c2), .val (.int m0), .val (.int m1), .val (.int m2), .val (.ref sb), .val (.ref db), .val (.ref pb), .val (.long ((0 : Int64) + (y0.toInt64))), .second, .unset, .unset]) rfl ?_
        exact Steps.refl _
      have Bpo1_3 (hv0 : pv1 = own_po1_0_3 c0 y0) : Steps p.tables e below (T27.setTop (mkF m 165 #[.val (.int p1), .val (.int p2), .val (.int p3), .val (.int p4), .val (.int p5), .val (.int p6), .val (.int n), .val (.int y0), .val (.int y1), .val (.int y2), .val (.int c0), .val (.int c1), .val (.int c2), .val (.int m0), .val (.int m1), .val (.int m2), .val (.ref sb), .val (.ref db), .val (.ref pb), .val (.long (0 : Int64)), .second, .unset, .unset] [])) (T27.setTop (mkF m 178 #[.val (.int p1), .val (.int p2), .val (.int p3), .val (.int p4), .val (.int p5), .val (.int p6), .val (.int n), .val (.int y0), .val (.int y1), .val (.int y2), .val (.int c0), .val (.int c1), .val (.int c2), .val (.int m0), .val (.int m1), .val (.int m2), .val (.ref sb), .val (.ref db), .val (.ref pb), .val (.long pv1), .second, .unset, .unset] [])) := by
        show Steps p.tables e below (T27.setTop (mkF m 165 #[.val (.int p1), .val (.int p2), .val (.int p3), .val (.int p4), .val (.int p5), .val (.int p6), .val (.int n), .val (.int y0), .val (.int y1), .val (.int y2), .val (.int c0), .val (.int c1), .val (.int c2), .val (.int m0), .val (.int m1), .val (.int m2), .val (.ref sb), .val (.ref db), .val (.ref pb), .val (.long (0 : Int64)), .second, .unset, .unset] [])) _
        refine XS.iload X27.here hx rfl (hb hby at_165) rfl ?_
        show Steps p.tables e below (T27.setTop (mkF m 167 #[.val (.int p1), .val (.int p2), .val (.int p3), .val (.int p4), .val (.int p5), .val (.int p6), .val (.int n), .val (.int y0), .val (.int y1), .val (.int y2), .val (.int c0), .val (.int c1), .val (.int c2), .val (.int m0), .val (.int m1), .val (.int m2), .val (.ref sb), .val (.ref db), .val (.ref pb), .val (.long (0 : Int64)), .second, .unset, .unset] [(.int c0)])) _
        by_cases h167 : c0 = (0 : Int32)
        · refine XS.ifYes X27.here hx rfl (pc0 := 167) (pc' := 178) rfl (hb hby at_167) rfl ((if0 _ _).trans (teq h167).1) (by decide) (by decide) ?_
          exact Bpo1_1 (hv0.trans (if_pos h167))
        · refine XS.ifNo X27.here hx rfl (hb hby at_167) rfl ((if0 _ _).trans (feq h167).1) ?_
          exact Bpo1_2 (hv0.trans (if_neg h167))
      have pre28 : Steps p.tables e below _ (T27.setTop (mkF m 178 #[.val (.int p1), .val (.int p2), .val (.int p3), .val (.int p4), .val (.int p5), .val (.int p6), .val (.int n), .val (.int y0), .val (.int y1), .val (.int y2), .val (.int c0), .val (.int c1), .val (.int c2), .val (.int m0), .val (.int m1), .val (.int m2), .val (.ref sb), .val (.ref db), .val (.ref pb), .val (.long pv1), .second, .unset, .unset] [])) := pre27.trans (Bpo1_3 h_pv1)
      obtain ⟨fdn, FDn⟩ : ∃ fd, Far Z h27 db .int n fd := ⟨_, F27⟩
      refine ⟨T27, _, pv1, fdn, X27, N27, ?_, ?_, ?_, ?_, ?_, pre28⟩
      · rw [eC]; exact SC.congr (fun k hk => by
          show (if k = (0 : Int32).toNatClampNeg then y0 else (fun _ : Nat => (0 : Int32)) k) = (fun k : Nat => (if k = 0 then y0 else 0)) k
          rfl)
      · rw [eC]; exact EC
      · rw [eC]; exact FDn
      · rw [eC]; exact PC.congr (fun k hk => by
          show (if k = (0 : Int32).toNatClampNeg then nar .boolean c0 else (fun _ : Nat => (0 : Int32)) k) = (fun k : Nat => (if k = 0 then c0 else 0)) k
          rw [own_nar bc0]; rfl)
      · rw [eC]; exact Z27
    · have hn : n.toInt ≤ 0 := by rw [own_lt, e00] at h; omega
      have pre29 : Steps p.tables e below _ (T19.setTop (mkF m 178 #[.val (.int p1), .val (.int p2), .val (.int p3), .val (.int p4), .val (.int p5), .val (.int p6), .val (.int n), .val (.int y0), .val (.int y1), .val (.int y2), .val (.int c0), .val (.int c1), .val (.int c2), .val (.int m0), .val (.int m1), .val (.int m2), .val (.ref sb), .val (.ref db), .val (.ref pb), .val (.long (0 : Int64)), .second, .unset, .unset] [])) := pre21.trans (by
        show Steps p.tables e below (T19.setTop (mkF m 144 #[.val (.int p1), .val (.int p2), .val (.int p3), .val (.int p4), .val (.int p5), .val (.int p6), .val (.int n), .val (.int y0), .val (.int y1), .val (.int y2), .val (.int c0), .val (.int c1), .val (.int c2), .val (.int m0), .val (.int m1), .val (.int m2), .val (.ref sb), .val (.ref db), .val (.ref pb), .val (.long (0 : Int64)), .second, .unset, .unset] [(.int n)])) _
        refine XS.ifYes X19.here hx rfl (pc0 := 144) (pc' := 178) rfl (hb hby at_144) rfl ((if0 _ _).trans (flt h).2.2.2) (by decide) (by decide) ?_
        exact Steps.refl _)
      have wn := own_nat n bn.1
      refine ⟨T19, _, _, fd0, X19, N0, ?_, ?_, ?_, ?_, ?_, pre29⟩
      · rw [e19]; exact FS0.congr (fun k hk => by show (fun _ : Nat => (0 : Int32)) k = (if k = 0 then y0 else (fun _ : Nat => (0 : Int32)) k); rw [if_neg (by omega)])
      · rw [e19]; exact ES0
      · rw [e19]; exact FD0x
      · rw [e19]; exact FP0.congr (fun k hk => by show (fun _ : Nat => (0 : Int32)) k = (if k = 0 then c0 else (fun _ : Nat => (0 : Int32)) k); rw [if_neg (by omega)])
      · rw [e19]; exact Z19
  have pre30 : Steps p.tables e below _ (U1.setTop (mkF m 181 #[.val (.int p1), .val (.int p2), .val (.int p3), .val (.int p4), .val (.int p5), .val (.int p6), .val (.int n), .val (.int y0), .val (.int y1), .val (.int y2), .val (.int c0), .val (.int c1), .val (.int c2), .val (.int m0), .val (.int m1), .val (.int m2), .val (.ref sb), .val (.ref db), .val (.ref pb), .val (.long po1), .second, .unset, .unset] [(.int (1 : Int32)), (.int n)])) := preU1.trans (by
    show Steps p.tables e below (U1.setTop (mkF m 178 #[.val (.int p1), .val (.int p2), .val (.int p3), .val (.int p4), .val (.int p5), .val (.int p6), .val (.int n), .val (.int y0), .val (.int y1), .val (.int y2), .val (.int c0), .val (.int c1), .val (.int c2), .val (.int m0), .val (.int m1), .val (.int m2), .val (.ref sb), .val (.ref db), .val (.ref pb), .val (.long po1), .second, .unset, .unset] [])) _
    refine XS.iload XU1.here hx rfl (hb hby at_178) rfl ?_
    show Steps p.tables e below (U1.setTop (mkF m 180 #[.val (.int p1), .val (.int p2), .val (.int p3), .val (.int p4), .val (.int p5), .val (.int p6), .val (.int n), .val (.int y0), .val (.int y1), .val (.int y2), .val (.int c0), .val (.int c1), .val (.int c2), .val (.int m0), .val (.int m1), .val (.int m2), .val (.ref sb), .val (.ref db), .val (.ref pb), .val (.long po1), .second, .unset, .unset] [(.int n)])) _
    refine XS.iconst XU1.here hx rfl (hb hby at_180) ?_
    exact Steps.refl _)
  obtain ⟨U2, lu2, po2, fd2, XU2, NU2, FSu2, ESu2, FDu2, FPu2, ZU2, preU2⟩ : ∃ (T' : State) (l' : List Loc) (po2 : Int64) (fd : Nat → Int32), Stand p l e room_1 s m #[(.int p1), (.int p2), (.int p3), (.int p4), (.int p5), (.int p6)] below meth c T' l' 3 9 ∧ Fr n0 l' ∧ Far Z T'.heap sb .int n (fun k : Nat => (if k = 1 then y1 else (if k = 0 then y0 else 0))) ∧ Exa Z T'.heap sb "[I" ∧ Far Z T'.heap db .int n fd ∧ Far Z T'.heap pb .boolean n (fun k : Nat => (if k = 1 then c1 else (if k = 0 then c0 else 0))) ∧ n0 ≤ T'.heap.size ∧ Steps p.tables e below (s₁.setTop (entryFrame m #[(.int p1), (.int p2), (.int p3), (.int p4), (.int p5), (.int p6)] maxLocals)) (T'.setTop (mkF m 215 #[.val (.int p1), .val (.int p2), .val (.int p3), .val (.int p4), .val (.int p5), .val (.int p6), .val (.int n), .val (.int y0), .val (.int y1), .val (.int y2), .val (.int c0), .val (.int c1), .val (.int c2), .val (.int m0), .val (.int m1), .val (.int m2), .val (.ref sb), .val (.ref db), .val (.ref pb), .val (.long po2), .second, .unset, .unset] [])) := by
    rcases Decidable.em ((1 : Int32) < n) with h | h
    · have hi : ¬ (1 : Int32) < 0 ∧ (1 : Int32) < n := ⟨by decide, h⟩
      have pre31 : Steps p.tables e below _ (U1.setTop (mkF m 189 #[.val (.int p1), .val (.int p2), .val (.int p3), .val (.int p4), .val (.int p5), .val (.int p6), .val (.int n), .val (.int y0), .val (.int y1), .val (.int y2), .val (.int c0), .val (.int c1), .val (.int c2), .val (.int m0), .val (.int m1), .val (.int m2), .val (.ref sb), .val (.ref db), .val (.ref pb), .val (.long po1), .second, .unset, .unset] [(.int y1), (.int (1 : Int32)), (.ref sb)])) := pre30.trans (by
        show Steps p.tables e below (U1.setTop (mkF m 181 #[.val (.int p1), .val (.int p2), .val (.int p3), .val (.int p4), .val (.int p5), .val (.int p6), .val (.int n), .val (.int y0), .val (.int y1), .val (.int y2), .val (.int c0), .val (.int c1), .val (.int c2), .val (.int m0), .val (.int m1), .val (.int m2), .val (.ref sb), .val (.ref db), .val (.ref pb), .val (.long po1), .second, .unset, .unset] [(.int (1 : Int32)), (.int n)])) _
        refine XS.icmpNo XU1.here hx rfl (hb hby at_181) rfl (tlt h).2.2.2 ?_
        show Steps p.tables e below (U1.setTop (mkF m 184 #[.val (.int p1), .val (.int p2), .val (.int p3), .val (.int p4), .val (.int p5), .val (.int p6), .val (.int n), .val (.int y0), .val (.int y1), .val (.int y2), .val (.int c0), .val (.int c1), .val (.int c2), .val (.int m0), .val (.int m1), .val (.int m2), .val (.ref sb), .val (.ref db), .val (.ref pb), .val (.long po1), .second, .unset, .unset] [])) _
        refine XS.aload XU1.here hx rfl (hb hby at_184) rfl rfl ?_
        show Steps p.tables e below (U1.setTop (mkF m 186 #[.val (.int p1), .val (.int p2), .val (.int p3), .val (.int p4), .val (.int p5), .val (.int p6), .val (.int n), .val (.int y0), .val (.int y1), .val (.int y2), .val (.int c0), .val (.int c1), .val (.int c2), .val (.int m0), .val (.int m1), .val (.int m2), .val (.ref sb), .val (.ref db), .val (.ref pb), .val (.long po1), .second, .unset, .unset] [(.ref sb)])) _
        refine XS.iconst XU1.here hx rfl (hb hby at_186) ?_
        show Steps p.tables e below (U1.setTop (mkF m 187 #[.val (.int p1), .val (.int p2), .val (.int p3), .val (.int p4), .val (.int p5), .val (.int p6), .val (.int n), .val (.int y0), .val (.int y1), .val (.int y2), .val (.int c0), .val (.int c1), .val (.int c2), .val (.int m0), .val (.int m1), .val (.int m2), .val (.ref sb), .val (.ref db), .val (.ref pb), .val (.long po1), .second, .unset, .unset] [(.int (1 : Int32)), (.ref sb)])) _
        refine XS.iload XU1.here hx rfl (hb hby at_187) rfl ?_
        exact Steps.refl _)
      obtain ⟨cl32, Ar32, S32, M32, H32⟩ := id FSu1
      have hin32 : ¬ ((1 : Int32) < 0 ∨ cl32.slots.size ≤ ((1 : Int32)).toNatClampNeg) := inb_of S32 hi
      obtain ⟨T32, h32, X32, e32, W32, st32⟩ := stI XU1 hx hZ (rfl : U1.heap = U1.heap) Ar32 (j := (1 : Int32)) hin32 (g := (mkF m 189 #[.val (.int p1), .val (.int p2), .val (.int p3), .val (.int p4), .val (.int p5), .val (.int p6), .val (.int n), .val (.int y0), .val (.int y1), .val (.int y2), .val (.int c0), .val (.int c1), .val (.int c2), .val (.int m0), .val (.int m1), .val (.int m2), .val (.ref sb), .val (.ref db), .val (.ref pb), .val (.long po1), .second, .unset, .unset] [(.int y1), (.int (1 : Int32)), (.ref sb)])) rfl rfl (hb hby at_189)
      have F32 := Far.set Ar32 S32 M32 H32 W32
      have N32 := Fr.snoc X32 NU1 g_sb
      have Z32 : n0 ≤ h32.size := Nat.le_trans ZU1 (Keep.of_wr W32).1
      have pre32 : Steps p.tables e below _ (T32.setTop (mkF m 190 #[.val (.int p1), .val (.int p2), .val (.int p3), .val (.int p4), .val (.int p5), .val (.int p6), .val (.int n), .val (.int y0), .val (.int y1), .val (.int y2), .val (.int c0), .val (.int c1), .val (.int c2), .val (.int m0), .val (.int m1), .val (.int m2), .val (.ref sb), .val (.ref db), .val (.ref pb), .val (.long po1), .second, .unset, .unset] [])) := pre31.trans (st32 _ (Steps.refl _))
      have PA := FPu1.other W32 (Ne.symm sp)
      have DA := FDu1.other W32 (Ne.symm sd)
      have EA := ESu1.wr W32
      have pre33 : Steps p.tables e below _ (T32.setTop (mkF m 195 #[.val (.int p1), .val (.int p2), .val (.int p3), .val (.int p4), .val (.int p5), .val (.int p6), .val (.int n), .val (.int y0), .val (.int y1), .val (.int y2), .val (.int c0), .val (.int c1), .val (.int c2), .val (.int m0), .val (.int m1), .val (.int m2), .val (.ref sb), .val (.ref db), .val (.ref pb), .val (.long po1), .second, .unset, .unset] [(.int c1), (.int (1 : Int32)), (.ref pb)])) := pre32.trans (by
        show Steps p.tables e below (T32.setTop (mkF m 190 #[.val (.int p1), .val (.int p2), .val (.int p3), .val (.int p4), .val (.int p5), .val (.int p6), .val (.int n), .val (.int y0), .val (.int y1), .val (.int y2), .val (.int c0), .val (.int c1), .val (.int c2), .val (.int m0), .val (.int m1), .val (.int m2), .val (.ref sb), .val (.ref db), .val (.ref pb), .val (.long po1), .second, .unset, .unset] [])) _
        refine XS.aload X32.here hx rfl (hb hby at_190) rfl rfl ?_
        show Steps p.tables e below (T32.setTop (mkF m 192 #[.val (.int p1), .val (.int p2), .val (.int p3), .val (.int p4), .val (.int p5), .val (.int p6), .val (.int n), .val (.int y0), .val (.int y1), .val (.int y2), .val (.int c0), .val (.int c1), .val (.int c2), .val (.int m0), .val (.int m1), .val (.int m2), .val (.ref sb), .val (.ref db), .val (.ref pb), .val (.long po1), .second, .unset, .unset] [(.ref pb)])) _
        refine XS.iconst X32.here hx rfl (hb hby at_192) ?_
        show Steps p.tables e below (T32.setTop (mkF m 193 #[.val (.int p1), .val (.int p2), .val (.int p3), .val (.int p4), .val (.int p5), .val (.int p6), .val (.int n), .val (.int y0), .val (.int y1), .val (.int y2), .val (.int c0), .val (.int c1), .val (.int c2), .val (.int m0), .val (.int m1), .val (.int m2), .val (.ref sb), .val (.ref db), .val (.ref pb), .val (.long po1), .second, .unset, .unset] [(.int (1 : Int32)), (.ref pb)])) _
        refine XS.iload X32.here hx rfl (hb hby at_193) rfl ?_
        exact Steps.refl _)
      obtain ⟨cl34, Ar34, S34, M34, H34⟩ := id PA
      have hin34 : ¬ ((1 : Int32) < 0 ∨ cl34.slots.size ≤ ((1 : Int32)).toNatClampNeg) := inb_of S34 hi
      obtain ⟨T34, h34, X34, e34, W34, st34⟩ := stZ X32 hx hZ e32 Ar34 (j := (1 : Int32)) hin34 (g := (mkF m 195 #[.val (.int p1), .val (.int p2), .val (.int p3), .val (.int p4), .val (.int p5), .val (.int p6), .val (.int n), .val (.int y0), .val (.int y1), .val (.int y2), .val (.int c0), .val (.int c1), .val (.int c2), .val (.int m0), .val (.int m1), .val (.int m2), .val (.ref sb), .val (.ref db), .val (.ref pb), .val (.long po1), .second, .unset, .unset] [(.int c1), (.int (1 : Int32)), (.ref pb)])) rfl rfl (hb hby at_195)
      have F34 := Far.set Ar34 S34 M34 H34 W34
      have N34 := Fr.snoc X34 N32 g_pb
      have Z34 : n0 ≤ h34.size := Nat.le_trans Z32 (Keep.of_wr W34).1
      have pre34 : Steps p.tables e below _ (T34.setTop (mkF m 196 #[.val (.int p1), .val (.int p2), .val (.int p3), .val (.int p4), .val (.int p5), .val (.int p6), .val (.int n), .val (.int y0), .val (.int y1), .val (.int y2), .val (.int c0), .val (.int c1), .val (.int c2), .val (.int m0), .val (.int m1), .val (.int m2), .val (.ref sb), .val (.ref db), .val (.ref pb), .val (.long po1), .second, .unset, .unset] [])) := pre33.trans (st34 _ (Steps.refl _))
      have SB := F32.other W34 sp
      have DB := DA.other W34 dp
      have EB := EA.wr W34
      have pre35 : Steps p.tables e below _ (T34.setTop (mkF m 201 #[.val (.int p1), .val (.int p2), .val (.int p3), .val (.int p4), .val (.int p5), .val (.int p6), .val (.int n), .val (.int y0), .val (.int y1), .val (.int y2), .val (.int c0), .val (.int c1), .val (.int c2), .val (.int m0), .val (.int m1), .val (.int m2), .val (.ref sb), .val (.ref db), .val (.ref pb), .val (.long po1), .second, .unset, .unset] [(.int m1), (.int (1 : Int32)), (.ref db)])) := pre34.trans (by
        show Steps p.tables e below (T34.setTop (mkF m 196 #[.val (.int p1), .val (.int p2), .val (.int p3), .val (.int p4), .val (.int p5), .val (.int p6), .val (.int n), .val (.int y0), .val (.int y1), .val (.int y2), .val (.int c0), .val (.int c1), .val (.int c2), .val (.int m0), .val (.int m1), .val (.int m2), .val (.ref sb), .val (.ref db), .val (.ref pb), .val (.long po1), .second, .unset, .unset] [])) _
        refine XS.aload X34.here hx rfl (hb hby at_196) rfl rfl ?_
        show Steps p.tables e below (T34.setTop (mkF m 198 #[.val (.int p1), .val (.int p2), .val (.int p3), .val (.int p4), .val (.int p5), .val (.int p6), .val (.int n), .val (.int y0), .val (.int y1), .val (.int y2), .val (.int c0), .val (.int c1), .val (.int c2), .val (.int m0), .val (.int m1), .val (.int m2), .val (.ref sb), .val (.ref db), .val (.ref pb), .val (.long po1), .second, .unset, .unset] [(.ref db)])) _
        refine XS.iconst X34.here hx rfl (hb hby at_198) ?_
        show Steps p.tables e below (T34.setTop (mkF m 199 #[.val (.int p1), .val (.int p2), .val (.int p3), .val (.int p4), .val (.int p5), .val (.int p6), .val (.int n), .val (.int y0), .val (.int y1), .val (.int y2), .val (.int c0), .val (.int c1), .val (.int c2), .val (.int m0), .val (.int m1), .val (.int m2), .val (.ref sb), .val (.ref db), .val (.ref pb), .val (.long po1), .second, .unset, .unset] [(.int (1 : Int32)), (.ref db)])) _
        refine XS.iload X34.here hx rfl (hb hby at_199) rfl ?_
        exact Steps.refl _)
      obtain ⟨cl36, Ar36, S36, M36, H36⟩ := id DB
      have hin36 : ¬ ((1 : Int32) < 0 ∨ cl36.slots.size ≤ ((1 : Int32)).toNatClampNeg) := inb_of S36 hi
      obtain ⟨T36, h36, X36, e36, W36, st36⟩ := stI X34 hx hZ e34 Ar36 (j := (1 : Int32)) hin36 (g := (mkF m 201 #[.val (.int p1), .val (.int p2), .val (.int p3), .val (.int p4), .val (.int p5), .val (.int p6), .val (.int n), .val (.int y0), .val (.int y1), .val (.int y2), .val (.int c0), .val (.int c1), .val (.int c2), .val (.int m0), .val (.int m1), .val (.int m2), .val (.ref sb), .val (.ref db), .val (.ref pb), .val (.long po1), .second, .unset, .unset] [(.int m1), (.int (1 : Int32)), (.ref db)])) rfl rfl (hb hby at_201)
      have F36 := Far.set Ar36 S36 M36 H36 W36
      have N36 := Fr.snoc X36 N34 g_db
      have Z36 : n0 ≤ h36.size := Nat.le_trans Z34 (Keep.of_wr W36).1
      have pre36 : Steps p.tables e below _ (T36.setTop (mkF m 202 #[.val (.int p1), .val (.int p2), .val (.int p3), .val (.int p4), .val (.int p5), .val (.int p6), .val (.int n), .val (.int y0), .val (.int y1), .val (.int y2), .val (.int c0), .val (.int c1), .val (.int c2), .val (.int m0), .val (.int m1), .val (.int m2), .val (.ref sb), .val (.ref db), .val (.ref pb), .val (.long po1), .second, .unset, .unset] [])) := pre35.trans (st36 _ (Steps.refl _))
      have SC := SB.other W36 sd
      have PC := F34.other W36 (Ne.symm dp)
      have EC := EB.wr W36
      have eC := e36
      obtain ⟨pv2, h_pv2⟩ : ∃ z, z = own_po2_0_3 c1 po1 y1 := ⟨_, rfl⟩
      have Bpo2_1 (hv0 : pv2 = own_po2_0_1 c1 po1 y1) : Steps p.tables e below (T36.setTop (mkF m 215 #[.val (.int p1), .val (.int p2), .val (.int p3), .val (.int p4), .val (.int p5), .val (.int p6), .val (.int n), .val (.int y0), .val (.int y1), .val (.int y2), .val (.int c0), .val (.int c1), .val (.int c2), .val (.int m0), .val (.int m1), .val (.int m2), .val (.ref sb), .val (.ref db), .val (.ref pb), .val (.long po1), .second, .unset, .unset] [])) (T36.setTop (mkF m 215 #[.val (.int p1), .val (.int p2), .val (.int p3), .val (.int p4), .val (.int p5), .val (.int p6), .val (.int n), .val (.int y0), .val (.int y1), .val (.int y2), .val (.int c0), .val (.int c1), .val (.int c2), .val (.int m0), .val (.int m1), .val (.int m2), .val (.ref sb), .val (.ref db), .val (.ref pb), .val (.long pv2), .second, .unset, .unset] [])) := by
        have hw0 : pv2 = po1 := hv0
        rw [hw0]
        exact Steps.refl _
      have Bpo2_2 (hv0 : pv2 = own_po2_0_2 c1 po1 y1) : Steps p.tables e below (T36.setTop (mkF m 207 #[.val (.int p1), .val (.int p2), .val (.int p3), .val (.int p4), .val (.int p5), .val (.int p6), .val (.int n), .val (.int y0), .val (.int y1), .val (.int y2), .val (.int c0), .val (.int c1), .val (.int c2), .val (.int m0), .val (.int m1), .val (.int m2), .val (.ref sb), .val (.ref db), .val (.ref pb), .val (.long po1), .second, .unset, .unset] [])) (T36.setTop (mkF m 215 #[.val (.int p1), .val (.int p2), .val (.int p3), .val (.int p4), .val (.int p5), .val (.int p6), .val (.int n), .val (.int y0), .val (.int y1), .val (.int y2), .val (.int c0), .val (.int c1), .val (.int c2), .val (.int m0), .val (.int m1), .val (.int m2), .val (.ref sb), .val (.ref db), .val (.ref pb), .val (.long pv2), .second, .unset, .unset] [])) := by
        have hw0 : pv2 = (po1 + (y1.toInt64)) := hv0
        rw [hw0]
        show Steps p.tables e below (T36.setTop (mkF m 207 #[.val (.int p1), .val (.int p2), .val (.int p3), .val (.int p4), .val (.int p5), .val (.int p6), .val (.int n), .val (.int y0), .val (.int y1), .val (.int y2), .val (.int c0), .val (.int c1), .val (.int c2), .val (.int m0), .val (.int m1), .val (.int m2), .val (.ref sb), .val (.ref db), .val (.ref pb), .val (.long po1), .second, .unset, .unset] [])) _
        refine XS.lload X36.here hx rfl (hb hby at_207) rfl ?_
        show Steps p.tables e below (T36.setTop (mkF m 209 #[.val (.int p1), .val (.int p2), .val (.int p3), .val (.int p4), .val (.int p5), .val (.int p6), .val (.int n), .val (.int y0), .val (.int y1), .val (.int y2), .val (.int c0), .val (.int c1), .val (.int c2), .val (.int m0), .val (.int m1), .val (.int m2), .val (.ref sb), .val (.ref db), .val (.ref pb), .val (.long po1), .second, .unset, .unset] [(.long po1)])) _
        refine XS.iload X36.here hx rfl (hb hby at_209) rfl ?_
        show Steps p.tables e below (T36.setTop (mkF m 211 #[.val (.int p1), .val (.int p2), .val (.int p3), .val (.int p4), .val (.int p5), .val (.int p6), .val (.int n), .val (.int y0), .val (.int y1), .val (.int y2), .val (.int c0), .val (.int c1), .val (.int c2), .val (.int m0), .val (.int m1), .val (.int m2), .val (.ref sb), .val (.ref db), .val (.ref pb), .val (.long po1), .second, .unset, .unset] [(.int y1), (.long po1)])) _
        refine XS.i2l X36.here hx rfl (hb hby at_211) rfl ?_
        show Steps p.tables e below (T36.setTop (mkF m 212 #[.val (.int p1), .val (.int p2), .val (.int p3), .val (.int p4), .val (.int p5), .val (.int p6), .val (.int n), .val (.int y0), .val (.int y1), .val (.int y2), .val (.int c0), .val (.int c1), .val (.int c2), .val (.int m0), .val (.int m1), .val (.int m2), .val (.ref sb), .val (.ref db), .val (.ref pb), .val (.long po1), .second, .unset, .unset] [(.long (y1.toInt64)), (.long po1)])) _
        refine XS.ladd X36.here hx rfl (hb hby at_212) rfl ?_
        show Steps p.tables e below (T36.setTop (mkF m 213 #[.val (.int p1), .val (.int p2), .val (.int p3), .val (.int p4), .val (.int p5), .val (.int p6), .val (.int n), .val (.int y0), .val (.int y1), .val (.int y2), .val (.int c0), .val (.int c1), .val (.int c2), .val (.int m0), .val (.int m1), .val (.int m2), .val (.ref sb), .val (.ref db), .val (.ref pb), .val (.long po1), .second, .unset, .unset] [(.long (po1 + (y1.toInt64)))])) _
        refine XS.lstore X36.here hx rfl (hb hby at_213) rfl (l' := #[.val (.int p1), .val (.int p2), .val (.int p3), .val (.int p4), .val (.int p5), .val (.int p6), .val (.int n), .val (.int y0), .val (.int y1), .val (.int y2), .val (.int c0), .val (.int c1), .val (.int c2), .val (.int m0), .val (.int m1), .val (.int m2), .val (.ref sb), .val (.ref db), .val (.ref pb), .val (.long (po1 + (y1.toInt64))), .second, .unset, .unset]) rfl ?_
        exact Steps.refl _
      have Bpo2_3 (hv0 : pv2 = own_po2_0_3 c1 po1 y1) : Steps p.tables e below (T36.setTop (mkF m 202 #[.val (.int p1), .val (.int p2), .val (.int p3), .val (.int p4), .val (.int p5), .val (.int p6), .val (.int n), .val (.int y0), .val (.int y1), .val (.int y2), .val (.int c0), .val (.int c1), .val (.int c2), .val (.int m0), .val (.int m1), .val (.int m2), .val (.ref sb), .val (.ref db), .val (.ref pb), .val (.long po1), .second, .unset, .unset] [])) (T36.setTop (mkF m 215 #[.val (.int p1), .val (.int p2), .val (.int p3), .val (.int p4), .val (.int p5), .val (.int p6), .val (.int n), .val (.int y0), .val (.int y1), .val (.int y2), .val (.int c0), .val (.int c1), .val (.int c2), .val (.int m0), .val (.int m1), .val (.int m2), .val (.ref sb), .val (.ref db), .val (.ref pb), .val (.long pv2), .second, .unset, .unset] [])) := by
        show Steps p.tables e below (T36.setTop (mkF m 202 #[.val (.int p1), .val (.int p2), .val (.int p3), .val (.int p4), .val (.int p5), .val (.int p6), .val (.int n), .val (.int y0), .val (.int y1), .val (.int y2), .val (.int c0), .val (.int c1), .val (.int c2), .val (.int m0), .val (.int m1), .val (.int m2), .val (.ref sb), .val (.ref db), .val (.ref pb), .val (.long po1), .second, .unset, .unset] [])) _
        refine XS.iload X36.here hx rfl (hb hby at_202) rfl ?_
        show Steps p.tables e below (T36.setTop (mkF m 204 #[.val (.int p1), .val (.int p2), .val (.int p3), .val (.int p4), .val (.int p5), .val (.int p6), .val (.int n), .val (.int y0), .val (.int y1), .val (.int y2), .val (.int c0), .val (.int c1), .val (.int c2), .val (.int m0), .val (.int m1), .val (.int m2), .val (.ref sb), .val (.ref db), .val (.ref pb), .val (.long po1), .second, .unset, .unset] [(.int c1)])) _
        by_cases h204 : c1 = (0 : Int32)
        · refine XS.ifYes X36.here hx rfl (pc0 := 204) (pc' := 215) rfl (hb hby at_204) rfl ((if0 _ _).trans (teq h204).1) (by decide) (by decide) ?_
          exact Bpo2_1 (hv0.trans (if_pos h204))
        · refine XS.ifNo X36.here hx rfl (hb hby at_204) rfl ((if0 _ _).trans (feq h204).1) ?_
          exact Bpo2_2 (hv0.trans (if_neg h204))
      have pre37 : Steps p.tables e below _ (T36.setTop (mkF m 215 #[.val (.int p1), .val (.int p2), .val (.int p3), .val (.int p4), .val (.int p5), .val (.int p6), .val (.int n), .val (.int y0), .val (.int y1), .val (.int y2), .val (.int c0), .val (.int c1), .val (.int c2), .val (.int m0), .val (.int m1), .val (.int m2), .val (.ref sb), .val (.ref db), .val (.ref pb), .val (.long pv2), .second, .unset, .unset] [])) := pre36.trans (Bpo2_3 h_pv2)
      obtain ⟨fdn, FDn⟩ : ∃ fd, Far Z h36 db .int n fd := ⟨_, F36⟩
      refine ⟨T36, _, pv2, fdn, X36, N36, ?_, ?_, ?_, ?_, ?_, pre37⟩
      · rw [eC]; exact SC.congr (fun k hk => by
          show (if k = (1 : Int32).toNatClampNeg then y1 else (fun k : Nat => (if k = 0 then y0 else 0)) k) = (fun k : Nat => (if k = 1 then y1 else (if k = 0 then y0 else 0))) k
          rfl)
      · rw [eC]; exact EC
      · rw [eC]; exact FDn
      · rw [eC]; exact PC.congr (fun k hk => by
          show (if k = (1 : Int32).toNatClampNeg then nar .boolean c1 else (fun k : Nat => (if k = 0 then c0 else 0)) k) = (fun k : Nat => (if k = 1 then c1 else (if k = 0 then c0 else 0))) k
          rw [own_nar bc1]; rfl)
      · rw [eC]; exact Z36
    · have hn : n.toInt ≤ 1 := by rw [own_lt, e11] at h; omega
      have pre38 : Steps p.tables e below _ (U1.setTop (mkF m 215 #[.val (.int p1), .val (.int p2), .val (.int p3), .val (.int p4), .val (.int p5), .val (.int p6), .val (.int n), .val (.int y0), .val (.int y1), .val (.int y2), .val (.int c0), .val (.int c1), .val (.int c2), .val (.int m0), .val (.int m1), .val (.int m2), .val (.ref sb), .val (.ref db), .val (.ref pb), .val (.long po1), .second, .unset, .unset] [])) := pre30.trans (by
        show Steps p.tables e below (U1.setTop (mkF m 181 #[.val (.int p1), .val (.int p2), .val (.int p3), .val (.int p4), .val (.int p5), .val (.int p6), .val (.int n), .val (.int y0), .val (.int y1), .val (.int y2), .val (.int c0), .val (.int c1), .val (.int c2), .val (.int m0), .val (.int m1), .val (.int m2), .val (.ref sb), .val (.ref db), .val (.ref pb), .val (.long po1), .second, .unset, .unset] [(.int (1 : Int32)), (.int n)])) _
        refine XS.icmpYes XU1.here hx rfl (pc0 := 181) (pc' := 215) rfl (hb hby at_181) rfl (flt h).2.2.2 (by decide) (by decide) ?_
        exact Steps.refl _)
      have wn := own_nat n bn.1
      refine ⟨U1, _, _, fd1, XU1, NU1, ?_, ?_, ?_, ?_, ?_, pre38⟩
      · rw [(rfl : U1.heap = U1.heap)]; exact FSu1.congr (fun k hk => by show (fun k : Nat => (if k = 0 then y0 else 0)) k = (if k = 1 then y1 else (fun k : Nat => (if k = 0 then y0 else 0)) k); rw [if_neg (by omega)])
      · rw [(rfl : U1.heap = U1.heap)]; exact ESu1
      · rw [(rfl : U1.heap = U1.heap)]; exact FDu1
      · rw [(rfl : U1.heap = U1.heap)]; exact FPu1.congr (fun k hk => by show (fun k : Nat => (if k = 0 then c0 else 0)) k = (if k = 1 then c1 else (fun k : Nat => (if k = 0 then c0 else 0)) k); rw [if_neg (by omega)])
      · rw [(rfl : U1.heap = U1.heap)]; exact ZU1
  have pre39 : Steps p.tables e below _ (U2.setTop (mkF m 218 #[.val (.int p1), .val (.int p2), .val (.int p3), .val (.int p4), .val (.int p5), .val (.int p6), .val (.int n), .val (.int y0), .val (.int y1), .val (.int y2), .val (.int c0), .val (.int c1), .val (.int c2), .val (.int m0), .val (.int m1), .val (.int m2), .val (.ref sb), .val (.ref db), .val (.ref pb), .val (.long po2), .second, .unset, .unset] [(.int (2 : Int32)), (.int n)])) := preU2.trans (by
    show Steps p.tables e below (U2.setTop (mkF m 215 #[.val (.int p1), .val (.int p2), .val (.int p3), .val (.int p4), .val (.int p5), .val (.int p6), .val (.int n), .val (.int y0), .val (.int y1), .val (.int y2), .val (.int c0), .val (.int c1), .val (.int c2), .val (.int m0), .val (.int m1), .val (.int m2), .val (.ref sb), .val (.ref db), .val (.ref pb), .val (.long po2), .second, .unset, .unset] [])) _
    refine XS.iload XU2.here hx rfl (hb hby at_215) rfl ?_
    show Steps p.tables e below (U2.setTop (mkF m 217 #[.val (.int p1), .val (.int p2), .val (.int p3), .val (.int p4), .val (.int p5), .val (.int p6), .val (.int n), .val (.int y0), .val (.int y1), .val (.int y2), .val (.int c0), .val (.int c1), .val (.int c2), .val (.int m0), .val (.int m1), .val (.int m2), .val (.ref sb), .val (.ref db), .val (.ref pb), .val (.long po2), .second, .unset, .unset] [(.int n)])) _
    refine XS.iconst XU2.here hx rfl (hb hby at_217) ?_
    exact Steps.refl _)
  obtain ⟨U3, lu3, po3, fd3, XU3, NU3, FSu3, ESu3, FDu3, FPu3, ZU3, preU3⟩ : ∃ (T' : State) (l' : List Loc) (po3 : Int64) (fd : Nat → Int32), Stand p l e room_1 s m #[(.int p1), (.int p2), (.int p3), (.int p4), (.int p5), (.int p6)] below meth c T' l' 3 9 ∧ Fr n0 l' ∧ Far Z T'.heap sb .int n (fun k : Nat => (if k = 2 then y2 else (if k = 1 then y1 else (if k = 0 then y0 else 0)))) ∧ Exa Z T'.heap sb "[I" ∧ Far Z T'.heap db .int n fd ∧ Far Z T'.heap pb .boolean n (fun k : Nat => (if k = 2 then c2 else (if k = 1 then c1 else (if k = 0 then c0 else 0)))) ∧ n0 ≤ T'.heap.size ∧ Steps p.tables e below (s₁.setTop (entryFrame m #[(.int p1), (.int p2), (.int p3), (.int p4), (.int p5), (.int p6)] maxLocals)) (T'.setTop (mkF m 252 #[.val (.int p1), .val (.int p2), .val (.int p3), .val (.int p4), .val (.int p5), .val (.int p6), .val (.int n), .val (.int y0), .val (.int y1), .val (.int y2), .val (.int c0), .val (.int c1), .val (.int c2), .val (.int m0), .val (.int m1), .val (.int m2), .val (.ref sb), .val (.ref db), .val (.ref pb), .val (.long po3), .second, .unset, .unset] [])) := by
    rcases Decidable.em ((2 : Int32) < n) with h | h
    · have hi : ¬ (2 : Int32) < 0 ∧ (2 : Int32) < n := ⟨by decide, h⟩
      have pre40 : Steps p.tables e below _ (U2.setTop (mkF m 226 #[.val (.int p1), .val (.int p2), .val (.int p3), .val (.int p4), .val (.int p5), .val (.int p6), .val (.int n), .val (.int y0), .val (.int y1), .val (.int y2), .val (.int c0), .val (.int c1), .val (.int c2), .val (.int m0), .val (.int m1), .val (.int m2), .val (.ref sb), .val (.ref db), .val (.ref pb), .val (.long po2), .second, .unset, .unset] [(.int y2), (.int (2 : Int32)), (.ref sb)])) := pre39.trans (by
        show Steps p.tables e below (U2.setTop (mkF m 218 #[.val (.int p1), .val (.int p2), .val (.int p3), .val (.int p4), .val (.int p5), .val (.int p6), .val (.int n), .val (.int y0), .val (.int y1), .val (.int y2), .val (.int c0), .val (.int c1), .val (.int c2), .val (.int m0), .val (.int m1), .val (.int m2), .val (.ref sb), .val (.ref db), .val (.ref pb), .val (.long po2), .second, .unset, .unset] [(.int (2 : Int32)), (.int n)])) _
        refine XS.icmpNo XU2.here hx rfl (hb hby at_218) rfl (tlt h).2.2.2 ?_
        show Steps p.tables e below (U2.setTop (mkF m 221 #[.val (.int p1), .val (.int p2), .val (.int p3), .val (.int p4), .val (.int p5), .val (.int p6), .val (.int n), .val (.int y0), .val (.int y1), .val (.int y2), .val (.int c0), .val (.int c1), .val (.int c2), .val (.int m0), .val (.int m1), .val (.int m2), .val (.ref sb), .val (.ref db), .val (.ref pb), .val (.long po2), .second, .unset, .unset] [])) _
        refine XS.aload XU2.here hx rfl (hb hby at_221) rfl rfl ?_
        show Steps p.tables e below (U2.setTop (mkF m 223 #[.val (.int p1), .val (.int p2), .val (.int p3), .val (.int p4), .val (.int p5), .val (.int p6), .val (.int n), .val (.int y0), .val (.int y1), .val (.int y2), .val (.int c0), .val (.int c1), .val (.int c2), .val (.int m0), .val (.int m1), .val (.int m2), .val (.ref sb), .val (.ref db), .val (.ref pb), .val (.long po2), .second, .unset, .unset] [(.ref sb)])) _
        refine XS.iconst XU2.here hx rfl (hb hby at_223) ?_
        show Steps p.tables e below (U2.setTop (mkF m 224 #[.val (.int p1), .val (.int p2), .val (.int p3), .val (.int p4), .val (.int p5), .val (.int p6), .val (.int n), .val (.int y0), .val (.int y1), .val (.int y2), .val (.int c0), .val (.int c1), .val (.int c2), .val (.int m0), .val (.int m1), .val (.int m2), .val (.ref sb), .val (.ref db), .val (.ref pb), .val (.long po2), .second, .unset, .unset] [(.int (2 : Int32)), (.ref sb)])) _
        refine XS.iload XU2.here hx rfl (hb hby at_224) rfl ?_
        exact Steps.refl _)
      obtain ⟨cl41, Ar41, S41, M41, H41⟩ := id FSu2
      have hin41 : ¬ ((2 : Int32) < 0 ∨ cl41.slots.size ≤ ((2 : Int32)).toNatClampNeg) := inb_of S41 hi
      obtain ⟨T41, h41, X41, e41, W41, st41⟩ := stI XU2 hx hZ (rfl : U2.heap = U2.heap) Ar41 (j := (2 : Int32)) hin41 (g := (mkF m 226 #[.val (.int p1), .val (.int p2), .val (.int p3), .val (.int p4), .val (.int p5), .val (.int p6), .val (.int n), .val (.int y0), .val (.int y1), .val (.int y2), .val (.int c0), .val (.int c1), .val (.int c2), .val (.int m0), .val (.int m1), .val (.int m2), .val (.ref sb), .val (.ref db), .val (.ref pb), .val (.long po2), .second, .unset, .unset] [(.int y2), (.int (2 : Int32)), (.ref sb)])) rfl rfl (hb hby at_226)
      have F41 := Far.set Ar41 S41 M41 H41 W41
      have N41 := Fr.snoc X41 NU2 g_sb
      have Z41 : n0 ≤ h41.size := Nat.le_trans ZU2 (Keep.of_wr W41).1
      have pre41 : Steps p.tables e below _ (T41.setTop (mkF m 227 #[.val (.int p1), .val (.int p2), .val (.int p3), .val (.int p4), .val (.int p5), .val (.int p6), .val (.int n), .val (.int y0), .val (.int y1), .val (.int y2), .val (.int c0), .val (.int c1), .val (.int c2), .val (.int m0), .val (.int m1), .val (.int m2), .val (.ref sb), .val (.ref db), .val (.ref pb), .val (.long po2), .second, .unset, .unset] [])) := pre40.trans (st41 _ (Steps.refl _))
      have PA := FPu2.other W41 (Ne.symm sp)
      have DA := FDu2.other W41 (Ne.symm sd)
      have EA := ESu2.wr W41
      have pre42 : Steps p.tables e below _ (T41.setTop (mkF m 232 #[.val (.int p1), .val (.int p2), .val (.int p3), .val (.int p4), .val (.int p5), .val (.int p6), .val (.int n), .val (.int y0), .val (.int y1), .val (.int y2), .val (.int c0), .val (.int c1), .val (.int c2), .val (.int m0), .val (.int m1), .val (.int m2), .val (.ref sb), .val (.ref db), .val (.ref pb), .val (.long po2), .second, .unset, .unset] [(.int c2), (.int (2 : Int32)), (.ref pb)])) := pre41.trans (by
        show Steps p.tables e below (T41.setTop (mkF m 227 #[.val (.int p1), .val (.int p2), .val (.int p3), .val (.int p4), .val (.int p5), .val (.int p6), .val (.int n), .val (.int y0), .val (.int y1), .val (.int y2), .val (.int c0), .val (.int c1), .val (.int c2), .val (.int m0), .val (.int m1), .val (.int m2), .val (.ref sb), .val (.ref db), .val (.ref pb), .val (.long po2), .second, .unset, .unset] [])) _
        refine XS.aload X41.here hx rfl (hb hby at_227) rfl rfl ?_
        show Steps p.tables e below (T41.setTop (mkF m 229 #[.val (.int p1), .val (.int p2), .val (.int p3), .val (.int p4), .val (.int p5), .val (.int p6), .val (.int n), .val (.int y0), .val (.int y1), .val (.int y2), .val (.int c0), .val (.int c1), .val (.int c2), .val (.int m0), .val (.int m1), .val (.int m2), .val (.ref sb), .val (.ref db), .val (.ref pb), .val (.long po2), .second, .unset, .unset] [(.ref pb)])) _
        refine XS.iconst X41.here hx rfl (hb hby at_229) ?_
        show Steps p.tables e below (T41.setTop (mkF m 230 #[.val (.int p1), .val (.int p2), .val (.int p3), .val (.int p4), .val (.int p5), .val (.int p6), .val (.int n), .val (.int y0), .val (.int y1), .val (.int y2), .val (.int c0), .val (.int c1), .val (.int c2), .val (.int m0), .val (.int m1), .val (.int m2), .val (.ref sb), .val (.ref db), .val (.ref pb), .val (.long po2), .second, .unset, .unset] [(.int (2 : Int32)), (.ref pb)])) _
        refine XS.iload X41.here hx rfl (hb hby at_230) rfl ?_
        exact Steps.refl _)
      obtain ⟨cl43, Ar43, S43, M43, H43⟩ := id PA
      have hin43 : ¬ ((2 : Int32) < 0 ∨ cl43.slots.size ≤ ((2 : Int32)).toNatClampNeg) := inb_of S43 hi
      obtain ⟨T43, h43, X43, e43, W43, st43⟩ := stZ X41 hx hZ e41 Ar43 (j := (2 : Int32)) hin43 (g := (mkF m 232 #[.val (.int p1), .val (.int p2), .val (.int p3), .val (.int p4), .val (.int p5), .val (.int p6), .val (.int n), .val (.int y0), .val (.int y1), .val (.int y2), .val (.int c0), .val (.int c1), .val (.int c2), .val (.int m0), .val (.int m1), .val (.int m2), .val (.ref sb), .val (.ref db), .val (.ref pb), .val (.long po2), .second, .unset, .unset] [(.int c2), (.int (2 : Int32)), (.ref pb)])) rfl rfl (hb hby at_232)
      have F43 := Far.set Ar43 S43 M43 H43 W43
      have N43 := Fr.snoc X43 N41 g_pb
      have Z43 : n0 ≤ h43.size := Nat.le_trans Z41 (Keep.of_wr W43).1
      have pre43 : Steps p.tables e below _ (T43.setTop (mkF m 233 #[.val (.int p1), .val (.int p2), .val (.int p3), .val (.int p4), .val (.int p5), .val (.int p6), .val (.int n), .val (.int y0), .val (.int y1), .val (.int y2), .val (.int c0), .val (.int c1), .val (.int c2), .val (.int m0), .val (.int m1), .val (.int m2), .val (.ref sb), .val (.ref db), .val (.ref pb), .val (.long po2), .second, .unset, .unset] [])) := pre42.trans (st43 _ (Steps.refl _))
      have SB := F41.other W43 sp
      have DB := DA.other W43 dp
      have EB := EA.wr W43
      have pre44 : Steps p.tables e below _ (T43.setTop (mkF m 238 #[.val (.int p1), .val (.int p2), .val (.int p3), .val (.int p4), .val (.int p5), .val (.int p6), .val (.int n), .val (.int y0), .val (.int y1), .val (.int y2), .val (.int c0), .val (.int c1), .val (.int c2), .val (.int m0), .val (.int m1), .val (.int m2), .val (.ref sb), .val (.ref db), .val (.ref pb), .val (.long po2), .second, .unset, .unset] [(.int m2), (.int (2 : Int32)), (.ref db)])) := pre43.trans (by
        show Steps p.tables e below (T43.setTop (mkF m 233 #[.val (.int p1), .val (.int p2), .val (.int p3), .val (.int p4), .val (.int p5), .val (.int p6), .val (.int n), .val (.int y0), .val (.int y1), .val (.int y2), .val (.int c0), .val (.int c1), .val (.int c2), .val (.int m0), .val (.int m1), .val (.int m2), .val (.ref sb), .val (.ref db), .val (.ref pb), .val (.long po2), .second, .unset, .unset] [])) _
        refine XS.aload X43.here hx rfl (hb hby at_233) rfl rfl ?_
        show Steps p.tables e below (T43.setTop (mkF m 235 #[.val (.int p1), .val (.int p2), .val (.int p3), .val (.int p4), .val (.int p5), .val (.int p6), .val (.int n), .val (.int y0), .val (.int y1), .val (.int y2), .val (.int c0), .val (.int c1), .val (.int c2), .val (.int m0), .val (.int m1), .val (.int m2), .val (.ref sb), .val (.ref db), .val (.ref pb), .val (.long po2), .second, .unset, .unset] [(.ref db)])) _
        refine XS.iconst X43.here hx rfl (hb hby at_235) ?_
        show Steps p.tables e below (T43.setTop (mkF m 236 #[.val (.int p1), .val (.int p2), .val (.int p3), .val (.int p4), .val (.int p5), .val (.int p6), .val (.int n), .val (.int y0), .val (.int y1), .val (.int y2), .val (.int c0), .val (.int c1), .val (.int c2), .val (.int m0), .val (.int m1), .val (.int m2), .val (.ref sb), .val (.ref db), .val (.ref pb), .val (.long po2), .second, .unset, .unset] [(.int (2 : Int32)), (.ref db)])) _
        refine XS.iload X43.here hx rfl (hb hby at_236) rfl ?_
        exact Steps.refl _)
      obtain ⟨cl45, Ar45, S45, M45, H45⟩ := id DB
      have hin45 : ¬ ((2 : Int32) < 0 ∨ cl45.slots.size ≤ ((2 : Int32)).toNatClampNeg) := inb_of S45 hi
      obtain ⟨T45, h45, X45, e45, W45, st45⟩ := stI X43 hx hZ e43 Ar45 (j := (2 : Int32)) hin45 (g := (mkF m 238 #[.val (.int p1), .val (.int p2), .val (.int p3), .val (.int p4), .val (.int p5), .val (.int p6), .val (.int n), .val (.int y0), .val (.int y1), .val (.int y2), .val (.int c0), .val (.int c1), .val (.int c2), .val (.int m0), .val (.int m1), .val (.int m2), .val (.ref sb), .val (.ref db), .val (.ref pb), .val (.long po2), .second, .unset, .unset] [(.int m2), (.int (2 : Int32)), (.ref db)])) rfl rfl (hb hby at_238)
      have F45 := Far.set Ar45 S45 M45 H45 W45
      have N45 := Fr.snoc X45 N43 g_db
      have Z45 : n0 ≤ h45.size := Nat.le_trans Z43 (Keep.of_wr W45).1
      have pre45 : Steps p.tables e below _ (T45.setTop (mkF m 239 #[.val (.int p1), .val (.int p2), .val (.int p3), .val (.int p4), .val (.int p5), .val (.int p6), .val (.int n), .val (.int y0), .val (.int y1), .val (.int y2), .val (.int c0), .val (.int c1), .val (.int c2), .val (.int m0), .val (.int m1), .val (.int m2), .val (.ref sb), .val (.ref db), .val (.ref pb), .val (.long po2), .second, .unset, .unset] [])) := pre44.trans (st45 _ (Steps.refl _))
      have SC := SB.other W45 sd
      have PC := F43.other W45 (Ne.symm dp)
      have EC := EB.wr W45
      have eC := e45
      obtain ⟨pv3, h_pv3⟩ : ∃ z, z = own_po3_0_3 c2 po2 y2 := ⟨_, rfl⟩
      have Bpo3_1 (hv0 : pv3 = own_po3_0_1 c2 po2 y2) : Steps p.tables e below (T45.setTop (mkF m 252 #[.val (.int p1), .val (.int p2), .val (.int p3), .val (.int p4), .val (.int p5), .val (.int p6), .val (.int n), .val (.int y0), .val (.int y1), .val (.int y2), .val (.int c0), .val (.int c1), .val (.int c2), .val (.int m0), .val (.int m1), .val (.int m2), .val (.ref sb), .val (.ref db), .val (.ref pb), .val (.long po2), .second, .unset, .unset] [])) (T45.setTop (mkF m 252 #[.val (.int p1), .val (.int p2), .val (.int p3), .val (.int p4), .val (.int p5), .val (.int p6), .val (.int n), .val (.int y0), .val (.int y1), .val (.int y2), .val (.int c0), .val (.int c1), .val (.int c2), .val (.int m0), .val (.int m1), .val (.int m2), .val (.ref sb), .val (.ref db), .val (.ref pb), .val (.long pv3), .second, .unset, .unset] [])) := by
        have hw0 : pv3 = po2 := hv0
        rw [hw0]
        exact Steps.refl _
      have Bpo3_2 (hv0 : pv3 = own_po3_0_2 c2 po2 y2) : Steps p.tables e below (T45.setTop (mkF m 244 #[.val (.int p1), .val (.int p2), .val (.int p3), .val (.int p4), .val (.int p5), .val (.int p6), .val (.int n), .val (.int y0), .val (.int y1), .val (.int y2), .val (.int c0), .val (.int c1), .val (.int c2), .val (.int m0), .val (.int m1), .val (.int m2), .val (.ref sb), .val (.ref db), .val (.ref pb), .val (.long po2), .second, .unset, .unset] [])) (T45.setTop (mkF m 252 #[.val (.int p1), .val (.int p2), .val (.int p3), .val (.int p4), .val (.int p5), .val (.int p6), .val (.int n), .val (.int y0), .val (.int y1), .val (.int y2), .val (.int c0), .val (.int c1), .val (.int c2), .val (.int m0), .val (.int m1), .val (.int m2), .val (.ref sb), .val (.ref db), .val (.ref pb), .val (.long pv3), .second, .unset, .unset] [])) := by
        have hw0 : pv3 = (po2 + (y2.toInt64)) := hv0
        rw [hw0]
        show Steps p.tables e below (T45.setTop (mkF m 244 #[.val (.int p1), .val (.int p2), .val (.int p3), .val (.int p4), .val (.int p5), .val (.int p6), .val (.int n), .val (.int y0), .val (.int y1), .val (.int y2), .val (.int c0), .val (.int c1), .val (.int c2), .val (.int m0), .val (.int m1), .val (.int m2), .val (.ref sb), .val (.ref db), .val (.ref pb), .val (.long po2), .second, .unset, .unset] [])) _
        refine XS.lload X45.here hx rfl (hb hby at_244) rfl ?_
        show Steps p.tables e below (T45.setTop (mkF m 246 #[.val (.int p1), .val (.int p2), .val (.int p3), .val (.int p4), .val (.int p5), .val (.int p6), .val (.int n), .val (.int y0), .val (.int y1), .val (.int y2), .val (.int c0), .val (.int c1), .val (.int c2), .val (.int m0), .val (.int m1), .val (.int m2), .val (.ref sb), .val (.ref db), .val (.ref pb), .val (.long po2), .second, .unset, .unset] [(.long po2)])) _
        refine XS.iload X45.here hx rfl (hb hby at_246) rfl ?_
        show Steps p.tables e below (T45.setTop (mkF m 248 #[.val (.int p1), .val (.int p2), .val (.int p3), .val (.int p4), .val (.int p5), .val (.int p6), .val (.int n), .val (.int y0), .val (.int y1), .val (.int y2), .val (.int c0), .val (.int c1), .val (.int c2), .val (.int m0), .val (.int m1), .val (.int m2), .val (.ref sb), .val (.ref db), .val (.ref pb), .val (.long po2), .second, .unset, .unset] [(.int y2), (.long po2)])) _
        refine XS.i2l X45.here hx rfl (hb hby at_248) rfl ?_
        show Steps p.tables e below (T45.setTop (mkF m 249 #[.val (.int p1), .val (.int p2), .val (.int p3), .val (.int p4), .val (.int p5), .val (.int p6), .val (.int n), .val (.int y0), .val (.int y1), .val (.int y2), .val (.int c0), .val (.int c1), .val (.int c2), .val (.int m0), .val (.int m1), .val (.int m2), .val (.ref sb), .val (.ref db), .val (.ref pb), .val (.long po2), .second, .unset, .unset] [(.long (y2.toInt64)), (.long po2)])) _
        refine XS.ladd X45.here hx rfl (hb hby at_249) rfl ?_
        show Steps p.tables e below (T45.setTop (mkF m 250 #[.val (.int p1), .val (.int p2), .val (.int p3), .val (.int p4), .val (.int p5), .val (.int p6), .val (.int n), .val (.int y0), .val (.int y1), .val (.int y2), .val (.int c0), .val (.int c1), .val (.int c2), .val (.int m0), .val (.int m1), .val (.int m2), .val (.ref sb), .val (.ref db), .val (.ref pb), .val (.long po2), .second, .unset, .unset] [(.long (po2 + (y2.toInt64)))])) _
        refine XS.lstore X45.here hx rfl (hb hby at_250) rfl (l' := #[.val (.int p1), .val (.int p2), .val (.int p3), .val (.int p4), .val (.int p5), .val (.int p6), .val (.int n), .val (.int y0), .val (.int y1), .val (.int y2), .val (.int c0), .val (.int c1), .val (.int c2), .val (.int m0), .val (.int m1), .val (.int m2), .val (.ref sb), .val (.ref db), .val (.ref pb), .val (.long (po2 + (y2.toInt64))), .second, .unset, .unset]) rfl ?_
        exact Steps.refl _
      have Bpo3_3 (hv0 : pv3 = own_po3_0_3 c2 po2 y2) : Steps p.tables e below (T45.setTop (mkF m 239 #[.val (.int p1), .val (.int p2), .val (.int p3), .val (.int p4), .val (.int p5), .val (.int p6), .val (.int n), .val (.int y0), .val (.int y1), .val (.int y2), .val (.int c0), .val (.int c1), .val (.int c2), .val (.int m0), .val (.int m1), .val (.int m2), .val (.ref sb), .val (.ref db), .val (.ref pb), .val (.long po2), .second, .unset, .unset] [])) (T45.setTop (mkF m 252 #[.val (.int p1), .val (.int p2), .val (.int p3), .val (.int p4), .val (.int p5), .val (.int p6), .val (.int n), .val (.int y0), .val (.int y1), .val (.int y2), .val (.int c0), .val (.int c1), .val (.int c2), .val (.int m0), .val (.int m1), .val (.int m2), .val (.ref sb), .val (.ref db), .val (.ref pb), .val (.long pv3), .second, .unset, .unset] [])) := by
        show Steps p.tables e below (T45.setTop (mkF m 239 #[.val (.int p1), .val (.int p2), .val (.int p3), .val (.int p4), .val (.int p5), .val (.int p6), .val (.int n), .val (.int y0), .val (.int y1), .val (.int y2), .val (.int c0), .val (.int c1), .val (.int c2), .val (.int m0), .val (.int m1), .val (.int m2), .val (.ref sb), .val (.ref db), .val (.ref pb), .val (.long po2), .second, .unset, .unset] [])) _
        refine XS.iload X45.here hx rfl (hb hby at_239) rfl ?_
        show Steps p.tables e below (T45.setTop (mkF m 241 #[.val (.int p1), .val (.int p2), .val (.int p3), .val (.int p4), .val (.int p5), .val (.int p6), .val (.int n), .val (.int y0), .val (.int y1), .val (.int y2), .val (.int c0), .val (.int c1), .val (.int c2), .val (.int m0), .val (.int m1), .val (.int m2), .val (.ref sb), .val (.ref db), .val (.ref pb), .val (.long po2), .second, .unset, .unset] [(.int c2)])) _
        by_cases h241 : c2 = (0 : Int32)
        · refine XS.ifYes X45.here hx rfl (pc0 := 241) (pc' := 252) rfl (hb hby at_241) rfl ((if0 _ _).trans (teq h241).1) (by decide) (by decide) ?_
          exact Bpo3_1 (hv0.trans (if_pos h241))
        · refine XS.ifNo X45.here hx rfl (hb hby at_241) rfl ((if0 _ _).trans (feq h241).1) ?_
          exact Bpo3_2 (hv0.trans (if_neg h241))
      have pre46 : Steps p.tables e below _ (T45.setTop (mkF m 252 #[.val (.int p1), .val (.int p2), .val (.int p3), .val (.int p4), .val (.int p5), .val (.int p6), .val (.int n), .val (.int y0), .val (.int y1), .val (.int y2), .val (.int c0), .val (.int c1), .val (.int c2), .val (.int m0), .val (.int m1), .val (.int m2), .val (.ref sb), .val (.ref db), .val (.ref pb), .val (.long pv3), .second, .unset, .unset] [])) := pre45.trans (Bpo3_3 h_pv3)
      obtain ⟨fdn, FDn⟩ : ∃ fd, Far Z h45 db .int n fd := ⟨_, F45⟩
      refine ⟨T45, _, pv3, fdn, X45, N45, ?_, ?_, ?_, ?_, ?_, pre46⟩
      · rw [eC]; exact SC.congr (fun k hk => by
          show (if k = (2 : Int32).toNatClampNeg then y2 else (fun k : Nat => (if k = 1 then y1 else (if k = 0 then y0 else 0))) k) = (fun k : Nat => (if k = 2 then y2 else (if k = 1 then y1 else (if k = 0 then y0 else 0)))) k
          rfl)
      · rw [eC]; exact EC
      · rw [eC]; exact FDn
      · rw [eC]; exact PC.congr (fun k hk => by
          show (if k = (2 : Int32).toNatClampNeg then nar .boolean c2 else (fun k : Nat => (if k = 1 then c1 else (if k = 0 then c0 else 0))) k) = (fun k : Nat => (if k = 2 then c2 else (if k = 1 then c1 else (if k = 0 then c0 else 0)))) k
          rw [own_nar bc2]; rfl)
      · rw [eC]; exact Z45
    · have hn : n.toInt ≤ 2 := by rw [own_lt, e22] at h; omega
      have pre47 : Steps p.tables e below _ (U2.setTop (mkF m 252 #[.val (.int p1), .val (.int p2), .val (.int p3), .val (.int p4), .val (.int p5), .val (.int p6), .val (.int n), .val (.int y0), .val (.int y1), .val (.int y2), .val (.int c0), .val (.int c1), .val (.int c2), .val (.int m0), .val (.int m1), .val (.int m2), .val (.ref sb), .val (.ref db), .val (.ref pb), .val (.long po2), .second, .unset, .unset] [])) := pre39.trans (by
        show Steps p.tables e below (U2.setTop (mkF m 218 #[.val (.int p1), .val (.int p2), .val (.int p3), .val (.int p4), .val (.int p5), .val (.int p6), .val (.int n), .val (.int y0), .val (.int y1), .val (.int y2), .val (.int c0), .val (.int c1), .val (.int c2), .val (.int m0), .val (.int m1), .val (.int m2), .val (.ref sb), .val (.ref db), .val (.ref pb), .val (.long po2), .second, .unset, .unset] [(.int (2 : Int32)), (.int n)])) _
        refine XS.icmpYes XU2.here hx rfl (pc0 := 218) (pc' := 252) rfl (hb hby at_218) rfl (flt h).2.2.2 (by decide) (by decide) ?_
        exact Steps.refl _)
      have wn := own_nat n bn.1
      refine ⟨U2, _, _, fd2, XU2, NU2, ?_, ?_, ?_, ?_, ?_, pre47⟩
      · rw [(rfl : U2.heap = U2.heap)]; exact FSu2.congr (fun k hk => by show (fun k : Nat => (if k = 1 then y1 else (if k = 0 then y0 else 0))) k = (if k = 2 then y2 else (fun k : Nat => (if k = 1 then y1 else (if k = 0 then y0 else 0))) k); rw [if_neg (by omega)])
      · rw [(rfl : U2.heap = U2.heap)]; exact ESu2
      · rw [(rfl : U2.heap = U2.heap)]; exact FDu2
      · rw [(rfl : U2.heap = U2.heap)]; exact FPu2.congr (fun k hk => by show (fun k : Nat => (if k = 1 then c1 else (if k = 0 then c0 else 0))) k = (if k = 2 then c2 else (fun k : Nat => (if k = 1 then c1 else (if k = 0 then c0 else 0))) k); rw [if_neg (by omega)])
      · rw [(rfl : U2.heap = U2.heap)]; exact ZU2
  obtain ⟨T501, h501, X501, e501, E501, A501, D501, -, st501⟩ := newO XU3 hx hZ hown (hw _ (List.mem_of_getElem? (i := 3) rfl)) (hw _ (List.mem_of_getElem? (i := 4) rfl)) (hw _ (List.mem_of_getElem? (i := 5) rfl)) (rfl : U3.heap = U3.heap) (g := (mkF m 252 #[.val (.int p1), .val (.int p2), .val (.int p3), .val (.int p4), .val (.int p5), .val (.int p6), .val (.int n), .val (.int y0), .val (.int y1), .val (.int y2), .val (.int c0), .val (.int c1), .val (.int c2), .val (.int m0), .val (.int m1), .val (.int m2), .val (.ref sb), .val (.ref db), .val (.ref pb), .val (.long po3), .second, .unset, .unset] [])) rfl (hb hby at_252) (by decide) (by decide)
  obtain ⟨q, g501⟩ : ∃ z, z = U3.heap.size := ⟨_, rfl⟩
  rw [← g501] at A501 D501 st501
  have g_q : n0 ≤ q := Nat.le_trans ZU3 (Nat.le_of_eq g501.symm)
  have Z501 : n0 ≤ h501.size := Nat.le_trans ZU3 E501.1
  have pre501 : Steps p.tables e below _ (T501.setTop (mkF m 255 #[.val (.int p1), .val (.int p2), .val (.int p3), .val (.int p4), .val (.int p5), .val (.int p6), .val (.int n), .val (.int y0), .val (.int y1), .val (.int y2), .val (.int c0), .val (.int c1), .val (.int c2), .val (.int m0), .val (.int m1), .val (.int m2), .val (.ref sb), .val (.ref db), .val (.ref pb), .val (.long po3), .second, .unset, .unset] [(.ref q)])) := preU3.trans (st501 _ (Steps.refl _))
  have F_fairShares_q : Fld Z h501 q "com/example/quillfire/quillfire/AllocationPolicy" "fairShares" "[I" .null := D501 (Or.inl (hw _ (List.mem_of_getElem? (i := 33) rfl))) (ty := (.array .int)) (by decide)
  have F_pool_q : Fld Z h501 q "com/example/quillfire/quillfire/AllocationPolicy" "pool" "J" (.long (0 : Int64)) := D501 (Or.inl (hw _ (List.mem_of_getElem? (i := 35) rfl))) (ty := .long) (by decide)
  have F_started_q : Fld Z h501 q "com/example/quillfire/quillfire/AllocationPolicy" "started" "Z" (.int (0 : Int32)) := D501 (Or.inl (hw _ (List.mem_of_getElem? (i := 37) rfl))) (ty := .boolean) (by decide)
  have FSn := FSu3.ext E501
  have ESn := ESu3.ext E501
  have FPn := FPu3.ext E501
  have nqp : pb ∉ [q] := own_nin (Nat.ne_of_lt (Nat.lt_of_lt_of_le FPu3.lt (Nat.le_of_eq g501.symm)))
  have hsh : ∀ k : Nat, k < n.toNatClampNeg → ¬ (fun k : Nat => (if k = 2 then y2 else (if k = 1 then y1 else (if k = 0 then y0 else 0)))) k < (0 : Int32) := fun k hk => by
    have wn := own_nat n bn.1
    have k3 : k = 0 ∨ k = 1 ∨ k = 2 := by omega
    rcases k3 with rfl | rfl | rfl
    · exact ba0
    · exact ba1
    · exact ba2
  have pre502 : Steps p.tables e below _ (T501.setTop (mkF m 258 #[.val (.int p1), .val (.int p2), .val (.int p3), .val (.int p4), .val (.int p5), .val (.int p6), .val (.int n), .val (.int y0), .val (.int y1), .val (.int y2), .val (.int c0), .val (.int c1), .val (.int c2), .val (.int m0), .val (.int m1), .val (.int m2), .val (.ref sb), .val (.ref db), .val (.ref pb), .val (.long po3), .second, .unset, .unset] [(.ref sb), (.ref q), (.ref q)])) := pre501.trans (by
    show Steps p.tables e below (T501.setTop (mkF m 255 #[.val (.int p1), .val (.int p2), .val (.int p3), .val (.int p4), .val (.int p5), .val (.int p6), .val (.int n), .val (.int y0), .val (.int y1), .val (.int y2), .val (.int c0), .val (.int c1), .val (.int c2), .val (.int m0), .val (.int m1), .val (.int m2), .val (.ref sb), .val (.ref db), .val (.ref pb), .val (.long po3), .second, .unset, .unset] [(.ref q)])) _
    refine XS.dup X501.here hx rfl (hb hby at_255) rfl rfl ?_
    show Steps p.tables e below (T501.setTop (mkF m 256 #[.val (.int p1), .val (.int p2), .val (.int p3), .val (.int p4), .val (.int p5), .val (.int p6), .val (.int n), .val (.int y0), .val (.int y1), .val (.int y2), .val (.int c0), .val (.int c1), .val (.int c2), .val (.int m0), .val (.int m1), .val (.int m2), .val (.ref sb), .val (.ref db), .val (.ref pb), .val (.long po3), .second, .unset, .unset] [(.ref q), (.ref q)])) _
    refine XS.aload X501.here hx rfl (hb hby at_256) rfl rfl ?_
    exact Steps.refl _)
  obtain ⟨_, _, ⟨T503, L503, k503, n503⟩, -, X503, ⟨Lc503, hQ503, l503, y503, z503⟩, st503⟩ := X501.specialBack hx (y := (⟨"com/example/quillfire/quillfire/StaticPolicy", "<init>", "([I)V"⟩ : MethodName)) rfl hown (mvT hZ (hw _ (List.mem_of_getElem? (i := 6) rfl))) (mvT hZ (hw _ (List.mem_of_getElem? (i := 7) rfl))) (mvT hZ (hw _ (List.mem_of_getElem? (i := 8) rfl))) (by decide) (backOf (W := 1) (rmI0 l Z a0 hw [] q sb n (fun k : Nat => (if k = 2 then y2 else (if k = 1 then y1 else (if k = 0 then y0 else 0)))) h501 n0 Z501 A501 F_fairShares_q F_pool_q F_started_q FSn ESn bn.2 hsh g_q) hZ (hw _ (List.mem_of_getElem? (i := 8) rfl)) (hw _ (List.mem_of_getElem? (i := 5) rfl)) (by decide) (by decide)) (g := (mkF m 258 #[.val (.int p1), .val (.int p2), .val (.int p3), .val (.int p4), .val (.int p5), .val (.int p6), .val (.int n), .val (.int y0), .val (.int y1), .val (.int y2), .val (.int c0), .val (.int c1), .val (.int c2), .val (.int m0), .val (.int m1), .val (.int m2), .val (.ref sb), .val (.ref db), .val (.ref pb), .val (.long po3), .second, .unset, .unset] [(.ref sb), (.ref q), (.ref q)])) rfl (by rw [hml]; rfl) (Steps.refl _) (a := q) (argsL := [(.ref sb)]) (rest := [(.ref q)]) (lenOf pd_rm0_0 rfl) rfl (by show 2 * 0 + _ ≤ _; exact Nat.le_of_eq rfl) (hb hby at_258) (fun _ _ => ⟨rfl, e501, (by decide : 4 + 1 ≤ _), (by decide : 12 + 3 ≤ _)⟩)
  dsimp only [Pt.U, Pt.locs, Pt.cells, Pt.slots] at X503 l503 y503 z503 st503 hQ503
  subst l503 y503 z503
  obtain ⟨rfl, N503q, K503, Fq503, FA503⟩ := hQ503
  have N503 := Fr.app NU3 N503q
  have pre503 : Steps p.tables e below _ (T503.setTop (mkF m 261 #[.val (.int p1), .val (.int p2), .val (.int p3), .val (.int p4), .val (.int p5), .val (.int p6), .val (.int n), .val (.int y0), .val (.int y1), .val (.int y2), .val (.int c0), .val (.int c1), .val (.int c2), .val (.int m0), .val (.int m1), .val (.int m2), .val (.ref sb), .val (.ref db), .val (.ref pb), .val (.long po3), .second, .unset, .unset] [(.ref q)])) := pre502.trans (st503)
  have EQ := A501.keep K503
  have FPq := FPn.keep K503 nqp
  have Zq : n0 ≤ T503.heap.size := Nat.le_trans Z501 K503.1
  have pre504 : Steps p.tables e below _ (T503.setTop (mkF m 271 #[.val (.int p1), .val (.int p2), .val (.int p3), .val (.int p4), .val (.int p5), .val (.int p6), .val (.int n), .val (.int y0), .val (.int y1), .val (.int y2), .val (.int c0), .val (.int c1), .val (.int c2), .val (.int m0), .val (.int m1), .val (.int m2), .val (.ref sb), .val (.ref db), .val (.ref pb), .val (.long po3), .second, .val (.ref q), .unset] [(.long po3), (.ref pb), (.ref db), (.ref q)])) := pre503.trans (by
    show Steps p.tables e below (T503.setTop (mkF m 261 #[.val (.int p1), .val (.int p2), .val (.int p3), .val (.int p4), .val (.int p5), .val (.int p6), .val (.int n), .val (.int y0), .val (.int y1), .val (.int y2), .val (.int c0), .val (.int c1), .val (.int c2), .val (.int m0), .val (.int m1), .val (.int m2), .val (.ref sb), .val (.ref db), .val (.ref pb), .val (.long po3), .second, .unset, .unset] [(.ref q)])) _
    refine XS.astore X503.here hx rfl (hb hby at_261) rfl rfl (l' := #[.val (.int p1), .val (.int p2), .val (.int p3), .val (.int p4), .val (.int p5), .val (.int p6), .val (.int n), .val (.int y0), .val (.int y1), .val (.int y2), .val (.int c0), .val (.int c1), .val (.int c2), .val (.int m0), .val (.int m1), .val (.int m2), .val (.ref sb), .val (.ref db), .val (.ref pb), .val (.long po3), .second, .val (.ref q), .unset]) rfl ?_
    show Steps p.tables e below (T503.setTop (mkF m 263 #[.val (.int p1), .val (.int p2), .val (.int p3), .val (.int p4), .val (.int p5), .val (.int p6), .val (.int n), .val (.int y0), .val (.int y1), .val (.int y2), .val (.int c0), .val (.int c1), .val (.int c2), .val (.int m0), .val (.int m1), .val (.int m2), .val (.ref sb), .val (.ref db), .val (.ref pb), .val (.long po3), .second, .val (.ref q), .unset] [])) _
    refine XS.aload X503.here hx rfl (hb hby at_263) rfl rfl ?_
    show Steps p.tables e below (T503.setTop (mkF m 265 #[.val (.int p1), .val (.int p2), .val (.int p3), .val (.int p4), .val (.int p5), .val (.int p6), .val (.int n), .val (.int y0), .val (.int y1), .val (.int y2), .val (.int c0), .val (.int c1), .val (.int c2), .val (.int m0), .val (.int m1), .val (.int m2), .val (.ref sb), .val (.ref db), .val (.ref pb), .val (.long po3), .second, .val (.ref q), .unset] [(.ref q)])) _
    refine XS.aload X503.here hx rfl (hb hby at_265) rfl rfl ?_
    show Steps p.tables e below (T503.setTop (mkF m 267 #[.val (.int p1), .val (.int p2), .val (.int p3), .val (.int p4), .val (.int p5), .val (.int p6), .val (.int n), .val (.int y0), .val (.int y1), .val (.int y2), .val (.int c0), .val (.int c1), .val (.int c2), .val (.int m0), .val (.int m1), .val (.int m2), .val (.ref sb), .val (.ref db), .val (.ref pb), .val (.long po3), .second, .val (.ref q), .unset] [(.ref db), (.ref q)])) _
    refine XS.aload X503.here hx rfl (hb hby at_267) rfl rfl ?_
    show Steps p.tables e below (T503.setTop (mkF m 269 #[.val (.int p1), .val (.int p2), .val (.int p3), .val (.int p4), .val (.int p5), .val (.int p6), .val (.int n), .val (.int y0), .val (.int y1), .val (.int y2), .val (.int c0), .val (.int c1), .val (.int c2), .val (.int m0), .val (.int m1), .val (.int m2), .val (.ref sb), .val (.ref db), .val (.ref pb), .val (.long po3), .second, .val (.ref q), .unset] [(.ref pb), (.ref db), (.ref q)])) _
    refine XS.lload X503.here hx rfl (hb hby at_269) rfl ?_
    exact Steps.refl _)
  obtain ⟨cq505, kq505, q505a, q505b, q505c⟩ := isOf hZ (rfl : T503.heap = T503.heap) EQ
  obtain ⟨_, _, ⟨T505, L505, k505, n505⟩, -, X505, ⟨Lc505, hQ505, l505, y505, z505⟩, st505⟩ := X503.virtualBack hx (y := (⟨"com/example/quillfire/quillfire/StaticPolicy", "divide", "([I[ZJ)[I"⟩ : MethodName)) (z := (⟨"com/example/quillfire/quillfire/StaticPolicy", "divide", "([I[ZJ)[I"⟩ : MethodName)) hown (mvT hZ (hw _ (List.mem_of_getElem? (i := 38) rfl))) (mvT hZ (hw _ (List.mem_of_getElem? (i := 39) rfl))) (notFace_of_selects (args := #[]) (mvT hZ (hw _ (List.mem_of_getElem? (i := 41) rfl)))) (mvT hZ (hw _ (List.mem_of_getElem? (i := 41) rfl))) (mvT hZ (hw _ (List.mem_of_getElem? (i := 40) rfl))) (by decide) (backOf (W := 0) (rmD l Z a0 hw [] q db pb po3 h501.size n (fun k : Nat => (if k = 2 then y2 else (if k = 1 then y1 else (if k = 0 then y0 else 0)))) (fun k : Nat => (if k = 2 then c2 else (if k = 1 then c1 else (if k = 0 then c0 else 0)))) T503.heap n0 Zq EQ Fq503 FA503 FPq bn.2) hZ (hw _ (List.mem_of_getElem? (i := 42) rfl)) (hw _ (List.mem_of_getElem? (i := 5) rfl)) (by decide) (by decide)) q505a q505c (g := (mkF m 271 #[.val (.int p1), .val (.int p2), .val (.int p3), .val (.int p4), .val (.int p5), .val (.int p6), .val (.int n), .val (.int y0), .val (.int y1), .val (.int y2), .val (.int c0), .val (.int c1), .val (.int c2), .val (.int m0), .val (.int m1), .val (.int m2), .val (.ref sb), .val (.ref db), .val (.ref pb), .val (.long po3), .second, .val (.ref q), .unset] [(.long po3), (.ref pb), (.ref db), (.ref q)])) rfl (by rw [hml]; rfl) (Steps.refl _) (argsL := [(.ref db), (.ref pb), (.long po3)]) (rest := []) (lenOf pd_rm0_1 rfl) rfl (by show 2 * 0 + _ ≤ _; exact Nat.le_of_eq rfl) (hb hby at_271) (fun _ _ => ⟨rfl, (rfl : T503.heap = T503.heap), (by decide : 5 + 1 ≤ _), (by decide : 15 + 3 ≤ _)⟩)
  dsimp only [Pt.U, Pt.locs, Pt.cells, Pt.slots] at X505 l505 y505 z505 st505 hQ505
  subst l505 y505 z505
  obtain ⟨rfl, N505q, FR505, Z505x⟩ := hQ505
  have N505 := Fr.app N503 N505q
  have pre505 : Steps p.tables e below _ (T505.setTop (mkF m 274 #[.val (.int p1), .val (.int p2), .val (.int p3), .val (.int p4), .val (.int p5), .val (.int p6), .val (.int n), .val (.int y0), .val (.int y1), .val (.int y2), .val (.int c0), .val (.int c1), .val (.int c2), .val (.int m0), .val (.int m1), .val (.int m2), .val (.ref sb), .val (.ref db), .val (.ref pb), .val (.long po3), .second, .val (.ref q), .unset] [(.ref T503.heap.size)])) := pre504.trans (st505)
  obtain ⟨cr, Arr_, Sr, Mr, Hr⟩ := id FR505
  have pre506 : Steps p.tables e below _ (T505.setTop (mkF m 291 #[.val (.int p1), .val (.int p2), .val (.int p3), .val (.int p4), .val (.int p5), .val (.int p6), .val (.int n), .val (.int y0), .val (.int y1), .val (.int y2), .val (.int c0), .val (.int c1), .val (.int c2), .val (.int m0), .val (.int m1), .val (.int m2), .val (.ref sb), .val (.ref db), .val (.ref pb), .val (.long po3), .second, .val (.ref q), .val (.ref T503.heap.size)] [])) := pre505.trans (by
    show Steps p.tables e below (T505.setTop (mkF m 274 #[.val (.int p1), .val (.int p2), .val (.int p3), .val (.int p4), .val (.int p5), .val (.int p6), .val (.int n), .val (.int y0), .val (.int y1), .val (.int y2), .val (.int c0), .val (.int c1), .val (.int c2), .val (.int m0), .val (.int m1), .val (.int m2), .val (.ref sb), .val (.ref db), .val (.ref pb), .val (.long po3), .second, .val (.ref q), .unset] [(.ref T503.heap.size)])) _
    refine XS.astore X505.here hx rfl (hb hby at_274) rfl rfl (l' := #[.val (.int p1), .val (.int p2), .val (.int p3), .val (.int p4), .val (.int p5), .val (.int p6), .val (.int n), .val (.int y0), .val (.int y1), .val (.int y2), .val (.int c0), .val (.int c1), .val (.int c2), .val (.int m0), .val (.int m1), .val (.int m2), .val (.ref sb), .val (.ref db), .val (.ref pb), .val (.long po3), .second, .val (.ref q), .val (.ref T503.heap.size)]) rfl ?_
    show Steps p.tables e below (T505.setTop (mkF m 276 #[.val (.int p1), .val (.int p2), .val (.int p3), .val (.int p4), .val (.int p5), .val (.int p6), .val (.int n), .val (.int y0), .val (.int y1), .val (.int y2), .val (.int c0), .val (.int c1), .val (.int c2), .val (.int m0), .val (.int m1), .val (.int m2), .val (.ref sb), .val (.ref db), .val (.ref pb), .val (.long po3), .second, .val (.ref q), .val (.ref T503.heap.size)] [])) _
    refine XS.aload X505.here hx rfl (hb hby at_276) rfl rfl ?_
    show Steps p.tables e below (T505.setTop (mkF m 278 #[.val (.int p1), .val (.int p2), .val (.int p3), .val (.int p4), .val (.int p5), .val (.int p6), .val (.int n), .val (.int y0), .val (.int y1), .val (.int y2), .val (.int c0), .val (.int c1), .val (.int c2), .val (.int m0), .val (.int m1), .val (.int m2), .val (.ref sb), .val (.ref db), .val (.ref pb), .val (.long po3), .second, .val (.ref q), .val (.ref T503.heap.size)] [(.ref T503.heap.size)])) _
    refine XS.ifnullNo X505.here hx rfl (hb hby at_278) rfl ?_
    show Steps p.tables e below (T505.setTop (mkF m 281 #[.val (.int p1), .val (.int p2), .val (.int p3), .val (.int p4), .val (.int p5), .val (.int p6), .val (.int n), .val (.int y0), .val (.int y1), .val (.int y2), .val (.int c0), .val (.int c1), .val (.int c2), .val (.int m0), .val (.int m1), .val (.int m2), .val (.ref sb), .val (.ref db), .val (.ref pb), .val (.long po3), .second, .val (.ref q), .val (.ref T503.heap.size)] [])) _
    refine XS.aload X505.here hx rfl (hb hby at_281) rfl rfl ?_
    show Steps p.tables e below (T505.setTop (mkF m 283 #[.val (.int p1), .val (.int p2), .val (.int p3), .val (.int p4), .val (.int p5), .val (.int p6), .val (.int n), .val (.int y0), .val (.int y1), .val (.int y2), .val (.int c0), .val (.int c1), .val (.int c2), .val (.int m0), .val (.int m1), .val (.int m2), .val (.ref sb), .val (.ref db), .val (.ref pb), .val (.long po3), .second, .val (.ref q), .val (.ref T503.heap.size)] [(.ref T503.heap.size)])) _
    refine X505.arraylength hx (by rw [(rfl : T505.heap = T505.heap)]; exact Arr_.1) (State.isArrayOf_alike hZ.alike Arr_.2.1) (g := (mkF m 283 #[.val (.int p1), .val (.int p2), .val (.int p3), .val (.int p4), .val (.int p5), .val (.int p6), .val (.int n), .val (.int y0), .val (.int y1), .val (.int y2), .val (.int c0), .val (.int c1), .val (.int c2), .val (.int m0), .val (.int m1), .val (.int m2), .val (.ref sb), .val (.ref db), .val (.ref pb), .val (.long po3), .second, .val (.ref q), .val (.ref T503.heap.size)] [(.ref T503.heap.size)])) rfl rfl (hb hby at_283) _ ?_
    rw [len_of Sr Mr]
    show Steps p.tables e below (T505.setTop (mkF m 284 #[.val (.int p1), .val (.int p2), .val (.int p3), .val (.int p4), .val (.int p5), .val (.int p6), .val (.int n), .val (.int y0), .val (.int y1), .val (.int y2), .val (.int c0), .val (.int c1), .val (.int c2), .val (.int m0), .val (.int m1), .val (.int m2), .val (.ref sb), .val (.ref db), .val (.ref pb), .val (.long po3), .second, .val (.ref q), .val (.ref T503.heap.size)] [(.int n)])) _
    refine XS.iload X505.here hx rfl (hb hby at_284) rfl ?_
    show Steps p.tables e below (T505.setTop (mkF m 286 #[.val (.int p1), .val (.int p2), .val (.int p3), .val (.int p4), .val (.int p5), .val (.int p6), .val (.int n), .val (.int y0), .val (.int y1), .val (.int y2), .val (.int c0), .val (.int c1), .val (.int c2), .val (.int m0), .val (.int m1), .val (.int m2), .val (.ref sb), .val (.ref db), .val (.ref pb), .val (.long po3), .second, .val (.ref q), .val (.ref T503.heap.size)] [(.int n), (.int n)])) _
    refine XS.icmpYes X505.here hx rfl (pc0 := 286) (pc' := 291) rfl (hb hby at_286) rfl (teq (rfl : n = n)).1 (by decide) (by decide) ?_
    exact Steps.refl _)
  have pre507 : Steps p.tables e below _ (T505.setTop (mkF m 300 #[.val (.int p1), .val (.int p2), .val (.int p3), .val (.int p4), .val (.int p5), .val (.int p6), .val (.int n), .val (.int y0), .val (.int y1), .val (.int y2), .val (.int c0), .val (.int c1), .val (.int c2), .val (.int m0), .val (.int m1), .val (.int m2), .val (.ref sb), .val (.ref db), .val (.ref pb), .val (.long po3), .second, .val (.ref q), .val (.ref T503.heap.size)] [(.int y0), (.int c0), (.int n), (.int (0 : Int32)), (.ref T503.heap.size)])) := pre506.trans (by
    show Steps p.tables e below (T505.setTop (mkF m 291 #[.val (.int p1), .val (.int p2), .val (.int p3), .val (.int p4), .val (.int p5), .val (.int p6), .val (.int n), .val (.int y0), .val (.int y1), .val (.int y2), .val (.int c0), .val (.int c1), .val (.int c2), .val (.int m0), .val (.int m1), .val (.int m2), .val (.ref sb), .val (.ref db), .val (.ref pb), .val (.long po3), .second, .val (.ref q), .val (.ref T503.heap.size)] [])) _
    refine XS.aload X505.here hx rfl (hb hby at_291) rfl rfl ?_
    show Steps p.tables e below (T505.setTop (mkF m 293 #[.val (.int p1), .val (.int p2), .val (.int p3), .val (.int p4), .val (.int p5), .val (.int p6), .val (.int n), .val (.int y0), .val (.int y1), .val (.int y2), .val (.int c0), .val (.int c1), .val (.int c2), .val (.int m0), .val (.int m1), .val (.int m2), .val (.ref sb), .val (.ref db), .val (.ref pb), .val (.long po3), .second, .val (.ref q), .val (.ref T503.heap.size)] [(.ref T503.heap.size)])) _
    refine XS.iconst X505.here hx rfl (hb hby at_293) ?_
    show Steps p.tables e below (T505.setTop (mkF m 294 #[.val (.int p1), .val (.int p2), .val (.int p3), .val (.int p4), .val (.int p5), .val (.int p6), .val (.int n), .val (.int y0), .val (.int y1), .val (.int y2), .val (.int c0), .val (.int c1), .val (.int c2), .val (.int m0), .val (.int m1), .val (.int m2), .val (.ref sb), .val (.ref db), .val (.ref pb), .val (.long po3), .second, .val (.ref q), .val (.ref T503.heap.size)] [(.int (0 : Int32)), (.ref T503.heap.size)])) _
    refine XS.iload X505.here hx rfl (hb hby at_294) rfl ?_
    show Steps p.tables e below (T505.setTop (mkF m 296 #[.val (.int p1), .val (.int p2), .val (.int p3), .val (.int p4), .val (.int p5), .val (.int p6), .val (.int n), .val (.int y0), .val (.int y1), .val (.int y2), .val (.int c0), .val (.int c1), .val (.int c2), .val (.int m0), .val (.int m1), .val (.int m2), .val (.ref sb), .val (.ref db), .val (.ref pb), .val (.long po3), .second, .val (.ref q), .val (.ref T503.heap.size)] [(.int n), (.int (0 : Int32)), (.ref T503.heap.size)])) _
    refine XS.iload X505.here hx rfl (hb hby at_296) rfl ?_
    show Steps p.tables e below (T505.setTop (mkF m 298 #[.val (.int p1), .val (.int p2), .val (.int p3), .val (.int p4), .val (.int p5), .val (.int p6), .val (.int n), .val (.int y0), .val (.int y1), .val (.int y2), .val (.int c0), .val (.int c1), .val (.int c2), .val (.int m0), .val (.int m1), .val (.int m2), .val (.ref sb), .val (.ref db), .val (.ref pb), .val (.long po3), .second, .val (.ref q), .val (.ref T503.heap.size)] [(.int c0), (.int n), (.int (0 : Int32)), (.ref T503.heap.size)])) _
    refine XS.iload X505.here hx rfl (hb hby at_298) rfl ?_
    exact Steps.refl _)
  obtain ⟨_, _, ⟨T508, L508, k508, n508⟩, -, X508, ⟨Lc508, hQ508, l508, y508, z508⟩, st508⟩ := Jvm.LawKit.callS X505 hx (y := (⟨"com/example/quillfire/quillfire/StaticPolicyDividePinLaw", "at", "([IIIZI)Z"⟩ : MethodName)) hown (mvT hZ (hw _ (List.mem_of_getElem? (i := 49) rfl))) (mvT hZ (hw _ (List.mem_of_getElem? (i := 50) rfl))) (mvT hZ (hw _ (List.mem_of_getElem? (i := 51) rfl))) (mvT hZ (hw _ (List.mem_of_getElem? (i := 52) rfl))) (by decide) (backOf (W := 0) (rmA l Z a0 hw [] T503.heap.size (0 : Int32) n c0 y0 (fun k => if (fun k : Nat => (if k = 2 then c2 else (if k = 1 then c1 else (if k = 0 then c0 else 0)))) k = (0 : Int32) then (0 : Int32) else (fun k : Nat => (if k = 2 then y2 else (if k = 1 then y1 else (if k = 0 then y0 else 0)))) k) T505.heap n0 Z505x FR505 (by decide) (fun _ => rfl)) hZ (hw _ (List.mem_of_getElem? (i := 52) rfl)) (hw _ (List.mem_of_getElem? (i := 51) rfl)) (by decide) (by decide)) (g := (mkF m 300 #[.val (.int p1), .val (.int p2), .val (.int p3), .val (.int p4), .val (.int p5), .val (.int p6), .val (.int n), .val (.int y0), .val (.int y1), .val (.int y2), .val (.int c0), .val (.int c1), .val (.int c2), .val (.int m0), .val (.int m1), .val (.int m2), .val (.ref sb), .val (.ref db), .val (.ref pb), .val (.long po3), .second, .val (.ref q), .val (.ref T503.heap.size)] [(.int y0), (.int c0), (.int n), (.int (0 : Int32)), (.ref T503.heap.size)])) rfl (by rw [hml]; rfl) (argsL := [(.ref T503.heap.size), (.int (0 : Int32)), (.int n), (.int c0), (.int y0)]) (rest := []) (lenOf pd_rm0_2 rfl) rfl (by show 2 * 0 + _ ≤ _; exact Nat.le_of_eq rfl) (hb hby at_300) (fun _ _ => ⟨rfl, (rfl : T505.heap = T505.heap), (by decide : 6 + 0 ≤ _), (by decide : 18 + 0 ≤ _)⟩)
  dsimp only [Pt.U, Pt.locs, Pt.cells, Pt.slots] at X508 l508 y508 z508 st508 hQ508
  subst l508 y508 z508
  obtain ⟨rfl, N508q, hh508⟩ := hQ508
  have N508 := Fr.app N505 N508q
  have pre508 : Steps p.tables e below _ (T508.setTop (mkF m 303 #[.val (.int p1), .val (.int p2), .val (.int p3), .val (.int p4), .val (.int p5), .val (.int p6), .val (.int n), .val (.int y0), .val (.int y1), .val (.int y2), .val (.int c0), .val (.int c1), .val (.int c2), .val (.int m0), .val (.int m1), .val (.int m2), .val (.ref sb), .val (.ref db), .val (.ref pb), .val (.long po3), .second, .val (.ref q), .val (.ref T503.heap.size)] [(.int (1 : Int32))])) := pre507.trans (st508 _ (Steps.refl _))
  have pre509 : Steps p.tables e below _ (T508.setTop (mkF m 315 #[.val (.int p1), .val (.int p2), .val (.int p3), .val (.int p4), .val (.int p5), .val (.int p6), .val (.int n), .val (.int y0), .val (.int y1), .val (.int y2), .val (.int c0), .val (.int c1), .val (.int c2), .val (.int m0), .val (.int m1), .val (.int m2), .val (.ref sb), .val (.ref db), .val (.ref pb), .val (.long po3), .second, .val (.ref q), .val (.ref T503.heap.size)] [(.int y1), (.int c1), (.int n), (.int (1 : Int32)), (.ref T503.heap.size)])) := pre508.trans (by
    show Steps p.tables e below (T508.setTop (mkF m 303 #[.val (.int p1), .val (.int p2), .val (.int p3), .val (.int p4), .val (.int p5), .val (.int p6), .val (.int n), .val (.int y0), .val (.int y1), .val (.int y2), .val (.int c0), .val (.int c1), .val (.int c2), .val (.int m0), .val (.int m1), .val (.int m2), .val (.ref sb), .val (.ref db), .val (.ref pb), .val (.long po3), .second, .val (.ref q), .val (.ref T503.heap.size)] [(.int (1 : Int32))])) _
    refine XS.ifNo X508.here hx rfl (hb hby at_303) rfl ((if0 _ _).trans (feq (by decide : ¬ (1 : Int32) = 0)).1) ?_
    show Steps p.tables e below (T508.setTop (mkF m 306 #[.val (.int p1), .val (.int p2), .val (.int p3), .val (.int p4), .val (.int p5), .val (.int p6), .val (.int n), .val (.int y0), .val (.int y1), .val (.int y2), .val (.int c0), .val (.int c1), .val (.int c2), .val (.int m0), .val (.int m1), .val (.int m2), .val (.ref sb), .val (.ref db), .val (.ref pb), .val (.long po3), .second, .val (.ref q), .val (.ref T503.heap.size)] [])) _
    refine XS.aload X508.here hx rfl (hb hby at_306) rfl rfl ?_
    show Steps p.tables e below (T508.setTop (mkF m 308 #[.val (.int p1), .val (.int p2), .val (.int p3), .val (.int p4), .val (.int p5), .val (.int p6), .val (.int n), .val (.int y0), .val (.int y1), .val (.int y2), .val (.int c0), .val (.int c1), .val (.int c2), .val (.int m0), .val (.int m1), .val (.int m2), .val (.ref sb), .val (.ref db), .val (.ref pb), .val (.long po3), .second, .val (.ref q), .val (.ref T503.heap.size)] [(.ref T503.heap.size)])) _
    refine XS.iconst X508.here hx rfl (hb hby at_308) ?_
    show Steps p.tables e below (T508.setTop (mkF m 309 #[.val (.int p1), .val (.int p2), .val (.int p3), .val (.int p4), .val (.int p5), .val (.int p6), .val (.int n), .val (.int y0), .val (.int y1), .val (.int y2), .val (.int c0), .val (.int c1), .val (.int c2), .val (.int m0), .val (.int m1), .val (.int m2), .val (.ref sb), .val (.ref db), .val (.ref pb), .val (.long po3), .second, .val (.ref q), .val (.ref T503.heap.size)] [(.int (1 : Int32)), (.ref T503.heap.size)])) _
    refine XS.iload X508.here hx rfl (hb hby at_309) rfl ?_
    show Steps p.tables e below (T508.setTop (mkF m 311 #[.val (.int p1), .val (.int p2), .val (.int p3), .val (.int p4), .val (.int p5), .val (.int p6), .val (.int n), .val (.int y0), .val (.int y1), .val (.int y2), .val (.int c0), .val (.int c1), .val (.int c2), .val (.int m0), .val (.int m1), .val (.int m2), .val (.ref sb), .val (.ref db), .val (.ref pb), .val (.long po3), .second, .val (.ref q), .val (.ref T503.heap.size)] [(.int n), (.int (1 : Int32)), (.ref T503.heap.size)])) _
    refine XS.iload X508.here hx rfl (hb hby at_311) rfl ?_
    show Steps p.tables e below (T508.setTop (mkF m 313 #[.val (.int p1), .val (.int p2), .val (.int p3), .val (.int p4), .val (.int p5), .val (.int p6), .val (.int n), .val (.int y0), .val (.int y1), .val (.int y2), .val (.int c0), .val (.int c1), .val (.int c2), .val (.int m0), .val (.int m1), .val (.int m2), .val (.ref sb), .val (.ref db), .val (.ref pb), .val (.long po3), .second, .val (.ref q), .val (.ref T503.heap.size)] [(.int c1), (.int n), (.int (1 : Int32)), (.ref T503.heap.size)])) _
    refine XS.iload X508.here hx rfl (hb hby at_313) rfl ?_
    exact Steps.refl _)
  obtain ⟨_, _, ⟨T510, L510, k510, n510⟩, -, X510, ⟨Lc510, hQ510, l510, y510, z510⟩, st510⟩ := Jvm.LawKit.callS X508 hx (y := (⟨"com/example/quillfire/quillfire/StaticPolicyDividePinLaw", "at", "([IIIZI)Z"⟩ : MethodName)) hown (mvT hZ (hw _ (List.mem_of_getElem? (i := 49) rfl))) (mvT hZ (hw _ (List.mem_of_getElem? (i := 50) rfl))) (mvT hZ (hw _ (List.mem_of_getElem? (i := 51) rfl))) (mvT hZ (hw _ (List.mem_of_getElem? (i := 52) rfl))) (by decide) (backOf (W := 0) (rmA l Z a0 hw [] T503.heap.size (1 : Int32) n c1 y1 (fun k => if (fun k : Nat => (if k = 2 then c2 else (if k = 1 then c1 else (if k = 0 then c0 else 0)))) k = (0 : Int32) then (0 : Int32) else (fun k : Nat => (if k = 2 then y2 else (if k = 1 then y1 else (if k = 0 then y0 else 0)))) k) T505.heap n0 Z505x FR505 (by decide) (fun _ => rfl)) hZ (hw _ (List.mem_of_getElem? (i := 52) rfl)) (hw _ (List.mem_of_getElem? (i := 51) rfl)) (by decide) (by decide)) (g := (mkF m 315 #[.val (.int p1), .val (.int p2), .val (.int p3), .val (.int p4), .val (.int p5), .val (.int p6), .val (.int n), .val (.int y0), .val (.int y1), .val (.int y2), .val (.int c0), .val (.int c1), .val (.int c2), .val (.int m0), .val (.int m1), .val (.int m2), .val (.ref sb), .val (.ref db), .val (.ref pb), .val (.long po3), .second, .val (.ref q), .val (.ref T503.heap.size)] [(.int y1), (.int c1), (.int n), (.int (1 : Int32)), (.ref T503.heap.size)])) rfl (by rw [hml]; rfl) (argsL := [(.ref T503.heap.size), (.int (1 : Int32)), (.int n), (.int c1), (.int y1)]) (rest := []) (lenOf pd_rm0_2 rfl) rfl (by show 2 * 0 + _ ≤ _; exact Nat.le_of_eq rfl) (hb hby at_315) (fun _ _ => ⟨rfl, hh508, (by decide : 6 + 0 ≤ _), (by decide : 18 + 0 ≤ _)⟩)
  dsimp only [Pt.U, Pt.locs, Pt.cells, Pt.slots] at X510 l510 y510 z510 st510 hQ510
  subst l510 y510 z510
  obtain ⟨rfl, N510q, hh510⟩ := hQ510
  have N510 := Fr.app N508 N510q
  have pre510 : Steps p.tables e below _ (T510.setTop (mkF m 318 #[.val (.int p1), .val (.int p2), .val (.int p3), .val (.int p4), .val (.int p5), .val (.int p6), .val (.int n), .val (.int y0), .val (.int y1), .val (.int y2), .val (.int c0), .val (.int c1), .val (.int c2), .val (.int m0), .val (.int m1), .val (.int m2), .val (.ref sb), .val (.ref db), .val (.ref pb), .val (.long po3), .second, .val (.ref q), .val (.ref T503.heap.size)] [(.int (1 : Int32))])) := pre509.trans (st510 _ (Steps.refl _))
  have pre511 : Steps p.tables e below _ (T510.setTop (mkF m 330 #[.val (.int p1), .val (.int p2), .val (.int p3), .val (.int p4), .val (.int p5), .val (.int p6), .val (.int n), .val (.int y0), .val (.int y1), .val (.int y2), .val (.int c0), .val (.int c1), .val (.int c2), .val (.int m0), .val (.int m1), .val (.int m2), .val (.ref sb), .val (.ref db), .val (.ref pb), .val (.long po3), .second, .val (.ref q), .val (.ref T503.heap.size)] [(.int y2), (.int c2), (.int n), (.int (2 : Int32)), (.ref T503.heap.size)])) := pre510.trans (by
    show Steps p.tables e below (T510.setTop (mkF m 318 #[.val (.int p1), .val (.int p2), .val (.int p3), .val (.int p4), .val (.int p5), .val (.int p6), .val (.int n), .val (.int y0), .val (.int y1), .val (.int y2), .val (.int c0), .val (.int c1), .val (.int c2), .val (.int m0), .val (.int m1), .val (.int m2), .val (.ref sb), .val (.ref db), .val (.ref pb), .val (.long po3), .second, .val (.ref q), .val (.ref T503.heap.size)] [(.int (1 : Int32))])) _
    refine XS.ifNo X510.here hx rfl (hb hby at_318) rfl ((if0 _ _).trans (feq (by decide : ¬ (1 : Int32) = 0)).1) ?_
    show Steps p.tables e below (T510.setTop (mkF m 321 #[.val (.int p1), .val (.int p2), .val (.int p3), .val (.int p4), .val (.int p5), .val (.int p6), .val (.int n), .val (.int y0), .val (.int y1), .val (.int y2), .val (.int c0), .val (.int c1), .val (.int c2), .val (.int m0), .val (.int m1), .val (.int m2), .val (.ref sb), .val (.ref db), .val (.ref pb), .val (.long po3), .second, .val (.ref q), .val (.ref T503.heap.size)] [])) _
    refine XS.aload X510.here hx rfl (hb hby at_321) rfl rfl ?_
    show Steps p.tables e below (T510.setTop (mkF m 323 #[.val (.int p1), .val (.int p2), .val (.int p3), .val (.int p4), .val (.int p5), .val (.int p6), .val (.int n), .val (.int y0), .val (.int y1), .val (.int y2), .val (.int c0), .val (.int c1), .val (.int c2), .val (.int m0), .val (.int m1), .val (.int m2), .val (.ref sb), .val (.ref db), .val (.ref pb), .val (.long po3), .second, .val (.ref q), .val (.ref T503.heap.size)] [(.ref T503.heap.size)])) _
    refine XS.iconst X510.here hx rfl (hb hby at_323) ?_
    show Steps p.tables e below (T510.setTop (mkF m 324 #[.val (.int p1), .val (.int p2), .val (.int p3), .val (.int p4), .val (.int p5), .val (.int p6), .val (.int n), .val (.int y0), .val (.int y1), .val (.int y2), .val (.int c0), .val (.int c1), .val (.int c2), .val (.int m0), .val (.int m1), .val (.int m2), .val (.ref sb), .val (.ref db), .val (.ref pb), .val (.long po3), .second, .val (.ref q), .val (.ref T503.heap.size)] [(.int (2 : Int32)), (.ref T503.heap.size)])) _
    refine XS.iload X510.here hx rfl (hb hby at_324) rfl ?_
    show Steps p.tables e below (T510.setTop (mkF m 326 #[.val (.int p1), .val (.int p2), .val (.int p3), .val (.int p4), .val (.int p5), .val (.int p6), .val (.int n), .val (.int y0), .val (.int y1), .val (.int y2), .val (.int c0), .val (.int c1), .val (.int c2), .val (.int m0), .val (.int m1), .val (.int m2), .val (.ref sb), .val (.ref db), .val (.ref pb), .val (.long po3), .second, .val (.ref q), .val (.ref T503.heap.size)] [(.int n), (.int (2 : Int32)), (.ref T503.heap.size)])) _
    refine XS.iload X510.here hx rfl (hb hby at_326) rfl ?_
    show Steps p.tables e below (T510.setTop (mkF m 328 #[.val (.int p1), .val (.int p2), .val (.int p3), .val (.int p4), .val (.int p5), .val (.int p6), .val (.int n), .val (.int y0), .val (.int y1), .val (.int y2), .val (.int c0), .val (.int c1), .val (.int c2), .val (.int m0), .val (.int m1), .val (.int m2), .val (.ref sb), .val (.ref db), .val (.ref pb), .val (.long po3), .second, .val (.ref q), .val (.ref T503.heap.size)] [(.int c2), (.int n), (.int (2 : Int32)), (.ref T503.heap.size)])) _
    refine XS.iload X510.here hx rfl (hb hby at_328) rfl ?_
    exact Steps.refl _)
  obtain ⟨_, _, ⟨T512, L512, k512, n512⟩, -, X512, ⟨Lc512, hQ512, l512, y512, z512⟩, st512⟩ := Jvm.LawKit.callS X510 hx (y := (⟨"com/example/quillfire/quillfire/StaticPolicyDividePinLaw", "at", "([IIIZI)Z"⟩ : MethodName)) hown (mvT hZ (hw _ (List.mem_of_getElem? (i := 49) rfl))) (mvT hZ (hw _ (List.mem_of_getElem? (i := 50) rfl))) (mvT hZ (hw _ (List.mem_of_getElem? (i := 51) rfl))) (mvT hZ (hw _ (List.mem_of_getElem? (i := 52) rfl))) (by decide) (backOf (W := 0) (rmA l Z a0 hw [] T503.heap.size (2 : Int32) n c2 y2 (fun k => if (fun k : Nat => (if k = 2 then c2 else (if k = 1 then c1 else (if k = 0 then c0 else 0)))) k = (0 : Int32) then (0 : Int32) else (fun k : Nat => (if k = 2 then y2 else (if k = 1 then y1 else (if k = 0 then y0 else 0)))) k) T505.heap n0 Z505x FR505 (by decide) (fun _ => rfl)) hZ (hw _ (List.mem_of_getElem? (i := 52) rfl)) (hw _ (List.mem_of_getElem? (i := 51) rfl)) (by decide) (by decide)) (g := (mkF m 330 #[.val (.int p1), .val (.int p2), .val (.int p3), .val (.int p4), .val (.int p5), .val (.int p6), .val (.int n), .val (.int y0), .val (.int y1), .val (.int y2), .val (.int c0), .val (.int c1), .val (.int c2), .val (.int m0), .val (.int m1), .val (.int m2), .val (.ref sb), .val (.ref db), .val (.ref pb), .val (.long po3), .second, .val (.ref q), .val (.ref T503.heap.size)] [(.int y2), (.int c2), (.int n), (.int (2 : Int32)), (.ref T503.heap.size)])) rfl (by rw [hml]; rfl) (argsL := [(.ref T503.heap.size), (.int (2 : Int32)), (.int n), (.int c2), (.int y2)]) (rest := []) (lenOf pd_rm0_2 rfl) rfl (by show 2 * 0 + _ ≤ _; exact Nat.le_of_eq rfl) (hb hby at_330) (fun _ _ => ⟨rfl, hh510, (by decide : 6 + 0 ≤ _), (by decide : 18 + 0 ≤ _)⟩)
  dsimp only [Pt.U, Pt.locs, Pt.cells, Pt.slots] at X512 l512 y512 z512 st512 hQ512
  subst l512 y512 z512
  obtain ⟨rfl, N512q, hh512⟩ := hQ512
  have N512 := Fr.app N510 N512q
  have pre512 : Steps p.tables e below _ (T512.setTop (mkF m 333 #[.val (.int p1), .val (.int p2), .val (.int p3), .val (.int p4), .val (.int p5), .val (.int p6), .val (.int n), .val (.int y0), .val (.int y1), .val (.int y2), .val (.int c0), .val (.int c1), .val (.int c2), .val (.int m0), .val (.int m1), .val (.int m2), .val (.ref sb), .val (.ref db), .val (.ref pb), .val (.long po3), .second, .val (.ref q), .val (.ref T503.heap.size)] [(.int (1 : Int32))])) := pre511.trans (st512 _ (Steps.refl _))
  have pre513 : Steps p.tables e below _ (T512.setTop (mkF m 341 #[.val (.int p1), .val (.int p2), .val (.int p3), .val (.int p4), .val (.int p5), .val (.int p6), .val (.int n), .val (.int y0), .val (.int y1), .val (.int y2), .val (.int c0), .val (.int c1), .val (.int c2), .val (.int m0), .val (.int m1), .val (.int m2), .val (.ref sb), .val (.ref db), .val (.ref pb), .val (.long po3), .second, .val (.ref q), .val (.ref T503.heap.size)] [(.int (1 : Int32))])) := pre512.trans (by
    show Steps p.tables e below (T512.setTop (mkF m 333 #[.val (.int p1), .val (.int p2), .val (.int p3), .val (.int p4), .val (.int p5), .val (.int p6), .val (.int n), .val (.int y0), .val (.int y1), .val (.int y2), .val (.int c0), .val (.int c1), .val (.int c2), .val (.int m0), .val (.int m1), .val (.int m2), .val (.ref sb), .val (.ref db), .val (.ref pb), .val (.long po3), .second, .val (.ref q), .val (.ref T503.heap.size)] [(.int (1 : Int32))])) _
    refine XS.ifNo X512.here hx rfl (hb hby at_333) rfl ((if0 _ _).trans (feq (by decide : ¬ (1 : Int32) = 0)).1) ?_
    show Steps p.tables e below (T512.setTop (mkF m 336 #[.val (.int p1), .val (.int p2), .val (.int p3), .val (.int p4), .val (.int p5), .val (.int p6), .val (.int n), .val (.int y0), .val (.int y1), .val (.int y2), .val (.int c0), .val (.int c1), .val (.int c2), .val (.int m0), .val (.int m1), .val (.int m2), .val (.ref sb), .val (.ref db), .val (.ref pb), .val (.long po3), .second, .val (.ref q), .val (.ref T503.heap.size)] [])) _
    refine XS.iconst X512.here hx rfl (hb hby at_336) ?_
    show Steps p.tables e below (T512.setTop (mkF m 337 #[.val (.int p1), .val (.int p2), .val (.int p3), .val (.int p4), .val (.int p5), .val (.int p6), .val (.int n), .val (.int y0), .val (.int y1), .val (.int y2), .val (.int c0), .val (.int c1), .val (.int c2), .val (.int m0), .val (.int m1), .val (.int m2), .val (.ref sb), .val (.ref db), .val (.ref pb), .val (.long po3), .second, .val (.ref q), .val (.ref T503.heap.size)] [(.int (1 : Int32))])) _
    refine XS.goto X512.here hx rfl (pc0 := 337) (pc' := 341) rfl (hb hby at_337) (by decide) (by decide) ?_
    exact Steps.refl _)
  obtain ⟨fs, hr, hrun, hended, hW, hsame⟩ := X512.leave (v := some (.int (1 : Int32))) (fun h => by rw [Bd.returns] at h; cases h)
  refine ⟨_, _, pre513.trans ?_, hrun, hended, _, _, rfl, ?_, ⟨_, rfl⟩, hW, hsame.mono (by decide) (by decide)⟩
  · exact retN X512 hx (t := .boolean) Bd.returns (by simp) (hb hby at_341) hr
  · exact ⟨rfl, N512⟩
set_option maxRecDepth 65536 in
set_option maxHeartbeats 40000000 in
theorem comes_1 {Post : Tables → Env → Array Value → State → Outcome → State → Prop} (hpost : ∀ tb e args s v u, (limb_1_1.after args s (.returned v) u = true ∧ limb_1_2.after args s (.returned v) u = true ∧ True) → FrameEnd s (.returned v) u (Jvm.fieldLocs frame_1_writes args s ++ Jvm.arrayLocs frame_1_arrays args s ++ Jvm.staticLocs frame_1_statics s) 24 128 → Post tb e args s (.returned v) u) :
    ArmFor flags0 classFile x code maxLocals ret World_1 tables_1 room_1 Calls_1 rest_1 Pre_1 Post := by
  intro l hfl _ _ p e ha hc hk s m args below hf hA hF happ hP
  obtain ⟨hcalls, hrest, hpre⟩ := hP
  obtain ⟨-, -, -, hnamed, -, -, -, hat⟩ := (Spec.applies_iff hf).mp happ
  obtain ⟨hg, hn⟩ := and_e (Cond.before_iff.mp (show (Jvm.Cond.and given_1 narrow_1).before args s = true from hpre))
  obtain ⟨g0, r0⟩ := and_e hg
  obtain ⟨w0, w1, w2, w3, w4, w5, rfl⟩ : ∃ w0 w1 w2 w3 w4 w5 : Value, args = #[w0, w1, w2, w3, w4, w5] := by
    have hs : args.size = 6 := by simpa [Cond.value, given_1] using g0
    obtain ⟨L⟩ := args
    match L, hs with
    | [w0, w1, w2, w3, w4, w5], _ => exact ⟨w0, w1, w2, w3, w4, w5, rfl⟩
  have hw := fun d (hd : d ∈ tables_1) => atoms_spec (ws := Jvm.Cond.code x code maxLocals ret :: tables_1) hat d (List.mem_cons_of_mem _ hd)
  have hfit : Fit s := fun {y c} hc i hi => by
    obtain ⟨ha, rfl⟩ := Array.getElem?_eq_some_iff.mp hc
    have q := List.all_eq_true.mp ((Array.all_eq_true_iff_forall_mem.mp hF) _ (Array.getElem_mem ha)) i (List.mem_range.mpr hi)
    simpa [Array.getElem?_eq_getElem hi] using q
  obtain ⟨g1, r1⟩ := and_e r0
  obtain ⟨i0, ei0⟩ := is_v g1
  obtain rfl : w0 = (.int i0) := Option.some.inj ei0
  obtain ⟨g2, r2⟩ := and_e r1
  obtain ⟨i1, ei1⟩ := is_v g2
  obtain rfl : w1 = (.int i1) := Option.some.inj ei1
  obtain ⟨g3, r3⟩ := and_e r2
  obtain ⟨i2, ei2⟩ := is_v g3
  obtain rfl : w2 = (.int i2) := Option.some.inj ei2
  obtain ⟨g4, r4⟩ := and_e r3
  obtain ⟨i3, ei3⟩ := is_v g4
  obtain rfl : w3 = (.int i3) := Option.some.inj ei3
  obtain ⟨g5, r5⟩ := and_e r4
  obtain ⟨i4, ei4⟩ := is_v g5
  obtain rfl : w4 = (.int i4) := Option.some.inj ei4
  obtain ⟨i5, ei5⟩ := is_v r5
  obtain rfl : w5 = (.int i5) := Option.some.inj ei5
  obtain ⟨n, o, h1, h2, h3, _, L, rfl, ⟨rfl, N⟩, hq⟩ := rm0 l s _ hw tables_1 i0 i1 i2 i3 i4 i5 s.heap s.heap.size (Nat.le_refl _)  p e ha hc hk s m _ below hf ((Spec.applies_iff_loose hf).mp happ).1 ⟨rfl, State.Warmed39.refl s, rfl⟩ trivial
  refine ⟨n, _, h1, h2, h3, hpost _ _ _ _ _ _ ⟨Cond.after_iff.mpr rfl, Cond.after_iff.mpr (eq_i res_at (Term.int_eval (1)) rfl), trivial⟩ ⟨hq.1, hq.2.1, (hq.2.2.sift fun y hy => Or.inr (N y hy)).mono (by decide) (by decide)⟩⟩
theorem main_1_1 : Claimed_1_1 := comes_1 fun _ _ _ _ _ _ h hF => ⟨h.1, hF⟩
theorem main_1_2 : Claimed_1_2 := comes_1 fun _ _ _ _ _ _ h hF => ⟨h.2.1, hF⟩
end Jvm.Pilot.@@N@@
namespace Jvm.Pilot.@@N@@
open Jvm Jvm.ClassFile Sem Op Lib Jvm.Free Jvm.Stand Jvm.Pilot.@@N@@.Jvm.D
/-! MADE BY PROGRAM (witnessworld.py) out of the Statement's table words and the real class files: 12 classes; the members and pool entries that the words name. The judged class is class 1, her method 1. -/
namespace start1
open Jvm.ClassFile
def u (s : String) : CpInfo := .utf8 (stringToUtf16 s)
/-- a pool by its gaps: so many unusable entries, then the entry; so many at the end -/
def gap : Nat → List CpInfo → List CpInfo
  | 0, r => r
  | n + 1, r => .unusable :: gap n r
def poolList (es : List (Nat × CpInfo)) (last : Nat) : List CpInfo := es.foldr (fun e r => gap e.1 (e.2 :: r)) (gap last [])
def pool (es : List (Nat × CpInfo)) (last : Nat) : Array CpInfo := ⟨poolList es last⟩
def fileOf (pool : Array CpInfo) (this : Nat) (attrs : Array Attribute := #[]) (ms : Array MethodInfo := #[]) (fl : Nat := 33) (sup : Nat := 0) (ifs : Array Nat := #[]) (fds : Array FieldInfo := #[]) : ClassFile where
  minorVersion := 0
  majorVersion := 65
  constantPool := pool
  accessFlags := fl
  thisClass := this
  superClass := sup
  interfaces := ifs
  fields := fds
  methods := ms
  attributes := attrs
def plain (name : String) (sup : Option ClassId) : Class where
  name := name
  kind := .ordinary
  loader := none
  accessFlags := 33
  super := sup
  interfaces := #[]
  cf := none
  fields := #[]
  methods := #[]
  instanceTypes := #[]
  staticTypes := #[]
  resolved := #[]
  callSites := []
  init := .initialized
  statics := none
  mirror := none

def pool0 : Array CpInfo := pool [(5, u "<init>"), (0, u "()V"), (1, .class_ 10), (1, u "java/lang/Object"), (85, u "clone"), (0, u "()Ljava/lang/Object;")] 26

def k0c0 : Code := { maxStack := 0, maxLocals := 1, code := object_method_1_code, exceptionTable := #[], attributes := #[] }
def k0m0 : Method := { name := "<init>", desc := "()V", sig := { parameters := [], returnType := none }, accessFlags := 1, code := some k0c0 }
def k0m1 : Method := { name := "clone", desc := "()Ljava/lang/Object;", sig := { parameters := [], returnType := some (.object "java/lang/Object") }, accessFlags := 260, code := none }
/-- java/lang/Object -/
def k0 : Class := { plain "java/lang/Object" none with
  accessFlags := 33
  interfaces := #[]
  cf := some (fileOf pool0 8 #[] #[{ accessFlags := 1, nameIndex := 5, descriptorIndex := 6, attributes := #[] }, { accessFlags := 260, nameIndex := 96, descriptorIndex := 97, attributes := #[] }] 33 0 #[] #[])
  fields := #[]
  methods := #[k0m0, k0m1]
  instanceTypes := #[]
  staticTypes := #[]
  resolved := Array.replicate 124 none
  statics := none }

def pool1 : Array CpInfo := pool [(2, .class_ 4), (1, u "java/lang/Object"), (0, u "<init>"), (0, u "()V"), (0, .integer 2147483647), (0, .class_ 9), (0, u "com/example/quillfire/quillfire/StaticPolicy"), (0, .methodref 8 11), (0, .nameAndType 5 12), (0, u "([I)V"), (0, .methodref 8 14), (0, .nameAndType 15 16), (0, u "divide"), (0, u "([I[ZJ)[I"), (0, .methodref 18 19), (0, .class_ 20), (0, .nameAndType 21 22), (0, u "com/example/quillfire/quillfire/StaticPolicyDividePinLaw"), (0, u "at"), (0, u "([IIIZI)Z"), (2, u "law"), (0, u "(IIIIII)Z")] 7

def k1m0 : Method := { name := "<init>", desc := "()V", sig := { parameters := [], returnType := none }, accessFlags := 1, code := none }
def k1c1 : Code := { maxStack := 5, maxLocals := 23, code := code, exceptionTable := #[], attributes := #[] }
def k1m1 : Method := { name := "law", desc := "(IIIIII)Z", sig := { parameters := [.int, .int, .int, .int, .int, .int], returnType := some .boolean }, accessFlags := 9, code := some k1c1 }
def k1c2 : Code := { maxStack := 2, maxLocals := 6, code := method_3_code, exceptionTable := #[], attributes := #[] }
def k1m2 : Method := { name := "at", desc := "([IIIZI)Z", sig := { parameters := [(.array .int), .int, .int, .boolean, .int], returnType := some .boolean }, accessFlags := 10, code := some k1c2 }
/-- com/example/quillfire/quillfire/StaticPolicyDividePinLaw -/
def k1 : Class := { plain "com/example/quillfire/quillfire/StaticPolicyDividePinLaw" (some 0) with
  accessFlags := 49
  interfaces := #[]
  cf := some (fileOf pool1 18 #[] #[{ accessFlags := 1, nameIndex := 5, descriptorIndex := 6, attributes := #[] }, { accessFlags := 9, nameIndex := 25, descriptorIndex := 26, attributes := #[] }, { accessFlags := 10, nameIndex := 21, descriptorIndex := 22, attributes := #[] }] 49 2 #[] #[])
  fields := #[]
  methods := #[k1m0, k1m1, k1m2]
  instanceTypes := #[]
  staticTypes := #[]
  resolved := Array.replicate 34 none
  statics := none }

def pool2 : Array CpInfo := pool [(1, .methodref 2 3), (0, .class_ 4), (0, .nameAndType 5 6), (0, u "com/example/quillfire/quillfire/AllocationPolicy"), (0, u "<init>"), (0, u "([I[Z)V"), (0, .methodref 8 9), (0, .class_ 10), (0, .nameAndType 5 11), (0, u "java/lang/Object"), (0, u "()V"), (9, .methodref 2 22), (0, .nameAndType 23 24), (0, u "checkFairShare"), (0, u "(I)V"), (0, .methodref 26 27), (0, .class_ 28), (0, .nameAndType 29 30), (0, u "[I"), (0, u "clone"), (0, u "()Ljava/lang/Object;"), (0, .fieldref 2 32), (0, .nameAndType 33 28), (0, u "fairShares"), (0, .fieldref 2 35), (0, .nameAndType 36 37), (0, u "pool"), (0, u "J"), (0, .fieldref 2 39), (0, .nameAndType 40 41), (0, u "started"), (0, u "Z"), (20, u "()I"), (8, u "(I)I"), (6, u "users"), (19, u "ABSENT"), (0, u "I"), (2, u "([I)V"), (7, u "fairShare")] 36

def k2c0 : Code := { maxStack := 3, maxLocals := 2, code := prog_1_method_1_code, exceptionTable := #[], attributes := #[] }
def k2m0 : Method := { name := "<init>", desc := "([I)V", sig := { parameters := [(.array .int)], returnType := none }, accessFlags := 0, code := some k2c0 }
def k2c1 : Code := { maxStack := 4, maxLocals := 6, code := prog_1_method_2_code, exceptionTable := #[], attributes := #[] }
def k2m1 : Method := { name := "<init>", desc := "([I[Z)V", sig := { parameters := [(.array .int), (.array .boolean)], returnType := none }, accessFlags := 0, code := some k2c1 }
def k2c2 : Code := { maxStack := 1, maxLocals := 1, code := prog_1_method_4_code, exceptionTable := #[], attributes := #[] }
def k2m2 : Method := { name := "users", desc := "()I", sig := { parameters := [], returnType := some .int }, accessFlags := 16, code := some k2c2 }
def k2c3 : Code := { maxStack := 2, maxLocals := 2, code := prog_1_method_5_code, exceptionTable := #[], attributes := #[] }
def k2m3 : Method := { name := "fairShare", desc := "(I)I", sig := { parameters := [.int], returnType := some .int }, accessFlags := 16, code := some k2c3 }
def k2c4 : Code := { maxStack := 3, maxLocals := 1, code := prog_1_method_16_code, exceptionTable := #[], attributes := #[] }
def k2m4 : Method := { name := "checkFairShare", desc := "(I)V", sig := { parameters := [.int], returnType := none }, accessFlags := 10, code := some k2c4 }
/-- com/example/quillfire/quillfire/AllocationPolicy -/
def k2 : Class := { plain "com/example/quillfire/quillfire/AllocationPolicy" (some 0) with
  accessFlags := 1057
  interfaces := #[]
  cf := some (fileOf pool2 2 #[] #[{ accessFlags := 0, nameIndex := 5, descriptorIndex := 102, attributes := #[] }, { accessFlags := 0, nameIndex := 5, descriptorIndex := 6, attributes := #[] }, { accessFlags := 16, nameIndex := 78, descriptorIndex := 62, attributes := #[] }, { accessFlags := 16, nameIndex := 110, descriptorIndex := 71, attributes := #[] }, { accessFlags := 10, nameIndex := 23, descriptorIndex := 24, attributes := #[] }] 1057 8 #[] #[{ accessFlags := 25, nameIndex := 98, descriptorIndex := 99, attributes := #[] }, { accessFlags := 2, nameIndex := 33, descriptorIndex := 28, attributes := #[] }, { accessFlags := 2, nameIndex := 36, descriptorIndex := 37, attributes := #[] }, { accessFlags := 2, nameIndex := 40, descriptorIndex := 41, attributes := #[] }])
  fields := #[{ name := "ABSENT", type := .int, accessFlags := 25, slot := 0, constantValue := 0 }, { name := "fairShares", type := (.array .int), accessFlags := 2, slot := 0, constantValue := 0 }, { name := "pool", type := .long, accessFlags := 2, slot := 1, constantValue := 0 }, { name := "started", type := .boolean, accessFlags := 2, slot := 2, constantValue := 0 }]
  methods := #[k2m0, k2m1, k2m2, k2m3, k2m4]
  instanceTypes := #[(.array .int), .long, .boolean]
  staticTypes := #[.int]
  resolved := Array.replicate 147 none
  statics := none }

def pool3 : Array CpInfo := pool [(2, .class_ 4), (1, u "com/example/quillfire/quillfire/StaticPolicy"), (3, .nameAndType 9 10), (0, u "<init>"), (0, u "([I)V"), (0, .methodref 12 8), (0, .class_ 13), (0, u "com/example/quillfire/quillfire/AllocationPolicy"), (0, .methodref 2 15), (0, .nameAndType 16 17), (0, u "users"), (0, u "()I"), (0, .methodref 2 19), (0, .nameAndType 20 21), (0, u "fairShare"), (0, u "(I)I"), (3, u "divide"), (0, u "([I[ZJ)[I")] 7

def k3c0 : Code := { maxStack := 2, maxLocals := 2, code := prog_19_method_2_code, exceptionTable := #[], attributes := #[] }
def k3m0 : Method := { name := "<init>", desc := "([I)V", sig := { parameters := [(.array .int)], returnType := none }, accessFlags := 1, code := some k3c0 }
def k3c1 : Code := { maxStack := 4, maxLocals := 7, code := prog_19_method_3_code, exceptionTable := #[], attributes := #[] }
def k3m1 : Method := { name := "divide", desc := "([I[ZJ)[I", sig := { parameters := [(.array .int), (.array .boolean), .long], returnType := some (.array .int) }, accessFlags := 0, code := some k3c1 }
/-- com/example/quillfire/quillfire/StaticPolicy -/
def k3 : Class := { plain "com/example/quillfire/quillfire/StaticPolicy" (some 2) with
  accessFlags := 49
  interfaces := #[]
  cf := some (fileOf pool3 2 #[] #[{ accessFlags := 1, nameIndex := 9, descriptorIndex := 10, attributes := #[] }, { accessFlags := 0, nameIndex := 25, descriptorIndex := 26, attributes := #[] }] 49 12 #[] #[])
  fields := #[]
  methods := #[k3m0, k3m1]
  instanceTypes := #[(.array .int), .long, .boolean]
  staticTypes := #[]
  resolved := Array.replicate 34 none
  statics := none }

def pool4 : Array CpInfo := pool [(1, .class_ 2), (0, u "java/lang/Cloneable"), (0, .class_ 4), (0, u "java/lang/Object")] 2

/-- java/lang/Cloneable -/
def k4 : Class := { plain "java/lang/Cloneable" (some 0) with
  accessFlags := 1537
  interfaces := #[]
  cf := some (fileOf pool4 1 #[] #[] 1537 3 #[] #[])
  fields := #[]
  methods := #[]
  instanceTypes := #[]
  staticTypes := #[]
  resolved := Array.replicate 7 none
  statics := none }

def pool5 : Array CpInfo := pool [(1, u "java/io/Serializable"), (0, .class_ 1), (0, u "java/lang/Object"), (0, .class_ 3)] 3

/-- java/io/Serializable -/
def k5 : Class := { plain "java/io/Serializable" (some 0) with
  accessFlags := 1537
  interfaces := #[]
  cf := some (fileOf pool5 2 #[] #[] 1537 4 #[] #[])
  fields := #[]
  methods := #[]
  instanceTypes := #[]
  staticTypes := #[]
  resolved := Array.replicate 8 none
  statics := none }

/-- the primitive boolean -/
def k6 : Class := { plain "boolean" none with kind := .primitive 'Z', accessFlags := 0x411 }
/-- [Z -/
def k7 : Class := { plain "[Z" (some 0) with kind := .array 6 .boolean, interfaces := #[4, 5], accessFlags := 1041 }

/-- the primitive byte -/
def k8 : Class := { plain "byte" none with kind := .primitive 'B', accessFlags := 0x411 }
/-- [B -/
def k9 : Class := { plain "[B" (some 0) with kind := .array 8 .byte, interfaces := #[4, 5], accessFlags := 1041 }

/-- the primitive int -/
def k10 : Class := { plain "int" none with kind := .primitive 'I', accessFlags := 0x411 }
/-- [I -/
def k11 : Class := { plain "[I" (some 0) with kind := .array 10 .int, interfaces := #[4, 5], accessFlags := 1041 }

def heap : Heap := #[]
def classes : Array Class := #[k0, k1, k2, k3, k4, k5, k6, k7, k8, k9, k10, k11]
def interned : List (Array UInt16 × Addr) := []
def slotsUsed : Nat := 0
def theMethod : MethodId := ⟨1, 1⟩
def args0 : Array Value := #[.int 1, .int 2, .int 3, .int 4, .int 5, .int 15]
def aboutOver (below : List Frame) : State where
  vm := { classes := classes, interned := interned.toArray }
  heap := heap
  slotsUsed := slotsUsed
  threads := #[{ frames := .invoking theMethod args0 :: below }]
def below0 : List Frame := [.native { method := ⟨0, 0⟩, args := #[] }]
def about1 : State := aboutOver below0
def p0 : Program := .bare "" "" ""
def e0 : Env := launch0.env 0 0 0
theorem w_frames : about1.frames = Frame.invoking theMethod args0 :: below0 := rfl
set_option maxRecDepth 65536 in
theorem w_args : argsFit about1.vm theMethod args0 = true := by decide +kernel
set_option maxRecDepth 65536 in
theorem w_heap : heapFits about1 = true := by decide +kernel
set_option maxRecDepth 65536 in
theorem w_runnable : about1.curStatus? = some .runnable := by decide +kernel
set_option maxRecDepth 65536 in
theorem w_alone : about1.alone = true := by decide +kernel
set_option maxRecDepth 65536 in
theorem w_named : about1.methodNamed? x = some theMethod := by decide +kernel
set_option maxRecDepth 65536 in
theorem w_hears : about1.hears theMethod below0 = true := by decide +kernel
set_option maxRecDepth 65536 in
theorem w_ripe : about1.ripe theMethod args0 below0 = true := by decide +kernel
theorem w_running : about1.status = .running := rfl
set_option maxRecDepth 65536 in
theorem w_room : about1.hasRoom e0.platform room_1 = true :=
  launch0.hasRoom_least _ room_1 (by decide +kernel) (by decide +kernel) (by decide +kernel) (by decide +kernel) (by decide +kernel) (by decide +kernel)
theorem allAtoms_all (ts : List Jvm.Cond) (a : Array Jvm.Value) (st : Jvm.State) : (allAtoms ts).before a st = ts.all (fun c => c.before a st) := by
  induction ts with
  | nil => rfl
  | cons c t ih =>
    show (Jvm.Cond.and c (allAtoms t)).before a st = _
    rw [Jvm.Cond.before_and, ih, List.all_cons]
def words1 : List Jvm.Cond := Jvm.Cond.code x code maxLocals ret :: tables_1
/-- a 'code' word, met by the world's own term for the bytes: nothing is compared byte by byte -/
theorem code_word {y : MethodName} {bytes : ByteArray} {mx : Nat} {rt : Option FieldType} {a : Array Value} {s : State} {m : MethodId} {meth : Method} {c : Code} (h1 : s.methodNamed? y = some m) (h2 : s.vm.method? m = some meth) (h3 : meth.code = some c) (h4 : c.code = bytes)
    (h5 : (c.maxLocals == mx && c.exceptionTable.isEmpty && decide (c.maxStack ≤ mostOperands) && decide (meth.sig.returnType = rt) && !meth.locks && decide (parseMethodDescriptor y.desc = some meth.sig)) = true) : (Jvm.Cond.code y bytes mx rt).before a s = true := by
  simp only [Bool.and_eq_true, beq_iff_eq, Bool.not_eq_true', decide_eq_true_eq] at h5
  obtain ⟨⟨⟨⟨⟨g1, g2⟩, g3⟩, g4⟩, g5⟩, g6⟩ := h5
  simp [Cond.before, Cond.holds, Cond.value, h1, h2, h3, h4, g1, g2, g3, g4, g5, g6]
def isCode : Jvm.Cond → Bool
  | .code _ _ _ _ => true
  | _ => false
theorem all_split {L : List Jvm.Cond} {P : Jvm.Cond → Bool} (h1 : L.all (fun c => isCode c || P c) = true) (h2 : ∀ c ∈ L.filter isCode, P c = true) : L.all P = true := by
  refine List.all_eq_true.mpr fun c hc => ?_
  have h := List.all_eq_true.mp h1 c hc
  rcases Bool.eq_false_or_eq_true (isCode c) with hi | hi
  · exact h2 c (List.mem_filter.mpr ⟨hc, hi⟩)
  · simpa [hi] using h
set_option maxRecDepth 65536 in
theorem w_c0 : (Jvm.Cond.code x code maxLocals ret).before args0 about1 = true := code_word (m := ⟨1, 1⟩) (meth := k1m1) (c := k1c1) (by decide +kernel) rfl rfl rfl (by decide +kernel)
set_option maxRecDepth 65536 in
theorem w_c1 : (Jvm.Cond.code ({ cls := "com/example/quillfire/quillfire/StaticPolicy", name := "<init>", desc := "([I)V" } : Jvm.MethodName) prog_19_method_2_code (2 : Nat) (Option.none : Option Jvm.ClassFile.FieldType)).before args0 about1 = true := code_word (m := ⟨3, 0⟩) (meth := k3m0) (c := k3c0) (by decide +kernel) rfl rfl rfl (by decide +kernel)
set_option maxRecDepth 65536 in
theorem w_c2 : (Jvm.Cond.code ({ cls := "com/example/quillfire/quillfire/AllocationPolicy", name := "<init>", desc := "([I)V" } : Jvm.MethodName) prog_1_method_1_code (2 : Nat) (Option.none : Option Jvm.ClassFile.FieldType)).before args0 about1 = true := code_word (m := ⟨2, 0⟩) (meth := k2m0) (c := k2c0) (by decide +kernel) rfl rfl rfl (by decide +kernel)
set_option maxRecDepth 65536 in
theorem w_c3 : (Jvm.Cond.code ({ cls := "com/example/quillfire/quillfire/AllocationPolicy", name := "<init>", desc := "([I[Z)V" } : Jvm.MethodName) prog_1_method_2_code (6 : Nat) (Option.none : Option Jvm.ClassFile.FieldType)).before args0 about1 = true := code_word (m := ⟨2, 1⟩) (meth := k2m1) (c := k2c1) (by decide +kernel) rfl rfl rfl (by decide +kernel)
set_option maxRecDepth 65536 in
theorem w_c4 : (Jvm.Cond.code ({ cls := "java/lang/Object", name := "<init>", desc := "()V" } : Jvm.MethodName) object_method_1_code (1 : Nat) (Option.none : Option Jvm.ClassFile.FieldType)).before args0 about1 = true := code_word (m := ⟨0, 0⟩) (meth := k0m0) (c := k0c0) (by decide +kernel) rfl rfl rfl (by decide +kernel)
set_option maxRecDepth 65536 in
theorem w_c5 : (Jvm.Cond.code ({ cls := "com/example/quillfire/quillfire/AllocationPolicy", name := "checkFairShare", desc := "(I)V" } : Jvm.MethodName) prog_1_method_16_code (1 : Nat) (Option.none : Option Jvm.ClassFile.FieldType)).before args0 about1 = true := code_word (m := ⟨2, 4⟩) (meth := k2m4) (c := k2c4) (by decide +kernel) rfl rfl rfl (by decide +kernel)
set_option maxRecDepth 65536 in
theorem w_c6 : (Jvm.Cond.code ({ cls := "com/example/quillfire/quillfire/StaticPolicy", name := "divide", desc := "([I[ZJ)[I" } : Jvm.MethodName) prog_19_method_3_code (7 : Nat) (Option.some (Jvm.ClassFile.FieldType.array Jvm.ClassFile.FieldType.int))).before args0 about1 = true := code_word (m := ⟨3, 1⟩) (meth := k3m1) (c := k3c1) (by decide +kernel) rfl rfl rfl (by decide +kernel)
set_option maxRecDepth 65536 in
theorem w_c7 : (Jvm.Cond.code ({ cls := "com/example/quillfire/quillfire/AllocationPolicy", name := "users", desc := "()I" } : Jvm.MethodName) prog_1_method_4_code (1 : Nat) (Option.some Jvm.ClassFile.FieldType.int)).before args0 about1 = true := code_word (m := ⟨2, 2⟩) (meth := k2m2) (c := k2c2) (by decide +kernel) rfl rfl rfl (by decide +kernel)
set_option maxRecDepth 65536 in
theorem w_c8 : (Jvm.Cond.code ({ cls := "com/example/quillfire/quillfire/StaticPolicyDividePinLaw", name := "at", desc := "([IIIZI)Z" } : Jvm.MethodName) method_3_code (6 : Nat) (Option.some Jvm.ClassFile.FieldType.boolean)).before args0 about1 = true := code_word (m := ⟨1, 2⟩) (meth := k1m2) (c := k1c2) (by decide +kernel) rfl rfl rfl (by decide +kernel)
set_option maxRecDepth 65536 in
theorem w_c9 : (Jvm.Cond.code ({ cls := "com/example/quillfire/quillfire/AllocationPolicy", name := "fairShare", desc := "(I)I" } : Jvm.MethodName) prog_1_method_5_code (2 : Nat) (Option.some Jvm.ClassFile.FieldType.int)).before args0 about1 = true := code_word (m := ⟨2, 3⟩) (meth := k2m3) (c := k2c3) (by decide +kernel) rfl rfl rfl (by decide +kernel)
def codes1 : List Jvm.Cond := [Jvm.Cond.code x code maxLocals ret, Jvm.Cond.code ({ cls := "com/example/quillfire/quillfire/StaticPolicy", name := "<init>", desc := "([I)V" } : Jvm.MethodName) prog_19_method_2_code (2 : Nat) (Option.none : Option Jvm.ClassFile.FieldType), Jvm.Cond.code ({ cls := "com/example/quillfire/quillfire/AllocationPolicy", name := "<init>", desc := "([I)V" } : Jvm.MethodName) prog_1_method_1_code (2 : Nat) (Option.none : Option Jvm.ClassFile.FieldType), Jvm.Cond.code ({ cls := "com/example/quillfire/quillfire/AllocationPolicy", name := "<init>", desc := "([I[Z)V" } : Jvm.MethodName) prog_1_method_2_code (6 : Nat) (Option.none : Option Jvm.ClassFile.FieldType), Jvm.Cond.code ({ cls := "java/lang/Object", name := "<init>", desc := "()V" } : Jvm.MethodName) object_method_1_code (1 : Nat) (Option.none : Option Jvm.ClassFile.FieldType), Jvm.Cond.code ({ cls := "com/example/quillfire/quillfire/AllocationPolicy", name := "checkFairShare", desc := "(I)V" } : Jvm.MethodName) prog_1_method_16_code (1 : Nat) (Option.none : Option Jvm.ClassFile.FieldType), Jvm.Cond.code ({ cls := "com/example/quillfire/quillfire/StaticPolicy", name := "divide", desc := "([I[ZJ)[I" } : Jvm.MethodName) prog_19_method_3_code (7 : Nat) (Option.some (Jvm.ClassFile.FieldType.array Jvm.ClassFile.FieldType.int)), Jvm.Cond.code ({ cls := "com/example/quillfire/quillfire/AllocationPolicy", name := "users", desc := "()I" } : Jvm.MethodName) prog_1_method_4_code (1 : Nat) (Option.some Jvm.ClassFile.FieldType.int), Jvm.Cond.code ({ cls := "com/example/quillfire/quillfire/StaticPolicyDividePinLaw", name := "at", desc := "([IIIZI)Z" } : Jvm.MethodName) method_3_code (6 : Nat) (Option.some Jvm.ClassFile.FieldType.boolean), Jvm.Cond.code ({ cls := "com/example/quillfire/quillfire/AllocationPolicy", name := "fairShare", desc := "(I)I" } : Jvm.MethodName) prog_1_method_5_code (2 : Nat) (Option.some Jvm.ClassFile.FieldType.int)]
set_option maxRecDepth 65536 in
theorem codes_eq : words1.filter isCode = codes1 := rfl
theorem w_codes : ∀ c ∈ words1.filter isCode, c.before args0 about1 = true := by
  rw [codes_eq]
  intro c hc
  simp only [codes1, List.mem_cons, List.not_mem_nil, or_false] at hc
  rcases hc with rfl | rfl | rfl | rfl | rfl | rfl | rfl | rfl | rfl | rfl
  · exact w_c0
  · exact w_c1
  · exact w_c2
  · exact w_c3
  · exact w_c4
  · exact w_c5
  · exact w_c6
  · exact w_c7
  · exact w_c8
  · exact w_c9
set_option maxRecDepth 65536 in
theorem w_t1 : (words1.take 24).all (fun c => isCode c || c.before args0 about1) = true := by decide +kernel
set_option maxRecDepth 65536 in
theorem w_t2 : ((words1.drop 24).take 24).all (fun c => isCode c || c.before args0 about1) = true := by decide +kernel
set_option maxRecDepth 65536 in
theorem w_t3 : ((words1.drop 24).drop 24).all (fun c => isCode c || c.before args0 about1) = true := by decide +kernel
theorem w_tables : (allAtoms (Jvm.Cond.code x code maxLocals ret :: tables_1)).before args0 about1 = true := by
  rw [allAtoms_all]
  show words1.all (fun c => c.before args0 about1) = true
  refine all_split ?_ w_codes
  rw [← List.take_append_drop 24 words1, List.all_append, w_t1, ← List.take_append_drop 24 (words1.drop 24), List.all_append, w_t2, w_t3]
  rfl
set_option maxRecDepth 65536 in
theorem w_case : (Jvm.Cond.and given_1 narrow_1).before args0 about1 = true := by decide +kernel
theorem w_applies : (headSpec (Jvm.Cond.code x code maxLocals ret :: tables_1) room_1).applies x e0.platform about1 = true :=
  (Spec.applies_iff w_frames).mpr ⟨w_running, w_runnable, w_alone, w_named, w_hears, w_ripe, w_room, w_tables⟩
theorem atStart : AtStart classFile x code maxLocals ret World_1 tables_1 room_1 Calls_1 rest_1 Pre_1 launch0 p0 e0 about1 theMethod args0 below0 :=
  ⟨lists_1, trivial, launch0.admits_env _ _ _, launch0.least_env, fairChoices_fair.cas, fairChoices_fair.clock, w_frames, w_args, w_heap, w_applies, trivial, trivial, w_case⟩
end start1
theorem witness_1 : WitnessClaimed_1 := ⟨start1.p0, start1.e0, start1.about1, start1.theMethod, start1.args0, start1.below0, start1.atStart⟩
end Jvm.Pilot.@@N@@
