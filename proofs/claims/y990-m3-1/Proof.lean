import JvmDerived
import JvmDerived.Pilot.@@N@@Statement
import JvmDerived.Pilot.@@N@@Code
set_option linter.unusedVariables false
set_option linter.unusedSimpArgs false
namespace Jvm.RoadKit
open Sem ClassFile Op Lib Jvm.Stand Jvm.Free Jvm.LawKit
section New
variable {p : Program} {l : Launch} {e : Env} {R : Room} {s : State} {m : MethodId} {args : Array Value} {below : List Frame} {meth : Method} {c : Code} {T : State} {locs : List Loc} {cells slots : Nat}
theorem retI (X : Stand p l e R s m args below meth c T locs cells slots) (hx : p.tables.exec = Jvm.exec) {pc : Nat} {Ls : Array Slot} {z : Int32} {rest : List Value} (hret : meth.sig.returnType = some .int) (hd : decode c.code pc = .ok (.ireturn, 1)) {fs : List Frame}
    (hl : ∀ (f : JFrame) (acts : List Action), f.method = m → f.locked = none → f.entered = [] → (doReturn e (T.setTop f) acts (some (.int z))).1 = T.setFrames fs) : Steps p.tables e below (T.setTop (mkF m pc Ls (.int z :: rest))) (T.setFrames fs) := by
  have hm' : T.vm.method? m = some meth := X.method'
  have hn : narrow .int (.int z) = .int z := rfl
  show Steps p.tables e below (T.setTop { method := m, pc := pc, locals := Ls, stack := _ :: rest, locked := none }) _
  jvm_step X.here [X.here.top, hx, hd, hm', hret, hn]
  first | (intro acts; rw [hl _ acts rfl rfl rfl]) | rw [hl _ _ rfl rfl rfl]
  exact Steps.refl _
end New
end Jvm.RoadKit
namespace Jvm.Pilot.@@N@@
open Jvm Jvm.ClassFile Sem Op Lib Jvm.Free Jvm.Stand Jvm.LawKit Jvm.RoadKit Bundle Jvm.Pilot.@@N@@.Jvm.D
def Far (Z : State) (h : Heap) (a : Addr) (ty : FieldType) (n : Int32) (f : Nat → Int32) : Prop := ∃ c : Cell, Arr Z h a c ty ∧ c.slots.size = n.toNatClampNeg ∧ ¬ n < 0 ∧ ∀ k, k < c.slots.size → c.slots[k]? = some (.int (f k))
section FarLaws
variable {Z : State} {h h' : Heap} {a b : Addr} {ty : FieldType} {n : Int32} {f g : Nat → Int32} {sl : Nat} {v : Value} {ws : List Addr}
theorem Far.lt (F : Far Z h a ty n f) : a < h.size := by obtain ⟨c, A, -⟩ := F; exact A.lt
theorem Far.ext (F : Far Z h a ty n f) (E : Ext h h') : Far Z h' a ty n f := by obtain ⟨c, A, r⟩ := F; exact ⟨c, A.ext E, r⟩
theorem Far.other (F : Far Z h b ty n f) (W : Wr h h' a sl v) (q : b ≠ a) : Far Z h' b ty n f := by obtain ⟨c, A, r⟩ := F; exact ⟨c, A.other W q, r⟩
theorem Far.keep (F : Far Z h a ty n f) (K : Keep h h' ws) (q : a ∉ ws) : Far Z h' a ty n f := by obtain ⟨c, A, r⟩ := F; exact ⟨c, ⟨K.2.1 a c A.1 q, A.2⟩, r⟩
theorem Far.new {k : ClassId} (A : Arr Z h a (newA k ty n) ty) (q : ¬ n < 0) (hd : defaultValue ty = .int 0) : Far Z h a ty n (fun _ => 0) := ⟨_, A, sz_new _ _ _, q, fun i hi => by
  rw [sz_new] at hi
  simp [newA, hi, hd]⟩
theorem Far.congr (F : Far Z h a ty n f) (q : ∀ k, k < n.toNatClampNeg → f k = g k) : Far Z h a ty n g := by
  obtain ⟨c, A, S, M, H⟩ := F
  exact ⟨c, A, S, M, fun k hk => by rw [← q k (S ▸ hk)]; exact H k hk⟩
theorem Far.set {c : Cell} {j x : Int32} (A : Arr Z h a c ty) (S : c.slots.size = n.toNatClampNeg) (M : ¬ n < 0) (H : ∀ k, k < c.slots.size → c.slots[k]? = some (.int (f k))) (W : Wr h h' a j.toNatClampNeg (.int x)) : Far Z h' a ty n (fun k => if k = j.toNatClampNeg then x else f k) := by
  refine ⟨c.setSlot j.toNatClampNeg (.int x), A.same W, by rw [sz_set]; exact S, M, fun k hk => ?_⟩
  rw [sz_set] at hk
  show _ = some (Value.int (if k = j.toNatClampNeg then x else f k))
  by_cases e : k = j.toNatClampNeg
  · rw [if_pos e]; subst e; exact Cell.slots_setSlot_self _ hk
  · rw [if_neg e, Cell.slots_setSlot_ne _ (Ne.symm e)]; exact H k hk
theorem own_at {c : Cell} {j : Int32} (H : ∀ k, k < c.slots.size → c.slots[k]? = some (.int (f k))) (hin : ¬ (j < 0 ∨ c.slots.size ≤ j.toNatClampNeg)) : c.slots[j.toNatClampNeg]? = some (.int (f j.toNatClampNeg)) := H _ (Nat.lt_of_not_le fun q => hin (Or.inr q))
end FarLaws
theorem own_lt (a b : Int32) : a < b ↔ a.toInt < b.toInt := Int32.lt_iff_toInt_lt
theorem own_irr (n : Int32) : ¬ n < n := by rw [own_lt]; omega
theorem own_nat (j : Int32) (h : 0 ≤ j.toInt) : (j.toNatClampNeg : Int) = j.toInt := Int.toNat_of_nonneg h
theorem Far.put {Z : State} {h h' : Heap} {a : Addr} {ty : FieldType} {n : Int32} {f : Nat → Int32} {j x : Int32} (F : Far Z h a ty n f) (W : Wr h h' a j.toNatClampNeg (.int x)) : Far Z h' a ty n (fun k => if k = j.toNatClampNeg then x else f k) := by
  obtain ⟨c, A, S, M, H⟩ := F
  exact Far.set A S M H W
def RQ (Z : State) (h : Heap) (q b : Addr) (N hd sz : Int32) (g : Nat → Int32) : Prop := Exa Z h q "com/example/trips_into_trajectories/tripsintotrajectories/simulation/IntQueue" ∧ Fld Z h q "com/example/trips_into_trajectories/tripsintotrajectories/simulation/IntQueue" "items" "[I" (.ref b) ∧ Fld Z h q "com/example/trips_into_trajectories/tripsintotrajectories/simulation/IntQueue" "head" "I" (.int hd) ∧ Fld Z h q "com/example/trips_into_trajectories/tripsintotrajectories/simulation/IntQueue" "size" "I" (.int sz) ∧ Far Z h b .int N g ∧ q ≠ b
section RQLaws
variable {Z : State} {h h' : Heap} {q b b' a : Addr} {N N' hd sz x : Int32} {g g' : Nat → Int32} {sl : Nat} {v : Value}
theorem RQ.ext (R : RQ Z h q b N hd sz g) (E : Ext h h') : RQ Z h' q b N hd sz g := by
  obtain ⟨r1, r2, r3, r4, r5, r6⟩ := R
  exact ⟨r1.ext E, r2.ext E, r3.ext E, r4.ext E, r5.ext E, r6⟩
theorem RQ.other (R : RQ Z h q b N hd sz g) (W : Wr h h' a sl v) (n1 : q ≠ a) (n2 : b ≠ a) : RQ Z h' q b N hd sz g := by
  obtain ⟨r1, r2, r3, r4, r5, r6⟩ := R
  exact ⟨r1.wr W, r2.other W (Or.inl n1), r3.other W (Or.inl n1), r4.other W (Or.inl n1), r5.other W n2, r6⟩
theorem RQ.items (R : RQ Z h q b N hd sz g) (W : Wr h h' q (Jvm.RoadKit.slotOf Z "com/example/trips_into_trajectories/tripsintotrajectories/simulation/IntQueue" "items" "[I") (.ref b')) (F : Far Z h b' .int N' g') (n : q ≠ b') (s1 : Jvm.RoadKit.slotOf Z "com/example/trips_into_trajectories/tripsintotrajectories/simulation/IntQueue" "head" "I" ≠ Jvm.RoadKit.slotOf Z "com/example/trips_into_trajectories/tripsintotrajectories/simulation/IntQueue" "items" "[I") (s2 : Jvm.RoadKit.slotOf Z "com/example/trips_into_trajectories/tripsintotrajectories/simulation/IntQueue" "size" "I" ≠ Jvm.RoadKit.slotOf Z "com/example/trips_into_trajectories/tripsintotrajectories/simulation/IntQueue" "items" "[I") : RQ Z h' q b' N' hd sz g' := by
  obtain ⟨r1, r2, r3, r4, r5, r6⟩ := R
  exact ⟨r1.wr W, r2.same W, r3.other W (Or.inr s1), r4.other W (Or.inr s2), F.other W (Ne.symm n), n⟩
theorem RQ.head (R : RQ Z h q b N hd sz g) (W : Wr h h' q (Jvm.RoadKit.slotOf Z "com/example/trips_into_trajectories/tripsintotrajectories/simulation/IntQueue" "head" "I") (.int x)) (s1 : Jvm.RoadKit.slotOf Z "com/example/trips_into_trajectories/tripsintotrajectories/simulation/IntQueue" "items" "[I" ≠ Jvm.RoadKit.slotOf Z "com/example/trips_into_trajectories/tripsintotrajectories/simulation/IntQueue" "head" "I") (s2 : Jvm.RoadKit.slotOf Z "com/example/trips_into_trajectories/tripsintotrajectories/simulation/IntQueue" "size" "I" ≠ Jvm.RoadKit.slotOf Z "com/example/trips_into_trajectories/tripsintotrajectories/simulation/IntQueue" "head" "I") : RQ Z h' q b N x sz g := by
  obtain ⟨r1, r2, r3, r4, r5, r6⟩ := R
  exact ⟨r1.wr W, r2.other W (Or.inr s1), r3.same W, r4.other W (Or.inr s2), r5.other W (Ne.symm r6), r6⟩
theorem RQ.size (R : RQ Z h q b N hd sz g) (W : Wr h h' q (Jvm.RoadKit.slotOf Z "com/example/trips_into_trajectories/tripsintotrajectories/simulation/IntQueue" "size" "I") (.int x)) (s1 : Jvm.RoadKit.slotOf Z "com/example/trips_into_trajectories/tripsintotrajectories/simulation/IntQueue" "items" "[I" ≠ Jvm.RoadKit.slotOf Z "com/example/trips_into_trajectories/tripsintotrajectories/simulation/IntQueue" "size" "I") (s2 : Jvm.RoadKit.slotOf Z "com/example/trips_into_trajectories/tripsintotrajectories/simulation/IntQueue" "head" "I" ≠ Jvm.RoadKit.slotOf Z "com/example/trips_into_trajectories/tripsintotrajectories/simulation/IntQueue" "size" "I") : RQ Z h' q b N hd x g := by
  obtain ⟨r1, r2, r3, r4, r5, r6⟩ := R
  exact ⟨r1.wr W, r2.other W (Or.inr s1), r3.other W (Or.inr s2), r4.same W, r5.other W (Ne.symm r6), r6⟩
theorem RQ.elem {j : Int32} (R : RQ Z h q b N hd sz g) (W : Wr h h' b j.toNatClampNeg (.int x)) : RQ Z h' q b N hd sz (fun k => if k = j.toNatClampNeg then x else g k) := by
  obtain ⟨r1, r2, r3, r4, r5, r6⟩ := R
  exact ⟨r1.wr W, r2.other W (Or.inl r6), r3.other W (Or.inl r6), r4.other W (Or.inl r6), r5.put W, r6⟩
end RQLaws
def IQ (Z : State) (n0 : Nat) (h : Heap) (q : Addr) (sz : Nat) (el : Nat → Int32) : Prop := ∃ (b : Addr) (N hd szI : Int32) (g : Nat → Int32), RQ Z h q b N hd szI g ∧ n0 ≤ q ∧ n0 ≤ b ∧ (N = 4 ∨ N = 8) ∧ 0 ≤ hd.toInt ∧ hd.toInt < N.toInt ∧ szI.toInt = sz ∧ (sz : Int) ≤ N.toInt ∧ ∀ i : Nat, i < sz → g ((hd.toInt + i) % N.toInt).toNat = el i
theorem IQ.le {Z : State} {n0 : Nat} {h : Heap} {q : Addr} {sz : Nat} {el : Nat → Int32} (I : IQ Z n0 h q sz el) : n0 ≤ h.size := by
  obtain ⟨b, N, hd, szI, g, R, h1, -⟩ := I
  exact Nat.le_trans h1 (Nat.le_of_lt R.1.lt)
theorem IQ.exa {Z : State} {n0 : Nat} {h : Heap} {q : Addr} {sz : Nat} {el : Nat → Int32} (I : IQ Z n0 h q sz el) : Exa Z h q "com/example/trips_into_trajectories/tripsintotrajectories/simulation/IntQueue" := by
  obtain ⟨b, N, hd, szI, g, R, -⟩ := I
  exact R.1
theorem IQ.congr {Z : State} {n0 : Nat} {h : Heap} {q : Addr} {sz : Nat} {el el' : Nat → Int32} (I : IQ Z n0 h q sz el) (c : ∀ i, i < sz → el i = el' i) : IQ Z n0 h q sz el' := by
  obtain ⟨b, N, hd, szI, g, R, h1, h2, h3, h4, h5, h6, h7, h8⟩ := I
  exact ⟨b, N, hd, szI, g, R, h1, h2, h3, h4, h5, h6, h7, fun i hi => (h8 i hi).trans (c i hi)⟩
theorem IQ.next {Z : State} {n0 : Nat} {h : Heap} {q : Addr} {sz j : Nat} {md : Nat → Int32} {x : Int32} (I : IQ Z n0 h q (sz + 1) (fun i => if i = sz then x else md (i + j))) (hx : md (sz + j) = x) : IQ Z n0 h q (sz + 1) (fun i => md (i + j)) := I.congr fun i hi => by
  show (if i = sz then x else md (i + j)) = md (i + j)
  by_cases e : i = sz
  · rw [if_pos e, e, hx]
  · rw [if_neg e]
theorem IQ.less {Z : State} {n0 : Nat} {h : Heap} {q : Addr} {sz j : Nat} {md : Nat → Int32} (I : IQ Z n0 h q sz (fun i => md (i + 1 + j))) : IQ Z n0 h q sz (fun i => md (i + (j + 1))) := I.congr fun i hi => by
  show md (i + 1 + j) = md (i + (j + 1))
  rw [Nat.add_assoc, Nat.add_comm 1 j]
theorem IQ.keep {Z : State} {n0 : Nat} {h h' : Heap} {q : Addr} {sz : Nat} {el : Nat → Int32} {ws : List Addr} (I : IQ Z n0 h q sz el) (K : Keep h h' ws) (hf : ∀ x ∈ ws, h.size ≤ x) : IQ Z n0 h' q sz el := by
  obtain ⟨b, N, hd, szI, g, ⟨r1, r2, r3, r4, r5, r6⟩, r⟩ := I
  have nq : q ∉ ws := fun m => absurd (hf q m) (Nat.not_le.mpr r1.lt)
  have nb : b ∉ ws := fun m => absurd (hf b m) (Nat.not_le.mpr r5.lt)
  exact ⟨b, N, hd, szI, g, ⟨r1.keep K, r2.keep K nq, r3.keep K nq, r4.keep K nq, r5.keep K nb, r6⟩, r⟩
theorem own_N {N : Int32} (h : N = 4 ∨ N = 8) : (N.toInt = 4 ∨ N.toInt = 8) ∧ ¬ N < 0 ∧ N ≠ 0 := by rcases h with rfl | rfl <;> decide
theorem own_mod {N x : Int32} (h : N = 4 ∨ N = 8) (h0 : 0 ≤ x.toInt) : (x % N).toInt = x.toInt % N.toInt := (c_irem x N _ rfl).1 h0
theorem own_add {x y : Int32} (h0 : 0 ≤ x.toInt) (h1 : x.toInt ≤ 1000) (h2 : -1000 ≤ y.toInt) (h3 : y.toInt ≤ 1000) : (x + y).toInt = x.toInt + y.toInt := by
  have q := c_iadd x y
  have := rng32 (x + y)
  omega
theorem own_inj {a s i N : Int} (hN : N = 4 ∨ N = 8) (h1 : 0 ≤ i) (h2 : i < s) (h3 : s < N) (q : (a + i) % N = (a + s) % N) : False := by
  rcases hN with rfl | rfl <;> omega
theorem own_mods {N : Int32} (h : N = 4 ∨ N = 8) (x : Int) : 0 ≤ x % N.toInt ∧ x % N.toInt < N.toInt := by
  rcases (own_N h).1 with e | e <;> rw [e] <;> omega
theorem ne_head_items {Z : State} {a0 : Array Value} (hw : ∀ d ∈ tables_1, d.before a0 Z = true) : Jvm.RoadKit.slotOf Z "com/example/trips_into_trajectories/tripsintotrajectories/simulation/IntQueue" "head" "I" ≠ Jvm.RoadKit.slotOf Z "com/example/trips_into_trajectories/tripsintotrajectories/simulation/IntQueue" "items" "[I" := slot_ne (Or.inl (hw _ (List.mem_of_getElem? (i := 20) rfl))) (Or.inl (hw _ (List.mem_of_getElem? (i := 11) rfl))) (by decide) (t := .int) (t' := (.array .int)) (by decide) (by decide)
theorem ne_size_items {Z : State} {a0 : Array Value} (hw : ∀ d ∈ tables_1, d.before a0 Z = true) : Jvm.RoadKit.slotOf Z "com/example/trips_into_trajectories/tripsintotrajectories/simulation/IntQueue" "size" "I" ≠ Jvm.RoadKit.slotOf Z "com/example/trips_into_trajectories/tripsintotrajectories/simulation/IntQueue" "items" "[I" := slot_ne (Or.inl (hw _ (List.mem_of_getElem? (i := 18) rfl))) (Or.inl (hw _ (List.mem_of_getElem? (i := 11) rfl))) (by decide) (t := .int) (t' := (.array .int)) (by decide) (by decide)
theorem ne_items_head {Z : State} {a0 : Array Value} (hw : ∀ d ∈ tables_1, d.before a0 Z = true) : Jvm.RoadKit.slotOf Z "com/example/trips_into_trajectories/tripsintotrajectories/simulation/IntQueue" "items" "[I" ≠ Jvm.RoadKit.slotOf Z "com/example/trips_into_trajectories/tripsintotrajectories/simulation/IntQueue" "head" "I" := slot_ne (Or.inl (hw _ (List.mem_of_getElem? (i := 11) rfl))) (Or.inl (hw _ (List.mem_of_getElem? (i := 20) rfl))) (by decide) (t := (.array .int)) (t' := .int) (by decide) (by decide)
theorem ne_size_head {Z : State} {a0 : Array Value} (hw : ∀ d ∈ tables_1, d.before a0 Z = true) : Jvm.RoadKit.slotOf Z "com/example/trips_into_trajectories/tripsintotrajectories/simulation/IntQueue" "size" "I" ≠ Jvm.RoadKit.slotOf Z "com/example/trips_into_trajectories/tripsintotrajectories/simulation/IntQueue" "head" "I" := slot_ne (Or.inl (hw _ (List.mem_of_getElem? (i := 18) rfl))) (Or.inl (hw _ (List.mem_of_getElem? (i := 20) rfl))) (by decide) (t := .int) (t' := .int) (by decide) (by decide)
theorem ne_items_size {Z : State} {a0 : Array Value} (hw : ∀ d ∈ tables_1, d.before a0 Z = true) : Jvm.RoadKit.slotOf Z "com/example/trips_into_trajectories/tripsintotrajectories/simulation/IntQueue" "items" "[I" ≠ Jvm.RoadKit.slotOf Z "com/example/trips_into_trajectories/tripsintotrajectories/simulation/IntQueue" "size" "I" := slot_ne (Or.inl (hw _ (List.mem_of_getElem? (i := 11) rfl))) (Or.inl (hw _ (List.mem_of_getElem? (i := 18) rfl))) (by decide) (t := (.array .int)) (t' := .int) (by decide) (by decide)
theorem ne_head_size {Z : State} {a0 : Array Value} (hw : ∀ d ∈ tables_1, d.before a0 Z = true) : Jvm.RoadKit.slotOf Z "com/example/trips_into_trajectories/tripsintotrajectories/simulation/IntQueue" "head" "I" ≠ Jvm.RoadKit.slotOf Z "com/example/trips_into_trajectories/tripsintotrajectories/simulation/IntQueue" "size" "I" := slot_ne (Or.inl (hw _ (List.mem_of_getElem? (i := 20) rfl))) (Or.inl (hw _ (List.mem_of_getElem? (i := 18) rfl))) (by decide) (t := .int) (t' := .int) (by decide) (by decide)
theorem d1_0 : decode prog_47_method_1_code 0 = .ok (.aload_n 0, 1) := by decide +kernel
theorem d1_1 : decode prog_47_method_1_code 1 = .ok (.invokespecial 1, 3) := by decide +kernel
theorem d1_4 : decode prog_47_method_1_code 4 = .ok (.aload_n 0, 1) := by decide +kernel
theorem d1_5 : decode prog_47_method_1_code 5 = .ok (.iconst 4, 1) := by decide +kernel
theorem d1_6 : decode prog_47_method_1_code 6 = .ok (.newarray .int, 2) := by decide +kernel
theorem d1_8 : decode prog_47_method_1_code 8 = .ok (.putfield 7, 3) := by decide +kernel
theorem d1_11 : decode prog_47_method_1_code 11 = .ok (.return_, 1) := by decide +kernel
theorem pn_rmN : plainName "com/example/trips_into_trajectories/tripsintotrajectories/simulation/IntQueue" = true := by first | (simp [plainName, overriddenIn]; done) | decide +kernel
theorem ef_rmN (m : MethodId) (a1 : Addr) : entryFrame m #[(.ref a1)] 1 = (mkF m 0 #[.val (.ref a1)] []) := by first | (simp [entryFrame, mkF, argsToLocals, Value.category]; done) | rfl
def Q_rmN (Z : State) (a1 : Addr)  (h0 : Heap) (n0 : Nat) (v : Option Value) (h : Heap) (L : List Loc) : Prop := v = none ∧ Fr n0 L ∧ ∀ el, IQ Z n0 h a1 0 el
set_option maxRecDepth 65536 in
set_option maxHeartbeats 40000000 in
theorem rmN (l : Launch) (Z : State) (a0 : Array Value) (hw : ∀ d ∈ tables_1, d.before a0 Z = true) (ws : List Jvm.Cond) (a1 : Addr)  (h0 : Heap) (n0 : Nat) (Z0 : n0 ≤ h0.size) (E : Exa Z h0 a1 "com/example/trips_into_trajectories/tripsintotrajectories/simulation/IntQueue") (F1 : Fld Z h0 a1 "com/example/trips_into_trajectories/tripsintotrajectories/simulation/IntQueue" "items" "[I" .null) (F2 : Fld Z h0 a1 "com/example/trips_into_trajectories/tripsintotrajectories/simulation/IntQueue" "head" "I" (.int (0 : Int32))) (F3 : Fld Z h0 a1 "com/example/trips_into_trajectories/tripsintotrajectories/simulation/IntQueue" "size" "I" (.int (0 : Int32))) (g_a1 : n0 ≤ a1) :
    MetFree l (⟨"com/example/trips_into_trajectories/tripsintotrajectories/simulation/IntQueue", "<init>", "()V"⟩ : MethodName) (head1 (Jvm.Cond.code (⟨"com/example/trips_into_trajectories/tripsintotrajectories/simulation/IntQueue", "<init>", "()V"⟩ : MethodName) prog_47_method_1_code 1 none :: ws) ({ frames := 1, cells := 1, slots := 4, locals := 12 } : Room)) (fun a U => a = #[(.ref a1)] ∧ Z.Warmed39 U.vm ∧ U.heap = h0) (fun _ _ _ _ _ => True) (fun _ U o U' => ∃ v L, o = .returned v ∧ Q_rmN Z a1 h0 n0 v U'.heap L ∧ FrameEnd U o U' L ({ frames := 1, cells := 1, slots := 4, locals := 12 } : Room).cells ({ frames := 1, cells := 1, slots := 4, locals := 12 } : Room).slots) := by
  refine MetFree.of_bodySF (plainFor_of_name pn_rmN) hisR ?_
  intro p e s m args below meth c s₁ Bd hml0 hP hK
  obtain ⟨rfl, hZ, hh⟩ := hP
  have hx := Bd.exec
  have hby := Bd.bytes
  have hml : c.maxLocals = 1 := hml0
  have hown : s.vm.findClass "com/example/trips_into_trajectories/tripsintotrajectories/simulation/IntQueue" = some m.cls := findClass_of_methodNamed Bd.named
  have hnm := (name_of_methodNamed Bd.named Bd.method).1
  have X0 : Stand p l e ({ frames := 1, cells := 1, slots := 4, locals := 12 } : Room) s m #[(.ref a1)] below meth c s₁ [] 0 0 := Stand.of_body Bd
  have e0 : s₁.heap = h0 := by rw [← hh, Bd.state]; rfl
  have N0 := Fr.nil n0
  have pre0 : Steps p.tables e below (s₁.setTop (entryFrame m #[(.ref a1)] 1)) (s₁.setTop (mkF m 0 #[.val (.ref a1)] [])) := castTop (ef_rmN m a1) (Steps.refl _)
  have pre1 : Steps p.tables e below _ (s₁.setTop (mkF m 1 #[.val (.ref a1)] [(.ref a1)])) := pre0.trans (by
    show Steps p.tables e below (s₁.setTop (mkF m 0 #[.val (.ref a1)] [])) _
    refine XS.aloadN X0.here hx rfl (hb hby d1_0) rfl rfl ?_
    exact Steps.refl _)
  obtain ⟨T2, X2, e2, st2⟩ := initO X0 hx hZ hown (hw _ (List.mem_of_getElem? (i := 6) rfl)) (hw _ (List.mem_of_getElem? (i := 7) rfl)) (hw _ (List.mem_of_getElem? (i := 8) rfl)) e0 (g := (mkF m 1 #[.val (.ref a1)] [(.ref a1)])) rfl (by rw [hml]; rfl) rfl (hb hby d1_1) (by decide) (W := 0) (by show 2 * 0 + _ ≤ _; exact Nat.le_of_eq rfl) (by decide)
  have pre2 : Steps p.tables e below _ (T2.setTop (mkF m 4 #[.val (.ref a1)] [])) := pre1.trans (st2 _ (Steps.refl _))
  have pre3 : Steps p.tables e below _ (T2.setTop (mkF m 6 #[.val (.ref a1)] [(.int (4 : Int32)), (.ref a1)])) := pre2.trans (by
    show Steps p.tables e below (T2.setTop (mkF m 4 #[.val (.ref a1)] [])) _
    refine XS.aloadN X2.here hx rfl (hb hby d1_4) rfl rfl ?_
    show Steps p.tables e below (T2.setTop (mkF m 5 #[.val (.ref a1)] [(.ref a1)])) _
    refine XS.iconst X2.here hx rfl (hb hby d1_5) ?_
    exact Steps.refl _)
  obtain ⟨T4, h4, k4, X4, e4, E4, A4, st4⟩ := newP X2 hx hZ (hw _ (List.mem_of_getElem? (i := 9) rfl)) e2 (g := (mkF m 6 #[.val (.ref a1)] [(.int (4 : Int32)), (.ref a1)])) rfl (hb hby d1_6) rfl (by decide) (cap := 4) (by decide) (by decide) (by decide) (by decide)
  obtain ⟨b4, g4⟩ : ∃ z, z = h0.size := ⟨_, rfl⟩
  rw [← g4] at A4 st4
  have g_b4 : n0 ≤ b4 := Nat.le_trans Z0 (Nat.le_of_eq g4.symm)
  have lt_b4 : b4 < h4.size := A4.lt
  have V4 : Arv Z h4 b4 k4 .int (4 : Int32) [] (.int (0 : Int32)) := Arv.new A4 (by decide)
  have Z4 : n0 ≤ h4.size := Nat.le_trans Z0 E4.1
  have pre4 : Steps p.tables e below _ (T4.setTop (mkF m 8 #[.val (.ref a1)] [(.ref b4), (.ref a1)])) := pre3.trans (st4 _ (Steps.refl _))
  have FA : Far Z h4 b4 .int (4 : Int32) (fun _ => 0) := Far.new A4 (by decide) rfl
  have nq : a1 ≠ b4 := Nat.ne_of_lt (Nat.lt_of_lt_of_le E.lt (Nat.le_of_eq g4.symm))
  obtain ⟨T5, h5, X5, e5, W5, st5⟩ := putF X4 hx hZ hown (host := "") (Or.inl (hw _ (List.mem_of_getElem? (i := 10) rfl))) Via.refl e4 (F1.ext E4) (E.ext E4) (Or.inl (hw _ (List.mem_of_getElem? (i := 11) rfl))) (hw _ (List.mem_of_getElem? (i := 1) rfl)) (ty := (.array .int)) (by decide) rfl rfl (g := (mkF m 8 #[.val (.ref a1)] [(.ref b4), (.ref a1)])) rfl rfl (hb hby d1_8)
  have N5 := Fr.snoc X5 N0 g_a1
  have Z5 : n0 ≤ h5.size := Nat.le_trans Z4 (Keep.of_wr W5).1
  have pre5 : Steps p.tables e below _ (T5.setTop (mkF m 11 #[.val (.ref a1)] [])) := pre4.trans (st5 _ (Steps.refl _))
  have R : RQ Z h5 a1 b4 (4 : Int32) (0 : Int32) (0 : Int32) (fun _ => 0) := ⟨(E.ext E4).wr W5, (F1.ext E4).same W5, (F2.ext E4).other W5 (Or.inr (ne_head_items hw)), (F3.ext E4).other W5 (Or.inr (ne_size_items hw)), FA.other W5 (Ne.symm nq), nq⟩
  obtain ⟨fs, hr, hrun, hended, hW, hsame⟩ := X5.leave (v := none) (fun h => by rfl)
  refine ⟨_, _, pre5.trans ?_, hrun, hended, _, _, rfl, ?_, ⟨_, rfl⟩, hW, hsame.mono (by decide) (by decide)⟩
  · exact X5.returnOut hx Bd.returns (hb hby d1_11) hr
  · exact ⟨rfl, N5, fun el => by show IQ Z n0 T5.heap a1 0 el; rw [e5]; exact ⟨b4, 4, 0, 0, _, R, g_a1, g_b4, Or.inl rfl, by decide, by decide, rfl, by decide, fun i hi => absurd hi (Nat.not_lt_zero i)⟩⟩
theorem d5_0 : decode prog_47_method_3_code 0 = .ok (.aload_n 0, 1) := by decide +kernel
theorem d5_1 : decode prog_47_method_3_code 1 = .ok (.getfield 7, 3) := by decide +kernel
theorem d5_4 : decode prog_47_method_3_code 4 = .ok (.aload_n 0, 1) := by decide +kernel
theorem d5_5 : decode prog_47_method_3_code 5 = .ok (.getfield 21, 3) := by decide +kernel
theorem d5_8 : decode prog_47_method_3_code 8 = .ok (.iload_n 1, 1) := by decide +kernel
theorem d5_9 : decode prog_47_method_3_code 9 = .ok (.iadd, 1) := by decide +kernel
theorem d5_10 : decode prog_47_method_3_code 10 = .ok (.aload_n 0, 1) := by decide +kernel
theorem d5_11 : decode prog_47_method_3_code 11 = .ok (.getfield 7, 3) := by decide +kernel
theorem d5_14 : decode prog_47_method_3_code 14 = .ok (.arraylength, 1) := by decide +kernel
theorem d5_15 : decode prog_47_method_3_code 15 = .ok (.irem, 1) := by decide +kernel
theorem d5_16 : decode prog_47_method_3_code 16 = .ok (.iaload, 1) := by decide +kernel
theorem d5_17 : decode prog_47_method_3_code 17 = .ok (.ireturn, 1) := by decide +kernel
theorem pn_rmG : plainName "com/example/trips_into_trajectories/tripsintotrajectories/simulation/IntQueue" = true := by first | (simp [plainName, overriddenIn]; done) | decide +kernel
theorem ef_rmG (m : MethodId) (a1 : Addr) (p2 : Int32) : entryFrame m #[(.ref a1), (.int p2)] 2 = (mkF m 0 #[.val (.ref a1), .val (.int p2)] []) := by first | (simp [entryFrame, mkF, argsToLocals, Value.category]; done) | rfl
def Q_rmG (Z : State) (a1 : Addr) (p2 : Int32) (b : Addr) (N hd sz : Int32) (g : Nat → Int32) (h0 : Heap) (n0 : Nat) (v : Option Value) (h : Heap) (L : List Loc) : Prop := v = some (.int (g ((hd.toInt + p2.toInt) % N.toInt).toNat)) ∧ Fr n0 L ∧ h = h0
set_option maxRecDepth 65536 in
set_option maxHeartbeats 40000000 in
theorem rmG (l : Launch) (Z : State) (a0 : Array Value) (hw : ∀ d ∈ tables_1, d.before a0 Z = true) (ws : List Jvm.Cond) (a1 : Addr) (p2 : Int32) (b : Addr) (N hd sz : Int32) (g : Nat → Int32) (h0 : Heap) (n0 : Nat) (Z0 : n0 ≤ h0.size) (R : RQ Z h0 a1 b N hd sz g) (hN : N = 4 ∨ N = 8) (hd0 : 0 ≤ hd.toInt) (hd1 : hd.toInt < N.toInt) (hp : 0 ≤ p2.toInt ∧ p2.toInt < 8) :
    MetFree l (⟨"com/example/trips_into_trajectories/tripsintotrajectories/simulation/IntQueue", "get", "(I)I"⟩ : MethodName) (head1 (Jvm.Cond.code (⟨"com/example/trips_into_trajectories/tripsintotrajectories/simulation/IntQueue", "get", "(I)I"⟩ : MethodName) prog_47_method_3_code 2 (some .int) :: ws) ({ frames := 0, cells := 0, slots := 0, locals := 0 } : Room)) (fun a U => a = #[(.ref a1), (.int p2)] ∧ Z.Warmed39 U.vm ∧ U.heap = h0) (fun _ _ _ _ _ => True) (fun _ U o U' => ∃ v L, o = .returned v ∧ Q_rmG Z a1 p2 b N hd sz g h0 n0 v U'.heap L ∧ FrameEnd U o U' L ({ frames := 0, cells := 0, slots := 0, locals := 0 } : Room).cells ({ frames := 0, cells := 0, slots := 0, locals := 0 } : Room).slots) := by
  refine MetFree.of_bodySF (plainFor_of_name pn_rmG) hisR ?_
  intro p e s m args below meth c s₁ Bd hml0 hP hK
  obtain ⟨rfl, hZ, hh⟩ := hP
  have hx := Bd.exec
  have hby := Bd.bytes
  have hml : c.maxLocals = 2 := hml0
  have hown : s.vm.findClass "com/example/trips_into_trajectories/tripsintotrajectories/simulation/IntQueue" = some m.cls := findClass_of_methodNamed Bd.named
  have hnm := (name_of_methodNamed Bd.named Bd.method).1
  have X0 : Stand p l e ({ frames := 0, cells := 0, slots := 0, locals := 0 } : Room) s m #[(.ref a1), (.int p2)] below meth c s₁ [] 0 0 := Stand.of_body Bd
  have e0 : s₁.heap = h0 := by rw [← hh, Bd.state]; rfl
  have N0 := Fr.nil n0
  have pre0 : Steps p.tables e below (s₁.setTop (entryFrame m #[(.ref a1), (.int p2)] 2)) (s₁.setTop (mkF m 0 #[.val (.ref a1), .val (.int p2)] [])) := castTop (ef_rmG m a1 p2) (Steps.refl _)
  obtain ⟨r1, r2, r3, r4, r5, r6⟩ := id R
  obtain ⟨cl, Ar, S, M, H⟩ := id r5
  obtain ⟨nn1, nn2, nn3⟩ := own_N hN
  have pre1 : Steps p.tables e below _ (s₁.setTop (mkF m 1 #[.val (.ref a1), .val (.int p2)] [(.ref a1)])) := pre0.trans (by
    show Steps p.tables e below (s₁.setTop (mkF m 0 #[.val (.ref a1), .val (.int p2)] [])) _
    refine XS.aloadN X0.here hx rfl (hb hby d5_0) rfl rfl ?_
    exact Steps.refl _)
  obtain ⟨T2, X2, e2, st2⟩ := getF X0 hx hZ hown (host := "") (Or.inl (hw _ (List.mem_of_getElem? (i := 10) rfl))) Via.refl e0 r2 (g := (mkF m 1 #[.val (.ref a1), .val (.int p2)] [(.ref a1)])) rfl rfl (hb hby d5_1)
  have pre2 : Steps p.tables e below _ (T2.setTop (mkF m 4 #[.val (.ref a1), .val (.int p2)] [(.ref b)])) := pre1.trans (st2 _ (Steps.refl _))
  have pre3 : Steps p.tables e below _ (T2.setTop (mkF m 5 #[.val (.ref a1), .val (.int p2)] [(.ref a1), (.ref b)])) := pre2.trans (by
    show Steps p.tables e below (T2.setTop (mkF m 4 #[.val (.ref a1), .val (.int p2)] [(.ref b)])) _
    refine XS.aloadN X2.here hx rfl (hb hby d5_4) rfl rfl ?_
    exact Steps.refl _)
  obtain ⟨T4, X4, e4, st4⟩ := getF X2 hx hZ hown (host := "") (Or.inl (hw _ (List.mem_of_getElem? (i := 19) rfl))) Via.refl e2 r3 (g := (mkF m 5 #[.val (.ref a1), .val (.int p2)] [(.ref a1), (.ref b)])) rfl rfl (hb hby d5_5)
  have pre4 : Steps p.tables e below _ (T4.setTop (mkF m 8 #[.val (.ref a1), .val (.int p2)] [(.int hd), (.ref b)])) := pre3.trans (st4 _ (Steps.refl _))
  have pre5 : Steps p.tables e below _ (T4.setTop (mkF m 11 #[.val (.ref a1), .val (.int p2)] [(.ref a1), (.int (hd + p2)), (.ref b)])) := pre4.trans (by
    show Steps p.tables e below (T4.setTop (mkF m 8 #[.val (.ref a1), .val (.int p2)] [(.int hd), (.ref b)])) _
    refine XS.iloadN X4.here hx rfl (hb hby d5_8) rfl ?_
    show Steps p.tables e below (T4.setTop (mkF m 9 #[.val (.ref a1), .val (.int p2)] [(.int p2), (.int hd), (.ref b)])) _
    refine XS.iadd X4.here hx rfl (hb hby d5_9) rfl ?_
    show Steps p.tables e below (T4.setTop (mkF m 10 #[.val (.ref a1), .val (.int p2)] [(.int (hd + p2)), (.ref b)])) _
    refine XS.aloadN X4.here hx rfl (hb hby d5_10) rfl rfl ?_
    exact Steps.refl _)
  obtain ⟨T6, X6, e6, st6⟩ := getF X4 hx hZ hown (host := "") (Or.inl (hw _ (List.mem_of_getElem? (i := 10) rfl))) Via.refl e4 r2 (g := (mkF m 11 #[.val (.ref a1), .val (.int p2)] [(.ref a1), (.int (hd + p2)), (.ref b)])) rfl rfl (hb hby d5_11)
  have pre6 : Steps p.tables e below _ (T6.setTop (mkF m 14 #[.val (.ref a1), .val (.int p2)] [(.ref b), (.int (hd + p2)), (.ref b)])) := pre5.trans (st6 _ (Steps.refl _))
  have pre7 : Steps p.tables e below _ (T6.setTop (mkF m 16 #[.val (.ref a1), .val (.int p2)] [(.int ((hd + p2) % N)), (.ref b)])) := pre6.trans (by
    show Steps p.tables e below (T6.setTop (mkF m 14 #[.val (.ref a1), .val (.int p2)] [(.ref b), (.int (hd + p2)), (.ref b)])) _
    refine X6.arraylength hx (by rw [e6]; exact Ar.1) (State.isArrayOf_alike hZ.alike Ar.2.1) (g := (mkF m 14 #[.val (.ref a1), .val (.int p2)] [(.ref b), (.int (hd + p2)), (.ref b)])) rfl rfl (hb hby d5_14) _ ?_
    rw [len_of S M]
    show Steps p.tables e below (T6.setTop (mkF m 15 #[.val (.ref a1), .val (.int p2)] [(.int N), (.int (hd + p2)), (.ref b)])) _
    refine iremM X6 hx rfl (hb hby d5_15) rfl nn3 ?_
    exact Steps.refl _)
  obtain ⟨j, h_j⟩ : ∃ z, z = ((hd + p2) % N) := ⟨_, rfl⟩
  rw [← h_j] at pre7
  have hj : j.toInt = (hd.toInt + p2.toInt) % N.toInt := by rw [h_j, own_mod hN (by rw [own_add hd0 (by omega) (by omega) (by omega)]; omega), own_add hd0 (by omega) (by omega) (by omega)]
  have hj2 := own_mods hN (hd.toInt + p2.toInt)
  have hin : ¬ (j < 0 ∨ cl.slots.size ≤ j.toNatClampNeg) := inb_of S ⟨by rw [own_lt]; have e : (0 : Int32).toInt = 0 := rfl; omega, by rw [own_lt]; omega⟩
  have hat : cl.slots[j.toNatClampNeg]? = some (.int (g ((hd.toInt + p2.toInt) % N.toInt).toNat)) := by rw [← hj]; exact own_at H hin
  have pre8 : Steps p.tables e below _ (T6.setTop (mkF m 17 #[.val (.ref a1), .val (.int p2)] [(.int (g ((hd.toInt + p2.toInt) % N.toInt).toNat))])) := pre7.trans (by
    show Steps p.tables e below (T6.setTop (mkF m 16 #[.val (.ref a1), .val (.int p2)] [(.int j), (.ref b)])) _
    refine X6.iaload hx (j := j) (v := (.int (g ((hd.toInt + p2.toInt) % N.toInt).toNat))) (by rw [e6]; exact Ar.1) (State.isArrayOf_alike hZ.alike Ar.2.1) Ar.2.2 hin hat (g := (mkF m 16 #[.val (.ref a1), .val (.int p2)] [(.int j), (.ref b)])) rfl rfl (hb hby d5_16) _ ?_
    exact Steps.refl _)
  obtain ⟨fs, hr, hrun, hended, hW, hsame⟩ := X6.leave (v := some (.int (g ((hd.toInt + p2.toInt) % N.toInt).toNat))) (fun h => by rw [Bd.returns] at h; cases h)
  refine ⟨_, _, pre8.trans ?_, hrun, hended, _, _, rfl, ?_, ⟨_, rfl⟩, hW, hsame.mono (by decide) (by decide)⟩
  · exact retI X6 hx Bd.returns (hb hby d5_17) hr
  · exact ⟨rfl, N0, e6⟩
theorem d4_0 : decode prog_47_method_4_code 0 = .ok (.aload_n 0, 1) := by decide +kernel
theorem d4_1 : decode prog_47_method_4_code 1 = .ok (.getfield 7, 3) := by decide +kernel
theorem d4_4 : decode prog_47_method_4_code 4 = .ok (.aload_n 0, 1) := by decide +kernel
theorem d4_5 : decode prog_47_method_4_code 5 = .ok (.getfield 21, 3) := by decide +kernel
theorem d4_8 : decode prog_47_method_4_code 8 = .ok (.iaload, 1) := by decide +kernel
theorem d4_9 : decode prog_47_method_4_code 9 = .ok (.istore_n 1, 1) := by decide +kernel
theorem d4_10 : decode prog_47_method_4_code 10 = .ok (.aload_n 0, 1) := by decide +kernel
theorem d4_11 : decode prog_47_method_4_code 11 = .ok (.aload_n 0, 1) := by decide +kernel
theorem d4_12 : decode prog_47_method_4_code 12 = .ok (.getfield 21, 3) := by decide +kernel
theorem d4_15 : decode prog_47_method_4_code 15 = .ok (.iconst 1, 1) := by decide +kernel
theorem d4_16 : decode prog_47_method_4_code 16 = .ok (.iadd, 1) := by decide +kernel
theorem d4_17 : decode prog_47_method_4_code 17 = .ok (.aload_n 0, 1) := by decide +kernel
theorem d4_18 : decode prog_47_method_4_code 18 = .ok (.getfield 7, 3) := by decide +kernel
theorem d4_21 : decode prog_47_method_4_code 21 = .ok (.arraylength, 1) := by decide +kernel
theorem d4_22 : decode prog_47_method_4_code 22 = .ok (.irem, 1) := by decide +kernel
theorem d4_23 : decode prog_47_method_4_code 23 = .ok (.putfield 21, 3) := by decide +kernel
theorem d4_26 : decode prog_47_method_4_code 26 = .ok (.aload_n 0, 1) := by decide +kernel
theorem d4_27 : decode prog_47_method_4_code 27 = .ok (.dup, 1) := by decide +kernel
theorem d4_28 : decode prog_47_method_4_code 28 = .ok (.getfield 13, 3) := by decide +kernel
theorem d4_31 : decode prog_47_method_4_code 31 = .ok (.iconst 1, 1) := by decide +kernel
theorem d4_32 : decode prog_47_method_4_code 32 = .ok (.isub, 1) := by decide +kernel
theorem d4_33 : decode prog_47_method_4_code 33 = .ok (.putfield 13, 3) := by decide +kernel
theorem d4_36 : decode prog_47_method_4_code 36 = .ok (.iload_n 1, 1) := by decide +kernel
theorem d4_37 : decode prog_47_method_4_code 37 = .ok (.ireturn, 1) := by decide +kernel
theorem pn_rmP : plainName "com/example/trips_into_trajectories/tripsintotrajectories/simulation/IntQueue" = true := by first | (simp [plainName, overriddenIn]; done) | decide +kernel
theorem ef_rmP (m : MethodId) (a1 : Addr) : entryFrame m #[(.ref a1)] 2 = (mkF m 0 #[.val (.ref a1), .unset] []) := by first | (simp [entryFrame, mkF, argsToLocals, Value.category]; done) | rfl
def Q_rmP (Z : State) (a1 : Addr) (sz : Nat) (el : Nat → Int32) (h0 : Heap) (n0 : Nat) (v : Option Value) (h : Heap) (L : List Loc) : Prop := v = some (.int (el 0)) ∧ Fr n0 L ∧ IQ Z n0 h a1 sz (fun i => el (i + 1))
set_option maxRecDepth 65536 in
set_option maxHeartbeats 40000000 in
theorem rmP (l : Launch) (Z : State) (a0 : Array Value) (hw : ∀ d ∈ tables_1, d.before a0 Z = true) (ws : List Jvm.Cond) (a1 : Addr) (sz : Nat) (el : Nat → Int32) (h0 : Heap) (n0 : Nat) (Z0 : n0 ≤ h0.size) (I : IQ Z n0 h0 a1 (sz + 1) el) :
    MetFree l (⟨"com/example/trips_into_trajectories/tripsintotrajectories/simulation/IntQueue", "poll", "()I"⟩ : MethodName) (head1 (Jvm.Cond.code (⟨"com/example/trips_into_trajectories/tripsintotrajectories/simulation/IntQueue", "poll", "()I"⟩ : MethodName) prog_47_method_4_code 2 (some .int) :: ws) ({ frames := 0, cells := 0, slots := 0, locals := 0 } : Room)) (fun a U => a = #[(.ref a1)] ∧ Z.Warmed39 U.vm ∧ U.heap = h0) (fun _ _ _ _ _ => True) (fun _ U o U' => ∃ v L, o = .returned v ∧ Q_rmP Z a1 sz el h0 n0 v U'.heap L ∧ FrameEnd U o U' L ({ frames := 0, cells := 0, slots := 0, locals := 0 } : Room).cells ({ frames := 0, cells := 0, slots := 0, locals := 0 } : Room).slots) := by
  refine MetFree.of_bodySF (plainFor_of_name pn_rmP) hisR ?_
  intro p e s m args below meth c s₁ Bd hml0 hP hK
  obtain ⟨rfl, hZ, hh⟩ := hP
  have hx := Bd.exec
  have hby := Bd.bytes
  have hml : c.maxLocals = 2 := hml0
  have hown : s.vm.findClass "com/example/trips_into_trajectories/tripsintotrajectories/simulation/IntQueue" = some m.cls := findClass_of_methodNamed Bd.named
  have hnm := (name_of_methodNamed Bd.named Bd.method).1
  have X0 : Stand p l e ({ frames := 0, cells := 0, slots := 0, locals := 0 } : Room) s m #[(.ref a1)] below meth c s₁ [] 0 0 := Stand.of_body Bd
  have e0 : s₁.heap = h0 := by rw [← hh, Bd.state]; rfl
  have N0 := Fr.nil n0
  have pre0 : Steps p.tables e below (s₁.setTop (entryFrame m #[(.ref a1)] 2)) (s₁.setTop (mkF m 0 #[.val (.ref a1), .unset] [])) := castTop (ef_rmP m a1) (Steps.refl _)
  obtain ⟨b, N, hd, szI, g, R, g_a1, h2, hN, hd0, hd1, h6, h7, h8⟩ := I
  obtain ⟨r1, r2, r3, r4, r5, r6⟩ := id R
  obtain ⟨cl, Ar, S, M, H⟩ := id r5
  obtain ⟨nn1, nn2, nn3⟩ := own_N hN
  have pre1 : Steps p.tables e below _ (s₁.setTop (mkF m 1 #[.val (.ref a1), .unset] [(.ref a1)])) := pre0.trans (by
    show Steps p.tables e below (s₁.setTop (mkF m 0 #[.val (.ref a1), .unset] [])) _
    refine XS.aloadN X0.here hx rfl (hb hby d4_0) rfl rfl ?_
    exact Steps.refl _)
  obtain ⟨T2, X2, e2, st2⟩ := getF X0 hx hZ hown (host := "") (Or.inl (hw _ (List.mem_of_getElem? (i := 10) rfl))) Via.refl e0 r2 (g := (mkF m 1 #[.val (.ref a1), .unset] [(.ref a1)])) rfl rfl (hb hby d4_1)
  have pre2 : Steps p.tables e below _ (T2.setTop (mkF m 4 #[.val (.ref a1), .unset] [(.ref b)])) := pre1.trans (st2 _ (Steps.refl _))
  have pre3 : Steps p.tables e below _ (T2.setTop (mkF m 5 #[.val (.ref a1), .unset] [(.ref a1), (.ref b)])) := pre2.trans (by
    show Steps p.tables e below (T2.setTop (mkF m 4 #[.val (.ref a1), .unset] [(.ref b)])) _
    refine XS.aloadN X2.here hx rfl (hb hby d4_4) rfl rfl ?_
    exact Steps.refl _)
  obtain ⟨T4, X4, e4, st4⟩ := getF X2 hx hZ hown (host := "") (Or.inl (hw _ (List.mem_of_getElem? (i := 19) rfl))) Via.refl e2 r3 (g := (mkF m 5 #[.val (.ref a1), .unset] [(.ref a1), (.ref b)])) rfl rfl (hb hby d4_5)
  have pre4 : Steps p.tables e below _ (T4.setTop (mkF m 8 #[.val (.ref a1), .unset] [(.int hd), (.ref b)])) := pre3.trans (st4 _ (Steps.refl _))
  have hin : ¬ (hd < 0 ∨ cl.slots.size ≤ hd.toNatClampNeg) := inb_of S ⟨by rw [own_lt]; have e : (0 : Int32).toInt = 0 := rfl; omega, by rw [own_lt]; omega⟩
  have hat : cl.slots[hd.toNatClampNeg]? = some (.int (el 0)) := by
    have q1 : (hd.toInt + ((0 : Nat) : Int)) % N.toInt = hd.toInt := by rw [show hd.toInt + ((0 : Nat) : Int) = hd.toInt by omega]; exact Int.emod_eq_of_lt hd0 hd1
    have q2 := h8 0 (Nat.succ_pos sz)
    rw [q1] at q2; rw [← q2]; exact own_at H hin
  have pre5 : Steps p.tables e below _ (T4.setTop (mkF m 12 #[.val (.ref a1), .val (.int (el 0))] [(.ref a1), (.ref a1)])) := pre4.trans (by
    show Steps p.tables e below (T4.setTop (mkF m 8 #[.val (.ref a1), .unset] [(.int hd), (.ref b)])) _
    refine X4.iaload hx (j := hd) (v := (.int (el 0))) (by rw [e4]; exact Ar.1) (State.isArrayOf_alike hZ.alike Ar.2.1) Ar.2.2 hin hat (g := (mkF m 8 #[.val (.ref a1), .unset] [(.int hd), (.ref b)])) rfl rfl (hb hby d4_8) _ ?_
    show Steps p.tables e below (T4.setTop (mkF m 9 #[.val (.ref a1), .unset] [(.int (el 0))])) _
    refine XS.istoreN X4.here hx rfl (hb hby d4_9) rfl (l' := #[.val (.ref a1), .val (.int (el 0))]) rfl ?_
    show Steps p.tables e below (T4.setTop (mkF m 10 #[.val (.ref a1), .val (.int (el 0))] [])) _
    refine XS.aloadN X4.here hx rfl (hb hby d4_10) rfl rfl ?_
    show Steps p.tables e below (T4.setTop (mkF m 11 #[.val (.ref a1), .val (.int (el 0))] [(.ref a1)])) _
    refine XS.aloadN X4.here hx rfl (hb hby d4_11) rfl rfl ?_
    exact Steps.refl _)
  obtain ⟨T6, X6, e6, st6⟩ := getF X4 hx hZ hown (host := "") (Or.inl (hw _ (List.mem_of_getElem? (i := 19) rfl))) Via.refl e4 r3 (g := (mkF m 12 #[.val (.ref a1), .val (.int (el 0))] [(.ref a1), (.ref a1)])) rfl rfl (hb hby d4_12)
  have pre6 : Steps p.tables e below _ (T6.setTop (mkF m 15 #[.val (.ref a1), .val (.int (el 0))] [(.int hd), (.ref a1)])) := pre5.trans (st6 _ (Steps.refl _))
  have pre7 : Steps p.tables e below _ (T6.setTop (mkF m 18 #[.val (.ref a1), .val (.int (el 0))] [(.ref a1), (.int (hd + (1 : Int32))), (.ref a1)])) := pre6.trans (by
    show Steps p.tables e below (T6.setTop (mkF m 15 #[.val (.ref a1), .val (.int (el 0))] [(.int hd), (.ref a1)])) _
    refine XS.iconst X6.here hx rfl (hb hby d4_15) ?_
    show Steps p.tables e below (T6.setTop (mkF m 16 #[.val (.ref a1), .val (.int (el 0))] [(.int (1 : Int32)), (.int hd), (.ref a1)])) _
    refine XS.iadd X6.here hx rfl (hb hby d4_16) rfl ?_
    show Steps p.tables e below (T6.setTop (mkF m 17 #[.val (.ref a1), .val (.int (el 0))] [(.int (hd + (1 : Int32))), (.ref a1)])) _
    refine XS.aloadN X6.here hx rfl (hb hby d4_17) rfl rfl ?_
    exact Steps.refl _)
  obtain ⟨T8, X8, e8, st8⟩ := getF X6 hx hZ hown (host := "") (Or.inl (hw _ (List.mem_of_getElem? (i := 10) rfl))) Via.refl e6 r2 (g := (mkF m 18 #[.val (.ref a1), .val (.int (el 0))] [(.ref a1), (.int (hd + (1 : Int32))), (.ref a1)])) rfl rfl (hb hby d4_18)
  have pre8 : Steps p.tables e below _ (T8.setTop (mkF m 21 #[.val (.ref a1), .val (.int (el 0))] [(.ref b), (.int (hd + (1 : Int32))), (.ref a1)])) := pre7.trans (st8 _ (Steps.refl _))
  have pre9 : Steps p.tables e below _ (T8.setTop (mkF m 23 #[.val (.ref a1), .val (.int (el 0))] [(.int ((hd + (1 : Int32)) % N)), (.ref a1)])) := pre8.trans (by
    show Steps p.tables e below (T8.setTop (mkF m 21 #[.val (.ref a1), .val (.int (el 0))] [(.ref b), (.int (hd + (1 : Int32))), (.ref a1)])) _
    refine X8.arraylength hx (by rw [e8]; exact Ar.1) (State.isArrayOf_alike hZ.alike Ar.2.1) (g := (mkF m 21 #[.val (.ref a1), .val (.int (el 0))] [(.ref b), (.int (hd + (1 : Int32))), (.ref a1)])) rfl rfl (hb hby d4_21) _ ?_
    rw [len_of S M]
    show Steps p.tables e below (T8.setTop (mkF m 22 #[.val (.ref a1), .val (.int (el 0))] [(.int N), (.int (hd + (1 : Int32))), (.ref a1)])) _
    refine iremM X8 hx rfl (hb hby d4_22) rfl nn3 ?_
    exact Steps.refl _)
  obtain ⟨j, h_j⟩ : ∃ z, z = ((hd + (1 : Int32)) % N) := ⟨_, rfl⟩
  rw [← h_j] at pre9
  have e1 : (1 : Int32).toInt = 1 := rfl
  have hj : j.toInt = (hd.toInt + 1) % N.toInt := by rw [h_j, own_mod hN (by rw [own_add hd0 (by omega) (by omega) (by omega), e1]; omega), own_add hd0 (by omega) (by omega) (by omega), e1]
  have hj2 := own_mods hN (hd.toInt + 1)
  obtain ⟨T10, h10, X10, e10, W10, st10⟩ := putF X8 hx hZ hown (host := "") (Or.inl (hw _ (List.mem_of_getElem? (i := 19) rfl))) Via.refl e8 r3 r1 (Or.inl (hw _ (List.mem_of_getElem? (i := 20) rfl))) (hw _ (List.mem_of_getElem? (i := 1) rfl)) (ty := .int) (by decide) rfl rfl (g := (mkF m 23 #[.val (.ref a1), .val (.int (el 0))] [(.int j), (.ref a1)])) rfl rfl (hb hby d4_23)
  have N10 := Fr.snoc X10 N0 g_a1
  have Z10 : n0 ≤ h10.size := Nat.le_trans Z0 (Keep.of_wr W10).1
  have pre10 : Steps p.tables e below _ (T10.setTop (mkF m 26 #[.val (.ref a1), .val (.int (el 0))] [])) := pre9.trans (st10 _ (Steps.refl _))
  have R1 : RQ Z h10 a1 b N j szI g := RQ.head R W10 (ne_items_head hw) (ne_size_head hw)
  have pre11 : Steps p.tables e below _ (T10.setTop (mkF m 28 #[.val (.ref a1), .val (.int (el 0))] [(.ref a1), (.ref a1)])) := pre10.trans (by
    show Steps p.tables e below (T10.setTop (mkF m 26 #[.val (.ref a1), .val (.int (el 0))] [])) _
    refine XS.aloadN X10.here hx rfl (hb hby d4_26) rfl rfl ?_
    show Steps p.tables e below (T10.setTop (mkF m 27 #[.val (.ref a1), .val (.int (el 0))] [(.ref a1)])) _
    refine XS.dup X10.here hx rfl (hb hby d4_27) rfl rfl ?_
    exact Steps.refl _)
  obtain ⟨T12, X12, e12, st12⟩ := getF X10 hx hZ hown (host := "") (Or.inl (hw _ (List.mem_of_getElem? (i := 17) rfl))) Via.refl e10 R1.2.2.2.1 (g := (mkF m 28 #[.val (.ref a1), .val (.int (el 0))] [(.ref a1), (.ref a1)])) rfl rfl (hb hby d4_28)
  have pre12 : Steps p.tables e below _ (T12.setTop (mkF m 31 #[.val (.ref a1), .val (.int (el 0))] [(.int szI), (.ref a1)])) := pre11.trans (st12 _ (Steps.refl _))
  have pre13 : Steps p.tables e below _ (T12.setTop (mkF m 33 #[.val (.ref a1), .val (.int (el 0))] [(.int (szI - (1 : Int32))), (.ref a1)])) := pre12.trans (by
    show Steps p.tables e below (T12.setTop (mkF m 31 #[.val (.ref a1), .val (.int (el 0))] [(.int szI), (.ref a1)])) _
    refine XS.iconst X12.here hx rfl (hb hby d4_31) ?_
    show Steps p.tables e below (T12.setTop (mkF m 32 #[.val (.ref a1), .val (.int (el 0))] [(.int (1 : Int32)), (.int szI), (.ref a1)])) _
    refine XS.isub X12.here hx rfl (hb hby d4_32) rfl ?_
    exact Steps.refl _)
  obtain ⟨z, h_z⟩ : ∃ z, z = (szI - (1 : Int32)) := ⟨_, rfl⟩
  rw [← h_z] at pre13
  have hz : z.toInt = sz := by have q := c_isub szI 1; rw [← h_z, e1] at q; have := rng32 z; omega
  obtain ⟨T14, h14, X14, e14, W14, st14⟩ := putF X12 hx hZ hown (host := "") (Or.inl (hw _ (List.mem_of_getElem? (i := 17) rfl))) Via.refl e12 R1.2.2.2.1 R1.1 (Or.inl (hw _ (List.mem_of_getElem? (i := 18) rfl))) (hw _ (List.mem_of_getElem? (i := 1) rfl)) (ty := .int) (by decide) rfl rfl (g := (mkF m 33 #[.val (.ref a1), .val (.int (el 0))] [(.int z), (.ref a1)])) rfl rfl (hb hby d4_33)
  have N14 := Fr.snoc X14 N10 g_a1
  have Z14 : n0 ≤ h14.size := Nat.le_trans Z10 (Keep.of_wr W14).1
  have pre14 : Steps p.tables e below _ (T14.setTop (mkF m 36 #[.val (.ref a1), .val (.int (el 0))] [])) := pre13.trans (st14 _ (Steps.refl _))
  have R2 : RQ Z h14 a1 b N j z g := RQ.size R1 W14 (ne_items_size hw) (ne_head_size hw)
  have I2 : IQ Z n0 h14 a1 sz (fun i => el (i + 1)) := ⟨b, N, j, z, g, R2, g_a1, h2, hN, by omega, by omega, hz, by omega, fun i hi => by
    have q := h8 (i + 1) (by omega)
    show g ((j.toInt + (i : Int)) % N.toInt).toNat = el (i + 1)
    rw [← q]
    have e : (j.toInt + (i : Int)) % N.toInt = (hd.toInt + ((i + 1 : Nat) : Int)) % N.toInt := by
      rw [hj, Int.emod_add_emod]; congr 1; omega
    rw [e]⟩
  have pre15 : Steps p.tables e below _ (T14.setTop (mkF m 37 #[.val (.ref a1), .val (.int (el 0))] [(.int (el 0))])) := pre14.trans (by
    show Steps p.tables e below (T14.setTop (mkF m 36 #[.val (.ref a1), .val (.int (el 0))] [])) _
    refine XS.iloadN X14.here hx rfl (hb hby d4_36) rfl ?_
    exact Steps.refl _)
  obtain ⟨fs, hr, hrun, hended, hW, hsame⟩ := X14.leave (v := some (.int (el 0))) (fun h => by rw [Bd.returns] at h; cases h)
  refine ⟨_, _, pre15.trans ?_, hrun, hended, _, _, rfl, ?_, ⟨_, rfl⟩, hW, hsame.mono (by decide) (by decide)⟩
  · exact retI X14 hx Bd.returns (hb hby d4_37) hr
  · exact ⟨rfl, N14, by show IQ Z n0 T14.heap a1 sz _; rw [e14]; exact I2⟩
theorem d3_0 : decode prog_47_method_2_code 0 = .ok (.aload_n 0, 1) := by decide +kernel
theorem d3_1 : decode prog_47_method_2_code 1 = .ok (.getfield 13, 3) := by decide +kernel
theorem d3_4 : decode prog_47_method_2_code 4 = .ok (.aload_n 0, 1) := by decide +kernel
theorem d3_5 : decode prog_47_method_2_code 5 = .ok (.getfield 7, 3) := by decide +kernel
theorem d3_8 : decode prog_47_method_2_code 8 = .ok (.arraylength, 1) := by decide +kernel
theorem d3_9 : decode prog_47_method_2_code 9 = .ok (.if_icmp .ne 47, 3) := by decide +kernel
theorem d3_12 : decode prog_47_method_2_code 12 = .ok (.aload_n 0, 1) := by decide +kernel
theorem d3_13 : decode prog_47_method_2_code 13 = .ok (.getfield 7, 3) := by decide +kernel
theorem d3_16 : decode prog_47_method_2_code 16 = .ok (.arraylength, 1) := by decide +kernel
theorem d3_17 : decode prog_47_method_2_code 17 = .ok (.iconst 2, 1) := by decide +kernel
theorem d3_18 : decode prog_47_method_2_code 18 = .ok (.imul, 1) := by decide +kernel
theorem d3_19 : decode prog_47_method_2_code 19 = .ok (.newarray .int, 2) := by decide +kernel
theorem d3_21 : decode prog_47_method_2_code 21 = .ok (.astore_n 2, 1) := by decide +kernel
theorem d3_22 : decode prog_47_method_2_code 22 = .ok (.iconst 0, 1) := by decide +kernel
theorem d3_23 : decode prog_47_method_2_code 23 = .ok (.istore_n 3, 1) := by decide +kernel
theorem d3_24 : decode prog_47_method_2_code 24 = .ok (.iload_n 3, 1) := by decide +kernel
theorem d3_25 : decode prog_47_method_2_code 25 = .ok (.aload_n 0, 1) := by decide +kernel
theorem d3_26 : decode prog_47_method_2_code 26 = .ok (.getfield 13, 3) := by decide +kernel
theorem d3_29 : decode prog_47_method_2_code 29 = .ok (.if_icmp .ge 17, 3) := by decide +kernel
theorem d3_32 : decode prog_47_method_2_code 32 = .ok (.aload_n 2, 1) := by decide +kernel
theorem d3_33 : decode prog_47_method_2_code 33 = .ok (.iload_n 3, 1) := by decide +kernel
theorem d3_34 : decode prog_47_method_2_code 34 = .ok (.aload_n 0, 1) := by decide +kernel
theorem d3_35 : decode prog_47_method_2_code 35 = .ok (.iload_n 3, 1) := by decide +kernel
theorem d3_36 : decode prog_47_method_2_code 36 = .ok (.invokevirtual 17, 3) := by decide +kernel
theorem d3_39 : decode prog_47_method_2_code 39 = .ok (.iastore, 1) := by decide +kernel
theorem d3_40 : decode prog_47_method_2_code 40 = .ok (.iinc 3 1, 3) := by decide +kernel
theorem d3_43 : decode prog_47_method_2_code 43 = .ok (.goto (-19), 3) := by decide +kernel
theorem d3_46 : decode prog_47_method_2_code 46 = .ok (.aload_n 0, 1) := by decide +kernel
theorem d3_47 : decode prog_47_method_2_code 47 = .ok (.aload_n 2, 1) := by decide +kernel
theorem d3_48 : decode prog_47_method_2_code 48 = .ok (.putfield 7, 3) := by decide +kernel
theorem d3_51 : decode prog_47_method_2_code 51 = .ok (.aload_n 0, 1) := by decide +kernel
theorem d3_52 : decode prog_47_method_2_code 52 = .ok (.iconst 0, 1) := by decide +kernel
theorem d3_53 : decode prog_47_method_2_code 53 = .ok (.putfield 21, 3) := by decide +kernel
theorem d3_56 : decode prog_47_method_2_code 56 = .ok (.aload_n 0, 1) := by decide +kernel
theorem d3_57 : decode prog_47_method_2_code 57 = .ok (.getfield 7, 3) := by decide +kernel
theorem d3_60 : decode prog_47_method_2_code 60 = .ok (.aload_n 0, 1) := by decide +kernel
theorem d3_61 : decode prog_47_method_2_code 61 = .ok (.getfield 21, 3) := by decide +kernel
theorem d3_64 : decode prog_47_method_2_code 64 = .ok (.aload_n 0, 1) := by decide +kernel
theorem d3_65 : decode prog_47_method_2_code 65 = .ok (.getfield 13, 3) := by decide +kernel
theorem d3_68 : decode prog_47_method_2_code 68 = .ok (.iadd, 1) := by decide +kernel
theorem d3_69 : decode prog_47_method_2_code 69 = .ok (.aload_n 0, 1) := by decide +kernel
theorem d3_70 : decode prog_47_method_2_code 70 = .ok (.getfield 7, 3) := by decide +kernel
theorem d3_73 : decode prog_47_method_2_code 73 = .ok (.arraylength, 1) := by decide +kernel
theorem d3_74 : decode prog_47_method_2_code 74 = .ok (.irem, 1) := by decide +kernel
theorem d3_75 : decode prog_47_method_2_code 75 = .ok (.iload_n 1, 1) := by decide +kernel
theorem d3_76 : decode prog_47_method_2_code 76 = .ok (.iastore, 1) := by decide +kernel
theorem d3_77 : decode prog_47_method_2_code 77 = .ok (.aload_n 0, 1) := by decide +kernel
theorem d3_78 : decode prog_47_method_2_code 78 = .ok (.dup, 1) := by decide +kernel
theorem d3_79 : decode prog_47_method_2_code 79 = .ok (.getfield 13, 3) := by decide +kernel
theorem d3_82 : decode prog_47_method_2_code 82 = .ok (.iconst 1, 1) := by decide +kernel
theorem d3_83 : decode prog_47_method_2_code 83 = .ok (.iadd, 1) := by decide +kernel
theorem d3_84 : decode prog_47_method_2_code 84 = .ok (.putfield 13, 3) := by decide +kernel
theorem d3_87 : decode prog_47_method_2_code 87 = .ok (.return_, 1) := by decide +kernel
theorem pn_rmD : plainName "com/example/trips_into_trajectories/tripsintotrajectories/simulation/IntQueue" = true := by first | (simp [plainName, overriddenIn]; done) | decide +kernel
theorem pd_rmD_0 : parseMethodDescriptor "(I)I" = some ⟨[.int], some .int⟩ := by decide +kernel
theorem ef_rmD (m : MethodId) (a1 : Addr) (p2 : Int32) : entryFrame m #[(.ref a1), (.int p2)] 4 = (mkF m 0 #[.val (.ref a1), .val (.int p2), .unset, .unset] []) := by first | (simp [entryFrame, mkF, argsToLocals, Value.category]; done) | rfl
def Q_rmD (Z : State) (a1 : Addr) (p2 : Int32) (sz : Nat) (el : Nat → Int32) (h0 : Heap) (n0 : Nat) (v : Option Value) (h : Heap) (L : List Loc) : Prop := v = none ∧ Fr n0 L ∧ IQ Z n0 h a1 (sz + 1) (fun i => if i = sz then p2 else el i)
set_option maxRecDepth 65536 in
set_option maxHeartbeats 40000000 in
theorem rmD (l : Launch) (Z : State) (a0 : Array Value) (hw : ∀ d ∈ tables_1, d.before a0 Z = true) (ws : List Jvm.Cond) (a1 : Addr) (p2 : Int32) (sz : Nat) (el : Nat → Int32) (h0 : Heap) (n0 : Nat) (Z0 : n0 ≤ h0.size) (I : IQ Z n0 h0 a1 sz el) (hs : sz < 8) :
    MetFree l (⟨"com/example/trips_into_trajectories/tripsintotrajectories/simulation/IntQueue", "add", "(I)V"⟩ : MethodName) (head1 (Jvm.Cond.code (⟨"com/example/trips_into_trajectories/tripsintotrajectories/simulation/IntQueue", "add", "(I)V"⟩ : MethodName) prog_47_method_2_code 4 none :: ws) ({ frames := 1, cells := 1, slots := 8, locals := 15 } : Room)) (fun a U => a = #[(.ref a1), (.int p2)] ∧ Z.Warmed39 U.vm ∧ U.heap = h0) (fun _ _ _ _ _ => True) (fun _ U o U' => ∃ v L, o = .returned v ∧ Q_rmD Z a1 p2 sz el h0 n0 v U'.heap L ∧ FrameEnd U o U' L ({ frames := 1, cells := 1, slots := 8, locals := 15 } : Room).cells ({ frames := 1, cells := 1, slots := 8, locals := 15 } : Room).slots) := by
  refine MetFree.of_bodySF (plainFor_of_name pn_rmD) hisR ?_
  intro p e s m args below meth c s₁ Bd hml0 hP hK
  obtain ⟨rfl, hZ, hh⟩ := hP
  have hx := Bd.exec
  have hby := Bd.bytes
  have hml : c.maxLocals = 4 := hml0
  have hown : s.vm.findClass "com/example/trips_into_trajectories/tripsintotrajectories/simulation/IntQueue" = some m.cls := findClass_of_methodNamed Bd.named
  have hnm := (name_of_methodNamed Bd.named Bd.method).1
  have X0 : Stand p l e ({ frames := 1, cells := 1, slots := 8, locals := 15 } : Room) s m #[(.ref a1), (.int p2)] below meth c s₁ [] 0 0 := Stand.of_body Bd
  have e0 : s₁.heap = h0 := by rw [← hh, Bd.state]; rfl
  have N0 := Fr.nil n0
  have pre0 : Steps p.tables e below (s₁.setTop (entryFrame m #[(.ref a1), (.int p2)] 4)) (s₁.setTop (mkF m 0 #[.val (.ref a1), .val (.int p2), .unset, .unset] [])) := castTop (ef_rmD m a1 p2) (Steps.refl _)
  obtain ⟨b, N, hd, szI, g, R, g_a1, g_b, hN, hd0, hd1, h6, h7, h8⟩ := I
  obtain ⟨r1, r2, r3, r4, r5, r6⟩ := id R
  obtain ⟨cl, Ar, S, M, H⟩ := id r5
  obtain ⟨nn1, nn2, nn3⟩ := own_N hN
  have e00 : (0 : Int32).toInt = 0 := rfl
  have e1 : (1 : Int32).toInt = 1 := rfl
  have pre1 : Steps p.tables e below _ (s₁.setTop (mkF m 1 #[.val (.ref a1), .val (.int p2), .unset, .unset] [(.ref a1)])) := pre0.trans (by
    show Steps p.tables e below (s₁.setTop (mkF m 0 #[.val (.ref a1), .val (.int p2), .unset, .unset] [])) _
    refine XS.aloadN X0.here hx rfl (hb hby d3_0) rfl rfl ?_
    exact Steps.refl _)
  obtain ⟨T2, X2, e2, st2⟩ := getF X0 hx hZ hown (host := "") (Or.inl (hw _ (List.mem_of_getElem? (i := 17) rfl))) Via.refl e0 r4 (g := (mkF m 1 #[.val (.ref a1), .val (.int p2), .unset, .unset] [(.ref a1)])) rfl rfl (hb hby d3_1)
  have pre2 : Steps p.tables e below _ (T2.setTop (mkF m 4 #[.val (.ref a1), .val (.int p2), .unset, .unset] [(.int szI)])) := pre1.trans (st2 _ (Steps.refl _))
  have pre3 : Steps p.tables e below _ (T2.setTop (mkF m 5 #[.val (.ref a1), .val (.int p2), .unset, .unset] [(.ref a1), (.int szI)])) := pre2.trans (by
    show Steps p.tables e below (T2.setTop (mkF m 4 #[.val (.ref a1), .val (.int p2), .unset, .unset] [(.int szI)])) _
    refine XS.aloadN X2.here hx rfl (hb hby d3_4) rfl rfl ?_
    exact Steps.refl _)
  obtain ⟨T4, X4, e4, st4⟩ := getF X2 hx hZ hown (host := "") (Or.inl (hw _ (List.mem_of_getElem? (i := 10) rfl))) Via.refl e2 r2 (g := (mkF m 5 #[.val (.ref a1), .val (.int p2), .unset, .unset] [(.ref a1), (.int szI)])) rfl rfl (hb hby d3_5)
  have pre4 : Steps p.tables e below _ (T4.setTop (mkF m 8 #[.val (.ref a1), .val (.int p2), .unset, .unset] [(.ref b), (.int szI)])) := pre3.trans (st4 _ (Steps.refl _))
  have pre5 : Steps p.tables e below _ (T4.setTop (mkF m 9 #[.val (.ref a1), .val (.int p2), .unset, .unset] [(.int N), (.int szI)])) := pre4.trans (by
    show Steps p.tables e below (T4.setTop (mkF m 8 #[.val (.ref a1), .val (.int p2), .unset, .unset] [(.ref b), (.int szI)])) _
    refine X4.arraylength hx (by rw [e4]; exact Ar.1) (State.isArrayOf_alike hZ.alike Ar.2.1) (g := (mkF m 8 #[.val (.ref a1), .val (.int p2), .unset, .unset] [(.ref b), (.int szI)])) rfl rfl (hb hby d3_8) _ ?_
    rw [len_of S M]
    exact Steps.refl _)
  obtain ⟨T5, l5, sa, sb, b', N', hd', g', X5, N5, R5, gb5, hN5, hd50, hd51, hsz5, hel5, pre5⟩ : ∃ (T5 : State) (l5 : List Loc) (sa sb : Slot) (b' : Addr) (N' hd' : Int32) (g' : Nat → Int32), Stand p l e ({ frames := 1, cells := 1, slots := 8, locals := 15 } : Room) s m #[(.ref a1), (.int p2)] below meth c T5 l5 1 8 ∧ Fr n0 l5 ∧ RQ Z T5.heap a1 b' N' hd' szI g' ∧ n0 ≤ b' ∧ (N' = 4 ∨ N' = 8) ∧ 0 ≤ hd'.toInt ∧ hd'.toInt < N'.toInt ∧ szI.toInt < N'.toInt ∧ (∀ i : Nat, i < sz → g' ((hd'.toInt + i) % N'.toInt).toNat = el i) ∧ Steps p.tables e below (s₁.setTop (entryFrame m #[(.ref a1), (.int p2)] 4)) (T5.setTop (mkF m 56 #[.val (.ref a1), .val (.int p2), sa, sb] [])) := by
    rcases (Decidable.em (szI = N)).symm with h | h
    · have h9 := h
      have hne : szI.toInt ≠ N.toInt := fun q => h9 (Int32.toInt_inj.mp q)
      have pre6 : Steps p.tables e below _ (T4.setTop (mkF m 56 #[.val (.ref a1), .val (.int p2), .unset, .unset] [])) := pre5.trans (by
        show Steps p.tables e below (T4.setTop (mkF m 9 #[.val (.ref a1), .val (.int p2), .unset, .unset] [(.int N), (.int szI)])) _
        refine XS.icmpYes X4.here hx rfl (pc0 := 9) (pc' := 56) rfl (hb hby d3_9) rfl (feq h9).2 (by decide) (by decide) ?_
        exact Steps.refl _)
      exact ⟨T4, [], _, _, b, N, hd, g, X4.more (by decide) (by decide), N0, by rw [e4]; exact R, g_b, hN, hd0, hd1, by omega, h8, pre6⟩
    · have h9 := h
      have h4 : N = 4 := by rcases hN with q | q; exact q; exact absurd (show szI.toInt = 8 by rw [h9, q]; rfl) (by omega)
      have pre7 : Steps p.tables e below _ (T4.setTop (mkF m 13 #[.val (.ref a1), .val (.int p2), .unset, .unset] [(.ref a1)])) := pre5.trans (by
        show Steps p.tables e below (T4.setTop (mkF m 9 #[.val (.ref a1), .val (.int p2), .unset, .unset] [(.int N), (.int szI)])) _
        refine XS.icmpNo X4.here hx rfl (hb hby d3_9) rfl (teq h9).2 ?_
        show Steps p.tables e below (T4.setTop (mkF m 12 #[.val (.ref a1), .val (.int p2), .unset, .unset] [])) _
        refine XS.aloadN X4.here hx rfl (hb hby d3_12) rfl rfl ?_
        exact Steps.refl _)
      obtain ⟨T8, X8, e8, st8⟩ := getF X4 hx hZ hown (host := "") (Or.inl (hw _ (List.mem_of_getElem? (i := 10) rfl))) Via.refl e4 r2 (g := (mkF m 13 #[.val (.ref a1), .val (.int p2), .unset, .unset] [(.ref a1)])) rfl rfl (hb hby d3_13)
      have pre8 : Steps p.tables e below _ (T8.setTop (mkF m 16 #[.val (.ref a1), .val (.int p2), .unset, .unset] [(.ref b)])) := pre7.trans (st8 _ (Steps.refl _))
      have pre9 : Steps p.tables e below _ (T8.setTop (mkF m 19 #[.val (.ref a1), .val (.int p2), .unset, .unset] [(.int (N * (2 : Int32)))])) := pre8.trans (by
        show Steps p.tables e below (T8.setTop (mkF m 16 #[.val (.ref a1), .val (.int p2), .unset, .unset] [(.ref b)])) _
        refine X8.arraylength hx (by rw [e8]; exact Ar.1) (State.isArrayOf_alike hZ.alike Ar.2.1) (g := (mkF m 16 #[.val (.ref a1), .val (.int p2), .unset, .unset] [(.ref b)])) rfl rfl (hb hby d3_16) _ ?_
        rw [len_of S M]
        show Steps p.tables e below (T8.setTop (mkF m 17 #[.val (.ref a1), .val (.int p2), .unset, .unset] [(.int N)])) _
        refine XS.iconst X8.here hx rfl (hb hby d3_17) ?_
        show Steps p.tables e below (T8.setTop (mkF m 18 #[.val (.ref a1), .val (.int p2), .unset, .unset] [(.int (2 : Int32)), (.int N)])) _
        refine XS.imul X8.here hx rfl (hb hby d3_18) rfl ?_
        exact Steps.refl _)
      have h82 : N * (2 : Int32) = 8 := by rw [h4]; decide
      rw [h82] at pre9
      obtain ⟨T10, h10, k10, X10, e10, E10, A10, st10⟩ := newP X8 hx hZ (hw _ (List.mem_of_getElem? (i := 9) rfl)) e8 (g := (mkF m 19 #[.val (.ref a1), .val (.int p2), .unset, .unset] [(.int (8 : Int32))])) rfl (hb hby d3_19) rfl (by decide) (cap := 8) (by decide) (by decide) (by decide) (by decide)
      obtain ⟨nb, g10⟩ : ∃ z, z = h0.size := ⟨_, rfl⟩
      rw [← g10] at A10 st10
      have g_nb : n0 ≤ nb := Nat.le_trans Z0 (Nat.le_of_eq g10.symm)
      have lt_nb : nb < h10.size := A10.lt
      have V10 : Arv Z h10 nb k10 .int (8 : Int32) [] (.int (0 : Int32)) := Arv.new A10 (by decide)
      have Z10 : n0 ≤ h10.size := Nat.le_trans Z0 E10.1
      have pre10 : Steps p.tables e below _ (T10.setTop (mkF m 21 #[.val (.ref a1), .val (.int p2), .unset, .unset] [(.ref nb)])) := pre9.trans (st10 _ (Steps.refl _))
      have FA : Far Z h10 nb .int (8 : Int32) (fun _ => 0) := Far.new A10 (by decide) rfl
      have RE : RQ Z h10 a1 b N hd szI g := RQ.ext R E10
      have nq : a1 ≠ nb := Nat.ne_of_lt (Nat.lt_of_lt_of_le r1.lt (Nat.le_of_eq g10.symm))
      have nb_ : b ≠ nb := Nat.ne_of_lt (Nat.lt_of_lt_of_le r5.lt (Nat.le_of_eq g10.symm))
      have pre11 : Steps p.tables e below _ (T10.setTop (mkF m 24 #[.val (.ref a1), .val (.int p2), .val (.ref nb), .val (.int (0 : Int32))] [])) := pre10.trans (by
        show Steps p.tables e below (T10.setTop (mkF m 21 #[.val (.ref a1), .val (.int p2), .unset, .unset] [(.ref nb)])) _
        refine XS.astoreN X10.here hx rfl (hb hby d3_21) rfl rfl (l' := #[.val (.ref a1), .val (.int p2), .val (.ref nb), .unset]) rfl ?_
        show Steps p.tables e below (T10.setTop (mkF m 22 #[.val (.ref a1), .val (.int p2), .val (.ref nb), .unset] [])) _
        refine XS.iconst X10.here hx rfl (hb hby d3_22) ?_
        show Steps p.tables e below (T10.setTop (mkF m 23 #[.val (.ref a1), .val (.int p2), .val (.ref nb), .unset] [(.int (0 : Int32))])) _
        refine XS.istoreN X10.here hx rfl (hb hby d3_23) rfl (l' := #[.val (.ref a1), .val (.int p2), .val (.ref nb), .val (.int (0 : Int32))]) rfl ?_
        exact Steps.refl _)
      have hs0 : szI.toInt = 4 := by rw [h9, h4]; rfl
      have loop : ∀ (k : Nat) (i : Int32) (T : State) (locs : List Loc) (gn : Nat → Int32), Stand p l e ({ frames := 1, cells := 1, slots := 8, locals := 15 } : Room) s m #[(.ref a1), (.int p2)] below meth c T locs 1 8 → Fr n0 locs → RQ Z T.heap a1 b N hd szI g → Far Z T.heap nb .int (8 : Int32) gn → 0 ≤ i.toInt → i.toInt + k = 4 → (∀ j : Nat, (j : Int) < i.toInt → gn j = el j) →
          ∃ (T' : State) (locs' : List Loc) (gn' : Nat → Int32), Stand p l e ({ frames := 1, cells := 1, slots := 8, locals := 15 } : Room) s m #[(.ref a1), (.int p2)] below meth c T' locs' 1 8 ∧ Fr n0 locs' ∧ RQ Z T'.heap a1 b N hd szI g ∧ Far Z T'.heap nb .int (8 : Int32) gn' ∧ (∀ j : Nat, (j : Int) < 4 → gn' j = el j) ∧ Steps p.tables e below (T.setTop (mkF m 24 #[.val (.ref a1), .val (.int p2), .val (.ref nb), .val (.int i)] [])) (T'.setTop (mkF m 46 #[.val (.ref a1), .val (.int p2), .val (.ref nb), .val (.int szI)] [])) := by
        intro k
        induction k with
        | zero =>
          intro i T locs gn X Nf R F i0 ik hg
          have hi : szI = i := Int32.toInt_inj.mp (by omega)
          subst hi
          have preL : Steps p.tables e below (T.setTop (mkF m 24 #[.val (.ref a1), .val (.int p2), .val (.ref nb), .val (.int szI)] [])) (T.setTop (mkF m 24 #[.val (.ref a1), .val (.int p2), .val (.ref nb), .val (.int szI)] [])) := Steps.refl _
          have pre12 : Steps p.tables e below _ (T.setTop (mkF m 26 #[.val (.ref a1), .val (.int p2), .val (.ref nb), .val (.int szI)] [(.ref a1), (.int szI)])) := preL.trans (by
            show Steps p.tables e below (T.setTop (mkF m 24 #[.val (.ref a1), .val (.int p2), .val (.ref nb), .val (.int szI)] [])) _
            refine XS.iloadN X.here hx rfl (hb hby d3_24) rfl ?_
            show Steps p.tables e below (T.setTop (mkF m 25 #[.val (.ref a1), .val (.int p2), .val (.ref nb), .val (.int szI)] [(.int szI)])) _
            refine XS.aloadN X.here hx rfl (hb hby d3_25) rfl rfl ?_
            exact Steps.refl _)
          obtain ⟨T13, X13, e13, st13⟩ := getF X hx hZ hown (host := "") (Or.inl (hw _ (List.mem_of_getElem? (i := 17) rfl))) Via.refl (rfl : T.heap = T.heap) R.2.2.2.1 (g := (mkF m 26 #[.val (.ref a1), .val (.int p2), .val (.ref nb), .val (.int szI)] [(.ref a1), (.int szI)])) rfl rfl (hb hby d3_26)
          have pre13 : Steps p.tables e below _ (T13.setTop (mkF m 29 #[.val (.ref a1), .val (.int p2), .val (.ref nb), .val (.int szI)] [(.int szI), (.int szI)])) := pre12.trans (st13 _ (Steps.refl _))
          have pre14 : Steps p.tables e below _ (T13.setTop (mkF m 46 #[.val (.ref a1), .val (.int p2), .val (.ref nb), .val (.int szI)] [])) := pre13.trans (by
            show Steps p.tables e below (T13.setTop (mkF m 29 #[.val (.ref a1), .val (.int p2), .val (.ref nb), .val (.int szI)] [(.int szI), (.int szI)])) _
            refine XS.icmpYes X13.here hx rfl (pc0 := 29) (pc' := 46) rfl (hb hby d3_29) rfl (flt (own_irr szI)).2.1 (by decide) (by decide) ?_
            exact Steps.refl _)
          exact ⟨T13, locs, gn, X13, Nf, by rw [e13]; exact R, by rw [e13]; exact F, fun j hj => hg j (by omega), pre14⟩
        | succ k ih =>
          intro i T locs gn X Nf R F i0 ik hg
          have preL : Steps p.tables e below (T.setTop (mkF m 24 #[.val (.ref a1), .val (.int p2), .val (.ref nb), .val (.int i)] [])) (T.setTop (mkF m 24 #[.val (.ref a1), .val (.int p2), .val (.ref nb), .val (.int i)] [])) := Steps.refl _
          have hlt : i < szI := by rw [own_lt]; omega
          have ZT : n0 ≤ T.heap.size := Nat.le_trans g_a1 (Nat.le_of_lt R.1.lt)
          have pre15 : Steps p.tables e below _ (T.setTop (mkF m 26 #[.val (.ref a1), .val (.int p2), .val (.ref nb), .val (.int i)] [(.ref a1), (.int i)])) := preL.trans (by
            show Steps p.tables e below (T.setTop (mkF m 24 #[.val (.ref a1), .val (.int p2), .val (.ref nb), .val (.int i)] [])) _
            refine XS.iloadN X.here hx rfl (hb hby d3_24) rfl ?_
            show Steps p.tables e below (T.setTop (mkF m 25 #[.val (.ref a1), .val (.int p2), .val (.ref nb), .val (.int i)] [(.int i)])) _
            refine XS.aloadN X.here hx rfl (hb hby d3_25) rfl rfl ?_
            exact Steps.refl _)
          obtain ⟨T16, X16, e16, st16⟩ := getF X hx hZ hown (host := "") (Or.inl (hw _ (List.mem_of_getElem? (i := 17) rfl))) Via.refl (rfl : T.heap = T.heap) R.2.2.2.1 (g := (mkF m 26 #[.val (.ref a1), .val (.int p2), .val (.ref nb), .val (.int i)] [(.ref a1), (.int i)])) rfl rfl (hb hby d3_26)
          have pre16 : Steps p.tables e below _ (T16.setTop (mkF m 29 #[.val (.ref a1), .val (.int p2), .val (.ref nb), .val (.int i)] [(.int szI), (.int i)])) := pre15.trans (st16 _ (Steps.refl _))
          have pre17 : Steps p.tables e below _ (T16.setTop (mkF m 36 #[.val (.ref a1), .val (.int p2), .val (.ref nb), .val (.int i)] [(.int i), (.ref a1), (.int i), (.ref nb)])) := pre16.trans (by
            show Steps p.tables e below (T16.setTop (mkF m 29 #[.val (.ref a1), .val (.int p2), .val (.ref nb), .val (.int i)] [(.int szI), (.int i)])) _
            refine XS.icmpNo X16.here hx rfl (hb hby d3_29) rfl (tlt hlt).2.1 ?_
            show Steps p.tables e below (T16.setTop (mkF m 32 #[.val (.ref a1), .val (.int p2), .val (.ref nb), .val (.int i)] [])) _
            refine XS.aloadN X16.here hx rfl (hb hby d3_32) rfl rfl ?_
            show Steps p.tables e below (T16.setTop (mkF m 33 #[.val (.ref a1), .val (.int p2), .val (.ref nb), .val (.int i)] [(.ref nb)])) _
            refine XS.iloadN X16.here hx rfl (hb hby d3_33) rfl ?_
            show Steps p.tables e below (T16.setTop (mkF m 34 #[.val (.ref a1), .val (.int p2), .val (.ref nb), .val (.int i)] [(.int i), (.ref nb)])) _
            refine XS.aloadN X16.here hx rfl (hb hby d3_34) rfl rfl ?_
            show Steps p.tables e below (T16.setTop (mkF m 35 #[.val (.ref a1), .val (.int p2), .val (.ref nb), .val (.int i)] [(.ref a1), (.int i), (.ref nb)])) _
            refine XS.iloadN X16.here hx rfl (hb hby d3_35) rfl ?_
            exact Steps.refl _)
          obtain ⟨cq18, kq18, q18a, q18b, q18c⟩ := isOf hZ e16 R.1
          obtain ⟨_, _, ⟨T18, L18, k18, n18⟩, -, X18, ⟨Lc18, hQ18, l18, y18, z18⟩, st18⟩ := X16.virtualBack hx (y := (⟨"com/example/trips_into_trajectories/tripsintotrajectories/simulation/IntQueue", "get", "(I)I"⟩ : MethodName)) (z := (⟨"com/example/trips_into_trajectories/tripsintotrajectories/simulation/IntQueue", "get", "(I)I"⟩ : MethodName)) hown (mvT hZ (hw _ (List.mem_of_getElem? (i := 31) rfl))) (mvT hZ (hw _ (List.mem_of_getElem? (i := 27) rfl))) (notFace_of_selects (args := #[]) (mvT hZ (hw _ (List.mem_of_getElem? (i := 29) rfl)))) (mvT hZ (hw _ (List.mem_of_getElem? (i := 29) rfl))) (mvT hZ (hw _ (List.mem_of_getElem? (i := 28) rfl))) (by decide) (backOf (W := 2) (rmG l Z a0 hw [] a1 i b N hd szI g T.heap n0 ZT R hN hd0 hd1 ⟨i0, by omega⟩) hZ (hw _ (List.mem_of_getElem? (i := 30) rfl)) (hw _ (List.mem_of_getElem? (i := 2) rfl)) (by decide) (by decide)) q18a q18c (g := (mkF m 36 #[.val (.ref a1), .val (.int p2), .val (.ref nb), .val (.int i)] [(.int i), (.ref a1), (.int i), (.ref nb)])) rfl (by rw [hml]; rfl) (Steps.refl _) (argsL := [(.int i)]) (rest := [(.int i), (.ref nb)]) (lenOf pd_rmD_0 rfl) rfl (by show 2 * 0 + _ ≤ _; exact Nat.le_of_eq rfl) (hb hby d3_36) (fun _ _ => ⟨rfl, e16, (by decide : 1 + 0 ≤ _), (by decide : 8 + 0 ≤ _)⟩)
          dsimp only [Pt.U, Pt.locs, Pt.cells, Pt.slots] at X18 l18 y18 z18 st18 hQ18
          subst l18 y18 z18
          obtain ⟨rfl, N18q, hh18⟩ := hQ18
          have N18 := Fr.app Nf N18q
          have pre18 : Steps p.tables e below _ (T18.setTop (mkF m 39 #[.val (.ref a1), .val (.int p2), .val (.ref nb), .val (.int i)] [(.int (g ((hd.toInt + i.toInt) % N.toInt).toNat)), (.int i), (.ref nb)])) := pre17.trans (st18)
          have hgi : g ((hd.toInt + i.toInt) % N.toInt).toNat = el i.toNatClampNeg := by
            have q := h8 i.toNatClampNeg (by have w := own_nat i i0; omega)
            rw [own_nat i i0] at q; exact q
          rw [hgi] at pre18
          obtain ⟨cn, An, Sn, Mn, Hn⟩ := id F
          have hin : ¬ (i < 0 ∨ cn.slots.size ≤ i.toNatClampNeg) := inb_of Sn ⟨by rw [own_lt]; omega, by rw [own_lt]; have e8 : (8 : Int32).toInt = 8 := rfl; omega⟩
          obtain ⟨T19, h19, X19, e19, W19, st19⟩ := stI X18 hx hZ hh18 An (j := i) hin (g := (mkF m 39 #[.val (.ref a1), .val (.int p2), .val (.ref nb), .val (.int i)] [(.int (el i.toNatClampNeg)), (.int i), (.ref nb)])) rfl rfl (hb hby d3_39)
          have N19 := Fr.snoc X19 N18 g_nb
          have F19n := F.put W19
          have R19n := R.other W19 nq nb_
          have pre19 : Steps p.tables e below _ (T19.setTop (mkF m 40 #[.val (.ref a1), .val (.int p2), .val (.ref nb), .val (.int i)] [])) := pre18.trans (st19 _ (Steps.refl _))
          have pre20 : Steps p.tables e below _ (T19.setTop (mkF m 24 #[.val (.ref a1), .val (.int p2), .val (.ref nb), .val (.int (i + (1 : Int32)))] [])) := pre19.trans (by
            show Steps p.tables e below (T19.setTop (mkF m 40 #[.val (.ref a1), .val (.int p2), .val (.ref nb), .val (.int i)] [])) _
            refine XS.iinc X19.here hx rfl (hb hby d3_40) rfl (l' := #[.val (.ref a1), .val (.int p2), .val (.ref nb), .val (.int (i + (1 : Int32)))]) rfl ?_
            show Steps p.tables e below (T19.setTop (mkF m 43 #[.val (.ref a1), .val (.int p2), .val (.ref nb), .val (.int (i + (1 : Int32)))] [])) _
            refine XS.goto X19.here hx rfl (pc0 := 43) (pc' := 24) rfl (hb hby d3_43) (by decide) (by decide) ?_
            exact Steps.refl _)
          have ei : (i + (1 : Int32)).toInt = i.toInt + 1 := by rw [own_add i0 (by omega) (by omega) (by omega), e1]
          obtain ⟨T', locs', gn', X', N', R', F', hg', st'⟩ := ih (i + (1 : Int32)) T19 _ _ X19 N19 (by rw [e19]; exact R19n) (by rw [e19]; exact F19n) (by omega) (by omega) (fun j hj => by
              have w1 := own_nat i i0
              show (if j = i.toNatClampNeg then el i.toNatClampNeg else gn j) = el j
              by_cases q1 : j = i.toNatClampNeg
              · rw [if_pos q1, q1]
              · rw [if_neg q1]; exact hg j (by omega))
          exact ⟨T', locs', gn', X', N', R', F', hg', pre20.trans st'⟩
      obtain ⟨T8, l8, g8, X8, N8, R8, F8, hg8, st8⟩ := loop 4 (0 : Int32) T10 [] (fun _ => 0) X10 N0 (by rw [e10]; exact RE) (by rw [e10]; exact FA) (by decide) (by decide) (fun j hj => by rw [e00] at hj; omega)
      have pre8 : Steps p.tables e below _ (T8.setTop (mkF m 46 #[.val (.ref a1), .val (.int p2), .val (.ref nb), .val (.int szI)] [])) := pre11.trans st8
      have Z8 : n0 ≤ T8.heap.size := Nat.le_trans g_a1 (Nat.le_of_lt R8.1.lt)
      have pre101 : Steps p.tables e below _ (T8.setTop (mkF m 48 #[.val (.ref a1), .val (.int p2), .val (.ref nb), .val (.int szI)] [(.ref nb), (.ref a1)])) := pre8.trans (by
        show Steps p.tables e below (T8.setTop (mkF m 46 #[.val (.ref a1), .val (.int p2), .val (.ref nb), .val (.int szI)] [])) _
        refine XS.aloadN X8.here hx rfl (hb hby d3_46) rfl rfl ?_
        show Steps p.tables e below (T8.setTop (mkF m 47 #[.val (.ref a1), .val (.int p2), .val (.ref nb), .val (.int szI)] [(.ref a1)])) _
        refine XS.aloadN X8.here hx rfl (hb hby d3_47) rfl rfl ?_
        exact Steps.refl _)
      obtain ⟨T102, h102, X102, e102, W102, st102⟩ := putF X8 hx hZ hown (host := "") (Or.inl (hw _ (List.mem_of_getElem? (i := 10) rfl))) Via.refl (rfl : T8.heap = T8.heap) R8.2.1 R8.1 (Or.inl (hw _ (List.mem_of_getElem? (i := 11) rfl))) (hw _ (List.mem_of_getElem? (i := 1) rfl)) (ty := (.array .int)) (by decide) rfl rfl (g := (mkF m 48 #[.val (.ref a1), .val (.int p2), .val (.ref nb), .val (.int szI)] [(.ref nb), (.ref a1)])) rfl rfl (hb hby d3_48)
      have N102 := Fr.snoc X102 N8 g_a1
      have Z102 : n0 ≤ h102.size := Nat.le_trans Z8 (Keep.of_wr W102).1
      have pre102 : Steps p.tables e below _ (T102.setTop (mkF m 51 #[.val (.ref a1), .val (.int p2), .val (.ref nb), .val (.int szI)] [])) := pre101.trans (st102 _ (Steps.refl _))
      have R9 : RQ Z h102 a1 nb (8 : Int32) hd szI g8 := RQ.items R8 W102 F8 nq (ne_head_items hw) (ne_size_items hw)
      have pre103 : Steps p.tables e below _ (T102.setTop (mkF m 53 #[.val (.ref a1), .val (.int p2), .val (.ref nb), .val (.int szI)] [(.int (0 : Int32)), (.ref a1)])) := pre102.trans (by
        show Steps p.tables e below (T102.setTop (mkF m 51 #[.val (.ref a1), .val (.int p2), .val (.ref nb), .val (.int szI)] [])) _
        refine XS.aloadN X102.here hx rfl (hb hby d3_51) rfl rfl ?_
        show Steps p.tables e below (T102.setTop (mkF m 52 #[.val (.ref a1), .val (.int p2), .val (.ref nb), .val (.int szI)] [(.ref a1)])) _
        refine XS.iconst X102.here hx rfl (hb hby d3_52) ?_
        exact Steps.refl _)
      obtain ⟨T104, h104, X104, e104, W104, st104⟩ := putF X102 hx hZ hown (host := "") (Or.inl (hw _ (List.mem_of_getElem? (i := 19) rfl))) Via.refl e102 R9.2.2.1 R9.1 (Or.inl (hw _ (List.mem_of_getElem? (i := 20) rfl))) (hw _ (List.mem_of_getElem? (i := 1) rfl)) (ty := .int) (by decide) rfl rfl (g := (mkF m 53 #[.val (.ref a1), .val (.int p2), .val (.ref nb), .val (.int szI)] [(.int (0 : Int32)), (.ref a1)])) rfl rfl (hb hby d3_53)
      have N104 := Fr.snoc X104 N102 g_a1
      have Z104 : n0 ≤ h104.size := Nat.le_trans Z102 (Keep.of_wr W104).1
      have pre104 : Steps p.tables e below _ (T104.setTop (mkF m 56 #[.val (.ref a1), .val (.int p2), .val (.ref nb), .val (.int szI)] [])) := pre103.trans (st104 _ (Steps.refl _))
      have R10 : RQ Z h104 a1 nb (8 : Int32) (0 : Int32) szI g8 := RQ.head R9 W104 (ne_items_head hw) (ne_size_head hw)
      exact ⟨T104, _, _, _, nb, 8, 0, g8, X104, N104, by rw [e104]; exact R10, g_nb, Or.inr rfl, by decide, by decide, by rw [hs0]; decide, fun i hi => by
          have hi4 : (i : Int) < 4 := by omega
          have e8 : (8 : Int32).toInt = 8 := rfl
          have q1 : ((0 : Int32).toInt + (i : Int)) % (8 : Int32).toInt = i := by rw [e00, e8]; omega
          rw [q1, Int.toNat_natCast]; exact hg8 i hi4, pre104⟩
  obtain ⟨q1, q2, q3, q4, q5, q6⟩ := id R5
  obtain ⟨cl5, Ar5, S5, M5, H5⟩ := id q5
  obtain ⟨mm1, mm2, mm3⟩ := own_N hN5
  have Z5 : n0 ≤ T5.heap.size := Nat.le_trans g_a1 (Nat.le_of_lt q1.lt)
  have pre201 : Steps p.tables e below _ (T5.setTop (mkF m 57 #[.val (.ref a1), .val (.int p2), sa, sb] [(.ref a1)])) := pre5.trans (by
    show Steps p.tables e below (T5.setTop (mkF m 56 #[.val (.ref a1), .val (.int p2), sa, sb] [])) _
    refine XS.aloadN X5.here hx rfl (hb hby d3_56) rfl rfl ?_
    exact Steps.refl _)
  obtain ⟨T202, X202, e202, st202⟩ := getF X5 hx hZ hown (host := "") (Or.inl (hw _ (List.mem_of_getElem? (i := 10) rfl))) Via.refl (rfl : T5.heap = T5.heap) q2 (g := (mkF m 57 #[.val (.ref a1), .val (.int p2), sa, sb] [(.ref a1)])) rfl rfl (hb hby d3_57)
  have pre202 : Steps p.tables e below _ (T202.setTop (mkF m 60 #[.val (.ref a1), .val (.int p2), sa, sb] [(.ref b')])) := pre201.trans (st202 _ (Steps.refl _))
  have pre203 : Steps p.tables e below _ (T202.setTop (mkF m 61 #[.val (.ref a1), .val (.int p2), sa, sb] [(.ref a1), (.ref b')])) := pre202.trans (by
    show Steps p.tables e below (T202.setTop (mkF m 60 #[.val (.ref a1), .val (.int p2), sa, sb] [(.ref b')])) _
    refine XS.aloadN X202.here hx rfl (hb hby d3_60) rfl rfl ?_
    exact Steps.refl _)
  obtain ⟨T204, X204, e204, st204⟩ := getF X202 hx hZ hown (host := "") (Or.inl (hw _ (List.mem_of_getElem? (i := 19) rfl))) Via.refl e202 q3 (g := (mkF m 61 #[.val (.ref a1), .val (.int p2), sa, sb] [(.ref a1), (.ref b')])) rfl rfl (hb hby d3_61)
  have pre204 : Steps p.tables e below _ (T204.setTop (mkF m 64 #[.val (.ref a1), .val (.int p2), sa, sb] [(.int hd'), (.ref b')])) := pre203.trans (st204 _ (Steps.refl _))
  have pre205 : Steps p.tables e below _ (T204.setTop (mkF m 65 #[.val (.ref a1), .val (.int p2), sa, sb] [(.ref a1), (.int hd'), (.ref b')])) := pre204.trans (by
    show Steps p.tables e below (T204.setTop (mkF m 64 #[.val (.ref a1), .val (.int p2), sa, sb] [(.int hd'), (.ref b')])) _
    refine XS.aloadN X204.here hx rfl (hb hby d3_64) rfl rfl ?_
    exact Steps.refl _)
  obtain ⟨T206, X206, e206, st206⟩ := getF X204 hx hZ hown (host := "") (Or.inl (hw _ (List.mem_of_getElem? (i := 17) rfl))) Via.refl e204 q4 (g := (mkF m 65 #[.val (.ref a1), .val (.int p2), sa, sb] [(.ref a1), (.int hd'), (.ref b')])) rfl rfl (hb hby d3_65)
  have pre206 : Steps p.tables e below _ (T206.setTop (mkF m 68 #[.val (.ref a1), .val (.int p2), sa, sb] [(.int szI), (.int hd'), (.ref b')])) := pre205.trans (st206 _ (Steps.refl _))
  have pre207 : Steps p.tables e below _ (T206.setTop (mkF m 70 #[.val (.ref a1), .val (.int p2), sa, sb] [(.ref a1), (.int (hd' + szI)), (.ref b')])) := pre206.trans (by
    show Steps p.tables e below (T206.setTop (mkF m 68 #[.val (.ref a1), .val (.int p2), sa, sb] [(.int szI), (.int hd'), (.ref b')])) _
    refine XS.iadd X206.here hx rfl (hb hby d3_68) rfl ?_
    show Steps p.tables e below (T206.setTop (mkF m 69 #[.val (.ref a1), .val (.int p2), sa, sb] [(.int (hd' + szI)), (.ref b')])) _
    refine XS.aloadN X206.here hx rfl (hb hby d3_69) rfl rfl ?_
    exact Steps.refl _)
  obtain ⟨T208, X208, e208, st208⟩ := getF X206 hx hZ hown (host := "") (Or.inl (hw _ (List.mem_of_getElem? (i := 10) rfl))) Via.refl e206 q2 (g := (mkF m 70 #[.val (.ref a1), .val (.int p2), sa, sb] [(.ref a1), (.int (hd' + szI)), (.ref b')])) rfl rfl (hb hby d3_70)
  have pre208 : Steps p.tables e below _ (T208.setTop (mkF m 73 #[.val (.ref a1), .val (.int p2), sa, sb] [(.ref b'), (.int (hd' + szI)), (.ref b')])) := pre207.trans (st208 _ (Steps.refl _))
  have pre209 : Steps p.tables e below _ (T208.setTop (mkF m 75 #[.val (.ref a1), .val (.int p2), sa, sb] [(.int ((hd' + szI) % N')), (.ref b')])) := pre208.trans (by
    show Steps p.tables e below (T208.setTop (mkF m 73 #[.val (.ref a1), .val (.int p2), sa, sb] [(.ref b'), (.int (hd' + szI)), (.ref b')])) _
    refine X208.arraylength hx (by rw [e208]; exact Ar5.1) (State.isArrayOf_alike hZ.alike Ar5.2.1) (g := (mkF m 73 #[.val (.ref a1), .val (.int p2), sa, sb] [(.ref b'), (.int (hd' + szI)), (.ref b')])) rfl rfl (hb hby d3_73) _ ?_
    rw [len_of S5 M5]
    show Steps p.tables e below (T208.setTop (mkF m 74 #[.val (.ref a1), .val (.int p2), sa, sb] [(.int N'), (.int (hd' + szI)), (.ref b')])) _
    refine iremM X208 hx rfl (hb hby d3_74) rfl mm3 ?_
    exact Steps.refl _)
  obtain ⟨j, h_j⟩ : ∃ z, z = ((hd' + szI) % N') := ⟨_, rfl⟩
  rw [← h_j] at pre209
  have hj : j.toInt = (hd'.toInt + sz) % N'.toInt := by rw [h_j, own_mod hN5 (by rw [own_add hd50 (by omega) (by omega) (by omega)]; omega), own_add hd50 (by omega) (by omega) (by omega), h6]
  have hj2 := own_mods hN5 (hd'.toInt + sz)
  have pre210 : Steps p.tables e below _ (T208.setTop (mkF m 76 #[.val (.ref a1), .val (.int p2), sa, sb] [(.int p2), (.int j), (.ref b')])) := pre209.trans (by
    show Steps p.tables e below (T208.setTop (mkF m 75 #[.val (.ref a1), .val (.int p2), sa, sb] [(.int j), (.ref b')])) _
    refine XS.iloadN X208.here hx rfl (hb hby d3_75) rfl ?_
    exact Steps.refl _)
  have hin : ¬ (j < 0 ∨ cl5.slots.size ≤ j.toNatClampNeg) := inb_of S5 ⟨by rw [own_lt]; omega, by rw [own_lt]; omega⟩
  obtain ⟨T211, h211, X211, e211, W211, st211⟩ := stI X208 hx hZ e208 Ar5 (j := j) hin (g := (mkF m 76 #[.val (.ref a1), .val (.int p2), sa, sb] [(.int p2), (.int j), (.ref b')])) rfl rfl (hb hby d3_76)
  have N211 := Fr.snoc X211 N5 gb5
  have Z211 : n0 ≤ h211.size := Nat.le_trans Z5 (Keep.of_wr W211).1
  have R211n : RQ Z h211 a1 b' N' hd' szI (fun k => if k = j.toNatClampNeg then p2 else g' k) := RQ.elem R5 W211
  have pre211 : Steps p.tables e below _ (T211.setTop (mkF m 77 #[.val (.ref a1), .val (.int p2), sa, sb] [])) := pre210.trans (st211 _ (Steps.refl _))
  have pre212 : Steps p.tables e below _ (T211.setTop (mkF m 79 #[.val (.ref a1), .val (.int p2), sa, sb] [(.ref a1), (.ref a1)])) := pre211.trans (by
    show Steps p.tables e below (T211.setTop (mkF m 77 #[.val (.ref a1), .val (.int p2), sa, sb] [])) _
    refine XS.aloadN X211.here hx rfl (hb hby d3_77) rfl rfl ?_
    show Steps p.tables e below (T211.setTop (mkF m 78 #[.val (.ref a1), .val (.int p2), sa, sb] [(.ref a1)])) _
    refine XS.dup X211.here hx rfl (hb hby d3_78) rfl rfl ?_
    exact Steps.refl _)
  obtain ⟨T213, X213, e213, st213⟩ := getF X211 hx hZ hown (host := "") (Or.inl (hw _ (List.mem_of_getElem? (i := 17) rfl))) Via.refl e211 R211n.2.2.2.1 (g := (mkF m 79 #[.val (.ref a1), .val (.int p2), sa, sb] [(.ref a1), (.ref a1)])) rfl rfl (hb hby d3_79)
  have pre213 : Steps p.tables e below _ (T213.setTop (mkF m 82 #[.val (.ref a1), .val (.int p2), sa, sb] [(.int szI), (.ref a1)])) := pre212.trans (st213 _ (Steps.refl _))
  have pre214 : Steps p.tables e below _ (T213.setTop (mkF m 84 #[.val (.ref a1), .val (.int p2), sa, sb] [(.int (szI + (1 : Int32))), (.ref a1)])) := pre213.trans (by
    show Steps p.tables e below (T213.setTop (mkF m 82 #[.val (.ref a1), .val (.int p2), sa, sb] [(.int szI), (.ref a1)])) _
    refine XS.iconst X213.here hx rfl (hb hby d3_82) ?_
    show Steps p.tables e below (T213.setTop (mkF m 83 #[.val (.ref a1), .val (.int p2), sa, sb] [(.int (1 : Int32)), (.int szI), (.ref a1)])) _
    refine XS.iadd X213.here hx rfl (hb hby d3_83) rfl ?_
    exact Steps.refl _)
  obtain ⟨z, h_z⟩ : ∃ z, z = (szI + (1 : Int32)) := ⟨_, rfl⟩
  rw [← h_z] at pre214
  have hz : z.toInt = sz + 1 := by rw [h_z, own_add (by omega) (by omega) (by omega) (by omega), e1, h6]
  obtain ⟨T215, h215, X215, e215, W215, st215⟩ := putF X213 hx hZ hown (host := "") (Or.inl (hw _ (List.mem_of_getElem? (i := 17) rfl))) Via.refl e213 R211n.2.2.2.1 R211n.1 (Or.inl (hw _ (List.mem_of_getElem? (i := 18) rfl))) (hw _ (List.mem_of_getElem? (i := 1) rfl)) (ty := .int) (by decide) rfl rfl (g := (mkF m 84 #[.val (.ref a1), .val (.int p2), sa, sb] [(.int z), (.ref a1)])) rfl rfl (hb hby d3_84)
  have N215 := Fr.snoc X215 N211 g_a1
  have Z215 : n0 ≤ h215.size := Nat.le_trans Z211 (Keep.of_wr W215).1
  have pre215 : Steps p.tables e below _ (T215.setTop (mkF m 87 #[.val (.ref a1), .val (.int p2), sa, sb] [])) := pre214.trans (st215 _ (Steps.refl _))
  have R215n : RQ Z h215 a1 b' N' hd' z (fun k => if k = j.toNatClampNeg then p2 else g' k) := RQ.size R211n W215 (ne_items_size hw) (ne_head_size hw)
  have I9 : IQ Z n0 h215 a1 (sz + 1) (fun i => if i = sz then p2 else el i) := ⟨b', N', hd', z, _, R215n, g_a1, gb5, hN5, hd50, hd51, by omega, by omega, fun i hi => by
    show (if ((hd'.toInt + (i : Int)) % N'.toInt).toNat = j.toNatClampNeg then p2 else g' ((hd'.toInt + (i : Int)) % N'.toInt).toNat) = if i = sz then p2 else el i
    have m1 := own_mods hN5 (hd'.toInt + (i : Int))
    have wj := own_nat j (by omega)
    by_cases qi : i = sz
    · rw [if_pos qi, if_pos (by rw [qi]; omega)]
    · rw [if_neg qi, if_neg (fun q => own_inj (a := hd'.toInt) (s := (sz : Int)) (i := (i : Int)) mm1 (by omega) (by omega) (by omega) (by omega))]; exact hel5 i (by omega)⟩
  obtain ⟨fs, hr, hrun, hended, hW, hsame⟩ := X215.leave (v := none) (fun h => by rfl)
  refine ⟨_, _, pre215.trans ?_, hrun, hended, _, _, rfl, ?_, ⟨_, rfl⟩, hW, hsame.mono (by decide) (by decide)⟩
  · exact X215.returnOut hx Bd.returns (hb hby d3_87) hr
  · exact ⟨rfl, N215, by show IQ Z n0 T215.heap a1 (sz + 1) _; rw [e215]; exact I9⟩
def own_gr_0_1 (p6 : Int32) : Int32 := (0 : Int32)
def own_gr_0_2 (p6 : Int32) : Int32 := (1 : Int32)
def own_gr_0_3 (p6 : Int32) : Int32 := if (p6 &&& (4 : Int32)) = (0 : Int32) then own_gr_0_1 p6 else own_gr_0_2 p6
def own_g2_0_1 (gw : Int32) (pp : Int32) : Int32 := (0 : Int32)
def own_g2_0_2 (gw : Int32) (pp : Int32) : Int32 := (1 : Int32)
def own_g2_0_3 (gw : Int32) (pp : Int32) : Int32 := if gw = (0 : Int32) then own_g2_0_1 gw pp else own_g2_0_2 gw pp
theorem own_gr01 (p6 : Int32) : own_gr_0_3 p6 = 0 ∨ own_gr_0_3 p6 = 1 := by
  by_cases h : (p6 &&& (4 : Int32)) = (0 : Int32)
  · exact Or.inl (if_pos h)
  · exact Or.inr (if_neg h)
theorem own_getD (ws : List Int32) (i : Nat) : (ws.map Value.int).getD i (.int 0) = .int (ws.getD i 0) := by
  induction ws generalizing i with
  | nil => rfl
  | cons a t ih => cases i with
    | zero => rfl
    | succ n => exact ih n
theorem pn_rm0 : plainName "com/example/trips_into_trajectories/tripsintotrajectories/simulation/IntQueueGetPinLaw" = true := by first | (simp [plainName, overriddenIn]; done) | decide +kernel
theorem pd_rm0_0 : parseMethodDescriptor "()V" = some ⟨[], none⟩ := by decide +kernel
theorem pd_rm0_1 : parseMethodDescriptor "(I)V" = some ⟨[.int], none⟩ := by decide +kernel
theorem pd_rm0_2 : parseMethodDescriptor "()I" = some ⟨[], some .int⟩ := by decide +kernel
theorem pd_rm0_3 : parseMethodDescriptor "(I)I" = some ⟨[.int], some .int⟩ := by decide +kernel
theorem ef_rm0 (m : MethodId) (p1 : Int32) (p2 : Int32) (p3 : Int32) (p4 : Int32) (p5 : Int32) (p6 : Int32) : entryFrame m #[(.int p1), (.int p2), (.int p3), (.int p4), (.int p5), (.int p6)] maxLocals = (mkF m 0 #[.val (.int p1), .val (.int p2), .val (.int p3), .val (.int p4), .val (.int p5), .val (.int p6), .unset, .unset, .unset, .unset, .unset, .unset, .unset] []) := by first | (simp [entryFrame, mkF, argsToLocals, Value.category, maxLocals]; done) | rfl
def Q_rm0 (Z : State) (p1 : Int32) (p2 : Int32) (p3 : Int32) (p4 : Int32) (p5 : Int32) (p6 : Int32)  (h0 : Heap) (n0 : Nat) (v : Option Value) (h : Heap) (L : List Loc) : Prop := v = some (.int (1 : Int32)) ∧ Fr n0 L
set_option maxRecDepth 65536 in
set_option maxHeartbeats 40000000 in
theorem rm0 (l : Launch) (Z : State) (a0 : Array Value) (hw : ∀ d ∈ tables_1, d.before a0 Z = true) (ws : List Jvm.Cond) (p1 : Int32) (p2 : Int32) (p3 : Int32) (p4 : Int32) (p5 : Int32) (p6 : Int32)  (h0 : Heap) (n0 : Nat) (Z0 : n0 ≤ h0.size)  :
    MetFree l x (head1 (Jvm.Cond.code x code maxLocals ret :: ws) room_1) (fun a U => a = #[(.int p1), (.int p2), (.int p3), (.int p4), (.int p5), (.int p6)] ∧ Z.Warmed39 U.vm ∧ U.heap = h0) (fun _ _ _ _ _ => True) (fun _ U o U' => ∃ v L, o = .returned v ∧ Q_rm0 Z p1 p2 p3 p4 p5 p6 h0 n0 v U'.heap L ∧ FrameEnd U o U' L 9 61) := by
  refine MetFree.of_bodySF (plainFor_of_name pn_rm0) hisR ?_
  intro p e s m args below meth c s₁ Bd hml0 hP hK
  obtain ⟨rfl, hZ, hh⟩ := hP
  have hx := Bd.exec
  have hby := Bd.bytes
  have hml : c.maxLocals = 13 := hml0
  have hown : s.vm.findClass "com/example/trips_into_trajectories/tripsintotrajectories/simulation/IntQueueGetPinLaw" = some m.cls := findClass_of_methodNamed Bd.named
  have hnm := (name_of_methodNamed Bd.named Bd.method).1
  have X0 : Stand p l e room_1 s m #[(.int p1), (.int p2), (.int p3), (.int p4), (.int p5), (.int p6)] below meth c s₁ [] 0 0 := Stand.of_body Bd
  have e0 : s₁.heap = h0 := by rw [← hh, Bd.state]; rfl
  have N0 := Fr.nil n0
  have pre0 : Steps p.tables e below (s₁.setTop (entryFrame m #[(.int p1), (.int p2), (.int p3), (.int p4), (.int p5), (.int p6)] maxLocals)) (s₁.setTop (mkF m 0 #[.val (.int p1), .val (.int p2), .val (.int p3), .val (.int p4), .val (.int p5), .val (.int p6), .unset, .unset, .unset, .unset, .unset, .unset, .unset] [])) := castTop (ef_rm0 m p1 p2 p3 p4 p5 p6) (Steps.refl _)
  have pre1 : Steps p.tables e below _ (s₁.setTop (mkF m 6 #[.val (.int p1), .val (.int p2), .val (.int p3), .val (.int p4), .val (.int p5), .val (.int p6), .val (.int (p6 &&& (3 : Int32))), .unset, .unset, .unset, .unset, .unset, .unset] [])) := pre0.trans (by
    show Steps p.tables e below (s₁.setTop (mkF m 0 #[.val (.int p1), .val (.int p2), .val (.int p3), .val (.int p4), .val (.int p5), .val (.int p6), .unset, .unset, .unset, .unset, .unset, .unset, .unset] [])) _
    refine XS.iload X0.here hx rfl (hb hby at_0) rfl ?_
    show Steps p.tables e below (s₁.setTop (mkF m 2 #[.val (.int p1), .val (.int p2), .val (.int p3), .val (.int p4), .val (.int p5), .val (.int p6), .unset, .unset, .unset, .unset, .unset, .unset, .unset] [(.int p6)])) _
    refine XS.iconst X0.here hx rfl (hb hby at_2) ?_
    show Steps p.tables e below (s₁.setTop (mkF m 3 #[.val (.int p1), .val (.int p2), .val (.int p3), .val (.int p4), .val (.int p5), .val (.int p6), .unset, .unset, .unset, .unset, .unset, .unset, .unset] [(.int (3 : Int32)), (.int p6)])) _
    refine XS.iand X0.here hx rfl (hb hby at_3) rfl ?_
    show Steps p.tables e below (s₁.setTop (mkF m 4 #[.val (.int p1), .val (.int p2), .val (.int p3), .val (.int p4), .val (.int p5), .val (.int p6), .unset, .unset, .unset, .unset, .unset, .unset, .unset] [(.int (p6 &&& (3 : Int32)))])) _
    refine XS.istore X0.here hx rfl (hb hby at_4) rfl (l' := #[.val (.int p1), .val (.int p2), .val (.int p3), .val (.int p4), .val (.int p5), .val (.int p6), .val (.int (p6 &&& (3 : Int32))), .unset, .unset, .unset, .unset, .unset, .unset]) rfl ?_
    exact Steps.refl _)
  obtain ⟨pp, h_pp⟩ : ∃ z, z = (p6 &&& (3 : Int32)) := ⟨_, rfl⟩
  rw [← h_pp] at pre1
  have bp : 0 ≤ pp.toInt ∧ pp.toInt ≤ 3 := by have q : (p6 &&& (3 : Int32)).toInt = p6.toInt % 4 := c_mask p6 3 2 (by decide) (by decide); rw [← h_pp] at q; omega
  obtain ⟨gw, h_gw⟩ : ∃ z, z = own_gr_0_3 p6 := ⟨_, rfl⟩
  have Bgr_1 (hv0 : gw = own_gr_0_1 p6) : Steps p.tables e below (s₁.setTop (mkF m 17 #[.val (.int p1), .val (.int p2), .val (.int p3), .val (.int p4), .val (.int p5), .val (.int p6), .val (.int pp), .unset, .unset, .unset, .unset, .unset, .unset] [])) (s₁.setTop (mkF m 18 #[.val (.int p1), .val (.int p2), .val (.int p3), .val (.int p4), .val (.int p5), .val (.int p6), .val (.int pp), .unset, .unset, .unset, .unset, .unset, .unset] [(.int gw)])) := by
    have hw0 : gw = (0 : Int32) := hv0
    rw [hw0]
    show Steps p.tables e below (s₁.setTop (mkF m 17 #[.val (.int p1), .val (.int p2), .val (.int p3), .val (.int p4), .val (.int p5), .val (.int p6), .val (.int pp), .unset, .unset, .unset, .unset, .unset, .unset] [])) _
    refine XS.iconst X0.here hx rfl (hb hby at_17) ?_
    exact Steps.refl _
  have Bgr_2 (hv0 : gw = own_gr_0_2 p6) : Steps p.tables e below (s₁.setTop (mkF m 13 #[.val (.int p1), .val (.int p2), .val (.int p3), .val (.int p4), .val (.int p5), .val (.int p6), .val (.int pp), .unset, .unset, .unset, .unset, .unset, .unset] [])) (s₁.setTop (mkF m 18 #[.val (.int p1), .val (.int p2), .val (.int p3), .val (.int p4), .val (.int p5), .val (.int p6), .val (.int pp), .unset, .unset, .unset, .unset, .unset, .unset] [(.int gw)])) := by
    have hw0 : gw = (1 : Int32) := hv0
    rw [hw0]
    show Steps p.tables e below (s₁.setTop (mkF m 13 #[.val (.int p1), .val (.int p2), .val (.int p3), .val (.int p4), .val (.int p5), .val (.int p6), .val (.int pp), .unset, .unset, .unset, .unset, .unset, .unset] [])) _
    refine XS.iconst X0.here hx rfl (hb hby at_13) ?_
    show Steps p.tables e below (s₁.setTop (mkF m 14 #[.val (.int p1), .val (.int p2), .val (.int p3), .val (.int p4), .val (.int p5), .val (.int p6), .val (.int pp), .unset, .unset, .unset, .unset, .unset, .unset] [(.int (1 : Int32))])) _
    refine XS.goto X0.here hx rfl (pc0 := 14) (pc' := 18) rfl (hb hby at_14) (by decide) (by decide) ?_
    exact Steps.refl _
  have Bgr_3 (hv0 : gw = own_gr_0_3 p6) : Steps p.tables e below (s₁.setTop (mkF m 6 #[.val (.int p1), .val (.int p2), .val (.int p3), .val (.int p4), .val (.int p5), .val (.int p6), .val (.int pp), .unset, .unset, .unset, .unset, .unset, .unset] [])) (s₁.setTop (mkF m 18 #[.val (.int p1), .val (.int p2), .val (.int p3), .val (.int p4), .val (.int p5), .val (.int p6), .val (.int pp), .unset, .unset, .unset, .unset, .unset, .unset] [(.int gw)])) := by
    show Steps p.tables e below (s₁.setTop (mkF m 6 #[.val (.int p1), .val (.int p2), .val (.int p3), .val (.int p4), .val (.int p5), .val (.int p6), .val (.int pp), .unset, .unset, .unset, .unset, .unset, .unset] [])) _
    refine XS.iload X0.here hx rfl (hb hby at_6) rfl ?_
    show Steps p.tables e below (s₁.setTop (mkF m 8 #[.val (.int p1), .val (.int p2), .val (.int p3), .val (.int p4), .val (.int p5), .val (.int p6), .val (.int pp), .unset, .unset, .unset, .unset, .unset, .unset] [(.int p6)])) _
    refine XS.iconst X0.here hx rfl (hb hby at_8) ?_
    show Steps p.tables e below (s₁.setTop (mkF m 9 #[.val (.int p1), .val (.int p2), .val (.int p3), .val (.int p4), .val (.int p5), .val (.int p6), .val (.int pp), .unset, .unset, .unset, .unset, .unset, .unset] [(.int (4 : Int32)), (.int p6)])) _
    refine XS.iand X0.here hx rfl (hb hby at_9) rfl ?_
    show Steps p.tables e below (s₁.setTop (mkF m 10 #[.val (.int p1), .val (.int p2), .val (.int p3), .val (.int p4), .val (.int p5), .val (.int p6), .val (.int pp), .unset, .unset, .unset, .unset, .unset, .unset] [(.int (p6 &&& (4 : Int32)))])) _
    by_cases h10 : (p6 &&& (4 : Int32)) = (0 : Int32)
    · refine XS.ifYes X0.here hx rfl (pc0 := 10) (pc' := 17) rfl (hb hby at_10) rfl ((if0 _ _).trans (teq h10).1) (by decide) (by decide) ?_
      exact Bgr_1 (hv0.trans (if_pos h10))
    · refine XS.ifNo X0.here hx rfl (hb hby at_10) rfl ((if0 _ _).trans (feq h10).1) ?_
      exact Bgr_2 (hv0.trans (if_neg h10))
  have pre2 : Steps p.tables e below _ (s₁.setTop (mkF m 18 #[.val (.int p1), .val (.int p2), .val (.int p3), .val (.int p4), .val (.int p5), .val (.int p6), .val (.int pp), .unset, .unset, .unset, .unset, .unset, .unset] [(.int gw)])) := pre1.trans (Bgr_3 h_gw)
  have bg : gw = 0 ∨ gw = 1 := by rw [h_gw]; exact own_gr01 p6
  have pre3 : Steps p.tables e below _ (s₁.setTop (mkF m 25 #[.val (.int p1), .val (.int p2), .val (.int p3), .val (.int p4), .val (.int p5), .val (.int p6), .val (.int pp), .val (.int gw), .val (.int (p1 ^^^ (-1 : Int32))), .unset, .unset, .unset, .unset] [])) := pre2.trans (by
    show Steps p.tables e below (s₁.setTop (mkF m 18 #[.val (.int p1), .val (.int p2), .val (.int p3), .val (.int p4), .val (.int p5), .val (.int p6), .val (.int pp), .unset, .unset, .unset, .unset, .unset, .unset] [(.int gw)])) _
    refine XS.istore X0.here hx rfl (hb hby at_18) rfl (l' := #[.val (.int p1), .val (.int p2), .val (.int p3), .val (.int p4), .val (.int p5), .val (.int p6), .val (.int pp), .val (.int gw), .unset, .unset, .unset, .unset, .unset]) rfl ?_
    show Steps p.tables e below (s₁.setTop (mkF m 20 #[.val (.int p1), .val (.int p2), .val (.int p3), .val (.int p4), .val (.int p5), .val (.int p6), .val (.int pp), .val (.int gw), .unset, .unset, .unset, .unset, .unset] [])) _
    refine XS.iloadN X0.here hx rfl (hb hby at_20) rfl ?_
    show Steps p.tables e below (s₁.setTop (mkF m 21 #[.val (.int p1), .val (.int p2), .val (.int p3), .val (.int p4), .val (.int p5), .val (.int p6), .val (.int pp), .val (.int gw), .unset, .unset, .unset, .unset, .unset] [(.int p1)])) _
    refine XS.iconst X0.here hx rfl (hb hby at_21) ?_
    show Steps p.tables e below (s₁.setTop (mkF m 22 #[.val (.int p1), .val (.int p2), .val (.int p3), .val (.int p4), .val (.int p5), .val (.int p6), .val (.int pp), .val (.int gw), .unset, .unset, .unset, .unset, .unset] [(.int (-1 : Int32)), (.int p1)])) _
    refine XS.ixor X0.here hx rfl (hb hby at_22) rfl ?_
    show Steps p.tables e below (s₁.setTop (mkF m 23 #[.val (.int p1), .val (.int p2), .val (.int p3), .val (.int p4), .val (.int p5), .val (.int p6), .val (.int pp), .val (.int gw), .unset, .unset, .unset, .unset, .unset] [(.int (p1 ^^^ (-1 : Int32)))])) _
    refine XS.istore X0.here hx rfl (hb hby at_23) rfl (l' := #[.val (.int p1), .val (.int p2), .val (.int p3), .val (.int p4), .val (.int p5), .val (.int p6), .val (.int pp), .val (.int gw), .val (.int (p1 ^^^ (-1 : Int32))), .unset, .unset, .unset, .unset]) rfl ?_
    exact Steps.refl _)
  obtain ⟨ff, h_ff⟩ : ∃ z, z = (p1 ^^^ (-1 : Int32)) := ⟨_, rfl⟩
  rw [← h_ff] at pre3
  obtain ⟨md, h_md⟩ : ∃ f : Nat → Int32, f = (fun i => [p1, p2, p3, p4, p5, ff].getD i 0) := ⟨_, rfl⟩
  obtain ⟨T4, h4, X4, e4, E4, A4, D4, -, st4⟩ := newO X0 hx hZ hown (hw _ (List.mem_of_getElem? (i := 0) rfl)) (hw _ (List.mem_of_getElem? (i := 1) rfl)) (hw _ (List.mem_of_getElem? (i := 2) rfl)) e0 (g := (mkF m 25 #[.val (.int p1), .val (.int p2), .val (.int p3), .val (.int p4), .val (.int p5), .val (.int p6), .val (.int pp), .val (.int gw), .val (.int ff), .unset, .unset, .unset, .unset] [])) rfl (hb hby at_25) (by decide) (by decide)
  obtain ⟨q, g4⟩ : ∃ z, z = h0.size := ⟨_, rfl⟩
  rw [← g4] at A4 D4 st4
  have g_q : n0 ≤ q := Nat.le_trans Z0 (Nat.le_of_eq g4.symm)
  have Z4 : n0 ≤ h4.size := Nat.le_trans Z0 E4.1
  have pre4 : Steps p.tables e below _ (T4.setTop (mkF m 28 #[.val (.int p1), .val (.int p2), .val (.int p3), .val (.int p4), .val (.int p5), .val (.int p6), .val (.int pp), .val (.int gw), .val (.int ff), .unset, .unset, .unset, .unset] [(.ref q)])) := pre3.trans (st4 _ (Steps.refl _))
  have F_items_q : Fld Z h4 q "com/example/trips_into_trajectories/tripsintotrajectories/simulation/IntQueue" "items" "[I" .null := D4 (Or.inl (hw _ (List.mem_of_getElem? (i := 11) rfl))) (ty := (.array .int)) (by decide)
  have F_head_q : Fld Z h4 q "com/example/trips_into_trajectories/tripsintotrajectories/simulation/IntQueue" "head" "I" (.int (0 : Int32)) := D4 (Or.inl (hw _ (List.mem_of_getElem? (i := 20) rfl))) (ty := .int) (by decide)
  have F_size_q : Fld Z h4 q "com/example/trips_into_trajectories/tripsintotrajectories/simulation/IntQueue" "size" "I" (.int (0 : Int32)) := D4 (Or.inl (hw _ (List.mem_of_getElem? (i := 18) rfl))) (ty := .int) (by decide)
  have pre5 : Steps p.tables e below _ (T4.setTop (mkF m 29 #[.val (.int p1), .val (.int p2), .val (.int p3), .val (.int p4), .val (.int p5), .val (.int p6), .val (.int pp), .val (.int gw), .val (.int ff), .unset, .unset, .unset, .unset] [(.ref q), (.ref q)])) := pre4.trans (by
    show Steps p.tables e below (T4.setTop (mkF m 28 #[.val (.int p1), .val (.int p2), .val (.int p3), .val (.int p4), .val (.int p5), .val (.int p6), .val (.int pp), .val (.int gw), .val (.int ff), .unset, .unset, .unset, .unset] [(.ref q)])) _
    refine XS.dup X4.here hx rfl (hb hby at_28) rfl rfl ?_
    exact Steps.refl _)
  obtain ⟨_, _, ⟨T6, L6, k6, n6⟩, -, X6, ⟨Lc6, hQ6, l6, y6, z6⟩, st6⟩ := X4.specialBack hx (y := (⟨"com/example/trips_into_trajectories/tripsintotrajectories/simulation/IntQueue", "<init>", "()V"⟩ : MethodName)) rfl hown (mvT hZ (hw _ (List.mem_of_getElem? (i := 3) rfl))) (mvT hZ (hw _ (List.mem_of_getElem? (i := 4) rfl))) (mvT hZ (hw _ (List.mem_of_getElem? (i := 5) rfl))) (by decide) (backOf (W := 1) (rmN l Z a0 hw [] q h4 n0 Z4 A4 F_items_q F_head_q F_size_q g_q) hZ (hw _ (List.mem_of_getElem? (i := 5) rfl)) (hw _ (List.mem_of_getElem? (i := 2) rfl)) (by decide) (by decide)) (g := (mkF m 29 #[.val (.int p1), .val (.int p2), .val (.int p3), .val (.int p4), .val (.int p5), .val (.int p6), .val (.int pp), .val (.int gw), .val (.int ff), .unset, .unset, .unset, .unset] [(.ref q), (.ref q)])) rfl (by rw [hml]; rfl) (Steps.refl _) (a := q) (argsL := []) (rest := [(.ref q)]) (lenOf pd_rm0_0 rfl) rfl (by show 2 * 0 + _ ≤ _; exact Nat.le_of_eq rfl) (hb hby at_29) (fun _ _ => ⟨rfl, e4, (by decide : 1 + 1 ≤ _), (by decide : 3 + 4 ≤ _)⟩)
  dsimp only [Pt.U, Pt.locs, Pt.cells, Pt.slots] at X6 l6 y6 z6 st6 hQ6
  subst l6 y6 z6
  obtain ⟨rfl, N6q, I6⟩ := hQ6
  have N6 := Fr.app N0 N6q
  have pre6 : Steps p.tables e below _ (T6.setTop (mkF m 32 #[.val (.int p1), .val (.int p2), .val (.int p3), .val (.int p4), .val (.int p5), .val (.int p6), .val (.int pp), .val (.int gw), .val (.int ff), .unset, .unset, .unset, .unset] [(.ref q)])) := pre5.trans (st6)
  have J0 : IQ Z n0 T6.heap q 0 (fun i => md (i + 0)) := I6 _
  have pre7 : Steps p.tables e below _ (T6.setTop (mkF m 37 #[.val (.int p1), .val (.int p2), .val (.int p3), .val (.int p4), .val (.int p5), .val (.int p6), .val (.int pp), .val (.int gw), .val (.int ff), .val (.ref q), .unset, .unset, .unset] [(.int p1), (.ref q)])) := pre6.trans (by
    show Steps p.tables e below (T6.setTop (mkF m 32 #[.val (.int p1), .val (.int p2), .val (.int p3), .val (.int p4), .val (.int p5), .val (.int p6), .val (.int pp), .val (.int gw), .val (.int ff), .unset, .unset, .unset, .unset] [(.ref q)])) _
    refine XS.astore X6.here hx rfl (hb hby at_32) rfl rfl (l' := #[.val (.int p1), .val (.int p2), .val (.int p3), .val (.int p4), .val (.int p5), .val (.int p6), .val (.int pp), .val (.int gw), .val (.int ff), .val (.ref q), .unset, .unset, .unset]) rfl ?_
    show Steps p.tables e below (T6.setTop (mkF m 34 #[.val (.int p1), .val (.int p2), .val (.int p3), .val (.int p4), .val (.int p5), .val (.int p6), .val (.int pp), .val (.int gw), .val (.int ff), .val (.ref q), .unset, .unset, .unset] [])) _
    refine XS.aload X6.here hx rfl (hb hby at_34) rfl rfl ?_
    show Steps p.tables e below (T6.setTop (mkF m 36 #[.val (.int p1), .val (.int p2), .val (.int p3), .val (.int p4), .val (.int p5), .val (.int p6), .val (.int pp), .val (.int gw), .val (.int ff), .val (.ref q), .unset, .unset, .unset] [(.ref q)])) _
    refine XS.iloadN X6.here hx rfl (hb hby at_36) rfl ?_
    exact Steps.refl _)
  obtain ⟨cq8, kq8, q8a, q8b, q8c⟩ := isOf hZ (rfl : T6.heap = T6.heap) J0.exa
  obtain ⟨_, _, ⟨T8, L8, k8, n8⟩, -, X8, ⟨Lc8, hQ8, l8, y8, z8⟩, st8⟩ := X6.virtualBack hx (y := (⟨"com/example/trips_into_trajectories/tripsintotrajectories/simulation/IntQueue", "add", "(I)V"⟩ : MethodName)) (z := (⟨"com/example/trips_into_trajectories/tripsintotrajectories/simulation/IntQueue", "add", "(I)V"⟩ : MethodName)) hown (mvT hZ (hw _ (List.mem_of_getElem? (i := 12) rfl))) (mvT hZ (hw _ (List.mem_of_getElem? (i := 13) rfl))) (notFace_of_selects (args := #[]) (mvT hZ (hw _ (List.mem_of_getElem? (i := 15) rfl)))) (mvT hZ (hw _ (List.mem_of_getElem? (i := 15) rfl))) (mvT hZ (hw _ (List.mem_of_getElem? (i := 14) rfl))) (by decide) (backOf (W := 0) (rmD l Z a0 hw [] q p1 0 (fun i => md (i + 0)) T6.heap n0 J0.le J0 (by omega)) hZ (hw _ (List.mem_of_getElem? (i := 16) rfl)) (hw _ (List.mem_of_getElem? (i := 2) rfl)) (by decide) (by decide)) q8a q8c (g := (mkF m 37 #[.val (.int p1), .val (.int p2), .val (.int p3), .val (.int p4), .val (.int p5), .val (.int p6), .val (.int pp), .val (.int gw), .val (.int ff), .val (.ref q), .unset, .unset, .unset] [(.int p1), (.ref q)])) rfl (by rw [hml]; rfl) (Steps.refl _) (argsL := [(.int p1)]) (rest := []) (lenOf pd_rm0_1 rfl) rfl (by show 2 * 0 + _ ≤ _; exact Nat.le_of_eq rfl) (hb hby at_37) (fun _ _ => ⟨rfl, (rfl : T6.heap = T6.heap), (by decide : 2 + 1 ≤ _), (by decide : 7 + 8 ≤ _)⟩)
  dsimp only [Pt.U, Pt.locs, Pt.cells, Pt.slots] at X8 l8 y8 z8 st8 hQ8
  subst l8 y8 z8
  obtain ⟨rfl, N8q, I8⟩ := hQ8
  have N8 := Fr.app N6 N8q
  have pre8 : Steps p.tables e below _ (T8.setTop (mkF m 40 #[.val (.int p1), .val (.int p2), .val (.int p3), .val (.int p4), .val (.int p5), .val (.int p6), .val (.int pp), .val (.int gw), .val (.int ff), .val (.ref q), .unset, .unset, .unset] [])) := pre7.trans (st8)
  have J1 : IQ Z n0 T8.heap q (0 + 1) (fun i => md (i + 0)) := IQ.next I8 (by rw [h_md]; rfl)
  have pre9 : Steps p.tables e below _ (T8.setTop (mkF m 43 #[.val (.int p1), .val (.int p2), .val (.int p3), .val (.int p4), .val (.int p5), .val (.int p6), .val (.int pp), .val (.int gw), .val (.int ff), .val (.ref q), .unset, .unset, .unset] [(.int p2), (.ref q)])) := pre8.trans (by
    show Steps p.tables e below (T8.setTop (mkF m 40 #[.val (.int p1), .val (.int p2), .val (.int p3), .val (.int p4), .val (.int p5), .val (.int p6), .val (.int pp), .val (.int gw), .val (.int ff), .val (.ref q), .unset, .unset, .unset] [])) _
    refine XS.aload X8.here hx rfl (hb hby at_40) rfl rfl ?_
    show Steps p.tables e below (T8.setTop (mkF m 42 #[.val (.int p1), .val (.int p2), .val (.int p3), .val (.int p4), .val (.int p5), .val (.int p6), .val (.int pp), .val (.int gw), .val (.int ff), .val (.ref q), .unset, .unset, .unset] [(.ref q)])) _
    refine XS.iloadN X8.here hx rfl (hb hby at_42) rfl ?_
    exact Steps.refl _)
  obtain ⟨cq10, kq10, q10a, q10b, q10c⟩ := isOf hZ (rfl : T8.heap = T8.heap) J1.exa
  obtain ⟨_, _, ⟨T10, L10, k10, n10⟩, -, X10, ⟨Lc10, hQ10, l10, y10, z10⟩, st10⟩ := X8.virtualBack hx (y := (⟨"com/example/trips_into_trajectories/tripsintotrajectories/simulation/IntQueue", "add", "(I)V"⟩ : MethodName)) (z := (⟨"com/example/trips_into_trajectories/tripsintotrajectories/simulation/IntQueue", "add", "(I)V"⟩ : MethodName)) hown (mvT hZ (hw _ (List.mem_of_getElem? (i := 12) rfl))) (mvT hZ (hw _ (List.mem_of_getElem? (i := 13) rfl))) (notFace_of_selects (args := #[]) (mvT hZ (hw _ (List.mem_of_getElem? (i := 15) rfl)))) (mvT hZ (hw _ (List.mem_of_getElem? (i := 15) rfl))) (mvT hZ (hw _ (List.mem_of_getElem? (i := 14) rfl))) (by decide) (backOf (W := 0) (rmD l Z a0 hw [] q p2 1 (fun i => md (i + 0)) T8.heap n0 J1.le J1 (by omega)) hZ (hw _ (List.mem_of_getElem? (i := 16) rfl)) (hw _ (List.mem_of_getElem? (i := 2) rfl)) (by decide) (by decide)) q10a q10c (g := (mkF m 43 #[.val (.int p1), .val (.int p2), .val (.int p3), .val (.int p4), .val (.int p5), .val (.int p6), .val (.int pp), .val (.int gw), .val (.int ff), .val (.ref q), .unset, .unset, .unset] [(.int p2), (.ref q)])) rfl (by rw [hml]; rfl) (Steps.refl _) (argsL := [(.int p2)]) (rest := []) (lenOf pd_rm0_1 rfl) rfl (by show 2 * 0 + _ ≤ _; exact Nat.le_of_eq rfl) (hb hby at_43) (fun _ _ => ⟨rfl, (rfl : T8.heap = T8.heap), (by decide : 3 + 1 ≤ _), (by decide : 15 + 8 ≤ _)⟩)
  dsimp only [Pt.U, Pt.locs, Pt.cells, Pt.slots] at X10 l10 y10 z10 st10 hQ10
  subst l10 y10 z10
  obtain ⟨rfl, N10q, I10⟩ := hQ10
  have N10 := Fr.app N8 N10q
  have pre10 : Steps p.tables e below _ (T10.setTop (mkF m 46 #[.val (.int p1), .val (.int p2), .val (.int p3), .val (.int p4), .val (.int p5), .val (.int p6), .val (.int pp), .val (.int gw), .val (.int ff), .val (.ref q), .unset, .unset, .unset] [])) := pre9.trans (st10)
  have J2 : IQ Z n0 T10.heap q (1 + 1) (fun i => md (i + 0)) := IQ.next I10 (by rw [h_md]; rfl)
  have pre11 : Steps p.tables e below _ (T10.setTop (mkF m 49 #[.val (.int p1), .val (.int p2), .val (.int p3), .val (.int p4), .val (.int p5), .val (.int p6), .val (.int pp), .val (.int gw), .val (.int ff), .val (.ref q), .unset, .unset, .unset] [(.int p3), (.ref q)])) := pre10.trans (by
    show Steps p.tables e below (T10.setTop (mkF m 46 #[.val (.int p1), .val (.int p2), .val (.int p3), .val (.int p4), .val (.int p5), .val (.int p6), .val (.int pp), .val (.int gw), .val (.int ff), .val (.ref q), .unset, .unset, .unset] [])) _
    refine XS.aload X10.here hx rfl (hb hby at_46) rfl rfl ?_
    show Steps p.tables e below (T10.setTop (mkF m 48 #[.val (.int p1), .val (.int p2), .val (.int p3), .val (.int p4), .val (.int p5), .val (.int p6), .val (.int pp), .val (.int gw), .val (.int ff), .val (.ref q), .unset, .unset, .unset] [(.ref q)])) _
    refine XS.iloadN X10.here hx rfl (hb hby at_48) rfl ?_
    exact Steps.refl _)
  obtain ⟨cq12, kq12, q12a, q12b, q12c⟩ := isOf hZ (rfl : T10.heap = T10.heap) J2.exa
  obtain ⟨_, _, ⟨T12, L12, k12, n12⟩, -, X12, ⟨Lc12, hQ12, l12, y12, z12⟩, st12⟩ := X10.virtualBack hx (y := (⟨"com/example/trips_into_trajectories/tripsintotrajectories/simulation/IntQueue", "add", "(I)V"⟩ : MethodName)) (z := (⟨"com/example/trips_into_trajectories/tripsintotrajectories/simulation/IntQueue", "add", "(I)V"⟩ : MethodName)) hown (mvT hZ (hw _ (List.mem_of_getElem? (i := 12) rfl))) (mvT hZ (hw _ (List.mem_of_getElem? (i := 13) rfl))) (notFace_of_selects (args := #[]) (mvT hZ (hw _ (List.mem_of_getElem? (i := 15) rfl)))) (mvT hZ (hw _ (List.mem_of_getElem? (i := 15) rfl))) (mvT hZ (hw _ (List.mem_of_getElem? (i := 14) rfl))) (by decide) (backOf (W := 0) (rmD l Z a0 hw [] q p3 2 (fun i => md (i + 0)) T10.heap n0 J2.le J2 (by omega)) hZ (hw _ (List.mem_of_getElem? (i := 16) rfl)) (hw _ (List.mem_of_getElem? (i := 2) rfl)) (by decide) (by decide)) q12a q12c (g := (mkF m 49 #[.val (.int p1), .val (.int p2), .val (.int p3), .val (.int p4), .val (.int p5), .val (.int p6), .val (.int pp), .val (.int gw), .val (.int ff), .val (.ref q), .unset, .unset, .unset] [(.int p3), (.ref q)])) rfl (by rw [hml]; rfl) (Steps.refl _) (argsL := [(.int p3)]) (rest := []) (lenOf pd_rm0_1 rfl) rfl (by show 2 * 0 + _ ≤ _; exact Nat.le_of_eq rfl) (hb hby at_49) (fun _ _ => ⟨rfl, (rfl : T10.heap = T10.heap), (by decide : 4 + 1 ≤ _), (by decide : 23 + 8 ≤ _)⟩)
  dsimp only [Pt.U, Pt.locs, Pt.cells, Pt.slots] at X12 l12 y12 z12 st12 hQ12
  subst l12 y12 z12
  obtain ⟨rfl, N12q, I12⟩ := hQ12
  have N12 := Fr.app N10 N12q
  have pre12 : Steps p.tables e below _ (T12.setTop (mkF m 52 #[.val (.int p1), .val (.int p2), .val (.int p3), .val (.int p4), .val (.int p5), .val (.int p6), .val (.int pp), .val (.int gw), .val (.int ff), .val (.ref q), .unset, .unset, .unset] [])) := pre11.trans (st12)
  have J3 : IQ Z n0 T12.heap q (2 + 1) (fun i => md (i + 0)) := IQ.next I12 (by rw [h_md]; rfl)
  have e00 : (0 : Int32).toInt = 0 := rfl
  have e11 : (1 : Int32).toInt = 1 := rfl
  have e22 : (2 : Int32).toInt = 2 := rfl
  have e33 : (3 : Int32).toInt = 3 := rfl
  obtain ⟨P1, lp1, j1, XP1, NP1, JP1, hj1, preP1⟩ : ∃ (T' : State) (l' : List Loc) (j : Nat), Stand p l e room_1 s m #[(.int p1), (.int p2), (.int p3), (.int p4), (.int p5), (.int p6)] below meth c T' l' 5 31 ∧ Fr n0 l' ∧ IQ Z n0 T'.heap q (3 - j) (fun i => md (i + j)) ∧ (j : Int) = (if pp.toInt < 1 then pp.toInt else 1) ∧ Steps p.tables e below (s₁.setTop (entryFrame m #[(.int p1), (.int p2), (.int p3), (.int p4), (.int p5), (.int p6)] maxLocals)) (T'.setTop (mkF m 64 #[.val (.int p1), .val (.int p2), .val (.int p3), .val (.int p4), .val (.int p5), .val (.int p6), .val (.int pp), .val (.int gw), .val (.int ff), .val (.ref q), .unset, .unset, .unset] [])) := by
    rcases Decidable.em (pp < (1 : Int32)) with h | h
    · have hlt : pp.toInt < 1 := by rw [own_lt, e11] at h; exact h
      have pre13 : Steps p.tables e below _ (T12.setTop (mkF m 64 #[.val (.int p1), .val (.int p2), .val (.int p3), .val (.int p4), .val (.int p5), .val (.int p6), .val (.int pp), .val (.int gw), .val (.int ff), .val (.ref q), .unset, .unset, .unset] [])) := pre12.trans (by
        show Steps p.tables e below (T12.setTop (mkF m 52 #[.val (.int p1), .val (.int p2), .val (.int p3), .val (.int p4), .val (.int p5), .val (.int p6), .val (.int pp), .val (.int gw), .val (.int ff), .val (.ref q), .unset, .unset, .unset] [])) _
        refine XS.iload X12.here hx rfl (hb hby at_52) rfl ?_
        show Steps p.tables e below (T12.setTop (mkF m 54 #[.val (.int p1), .val (.int p2), .val (.int p3), .val (.int p4), .val (.int p5), .val (.int p6), .val (.int pp), .val (.int gw), .val (.int ff), .val (.ref q), .unset, .unset, .unset] [(.int pp)])) _
        refine XS.iconst X12.here hx rfl (hb hby at_54) ?_
        show Steps p.tables e below (T12.setTop (mkF m 55 #[.val (.int p1), .val (.int p2), .val (.int p3), .val (.int p4), .val (.int p5), .val (.int p6), .val (.int pp), .val (.int gw), .val (.int ff), .val (.ref q), .unset, .unset, .unset] [(.int (1 : Int32)), (.int pp)])) _
        refine XS.icmpYes X12.here hx rfl (pc0 := 55) (pc' := 64) rfl (hb hby at_55) rfl (tlt h).1 (by decide) (by decide) ?_
        exact Steps.refl _)
      exact ⟨_, _, 0, X12, N12, J3, by rw [if_pos hlt]; omega, pre13⟩
    · have hge : ¬ pp.toInt < 1 := by rw [own_lt, e11] at h; exact h
      have pre14 : Steps p.tables e below _ (T12.setTop (mkF m 60 #[.val (.int p1), .val (.int p2), .val (.int p3), .val (.int p4), .val (.int p5), .val (.int p6), .val (.int pp), .val (.int gw), .val (.int ff), .val (.ref q), .unset, .unset, .unset] [(.ref q)])) := pre12.trans (by
        show Steps p.tables e below (T12.setTop (mkF m 52 #[.val (.int p1), .val (.int p2), .val (.int p3), .val (.int p4), .val (.int p5), .val (.int p6), .val (.int pp), .val (.int gw), .val (.int ff), .val (.ref q), .unset, .unset, .unset] [])) _
        refine XS.iload X12.here hx rfl (hb hby at_52) rfl ?_
        show Steps p.tables e below (T12.setTop (mkF m 54 #[.val (.int p1), .val (.int p2), .val (.int p3), .val (.int p4), .val (.int p5), .val (.int p6), .val (.int pp), .val (.int gw), .val (.int ff), .val (.ref q), .unset, .unset, .unset] [(.int pp)])) _
        refine XS.iconst X12.here hx rfl (hb hby at_54) ?_
        show Steps p.tables e below (T12.setTop (mkF m 55 #[.val (.int p1), .val (.int p2), .val (.int p3), .val (.int p4), .val (.int p5), .val (.int p6), .val (.int pp), .val (.int gw), .val (.int ff), .val (.ref q), .unset, .unset, .unset] [(.int (1 : Int32)), (.int pp)])) _
        refine XS.icmpNo X12.here hx rfl (hb hby at_55) rfl (flt h).1 ?_
        show Steps p.tables e below (T12.setTop (mkF m 58 #[.val (.int p1), .val (.int p2), .val (.int p3), .val (.int p4), .val (.int p5), .val (.int p6), .val (.int pp), .val (.int gw), .val (.int ff), .val (.ref q), .unset, .unset, .unset] [])) _
        refine XS.aload X12.here hx rfl (hb hby at_58) rfl rfl ?_
        exact Steps.refl _)
      obtain ⟨cq15, kq15, q15a, q15b, q15c⟩ := isOf hZ (rfl : T12.heap = T12.heap) J3.exa
      obtain ⟨_, _, ⟨T15, L15, k15, n15⟩, -, X15, ⟨Lc15, hQ15, l15, y15, z15⟩, st15⟩ := X12.virtualBack hx (y := (⟨"com/example/trips_into_trajectories/tripsintotrajectories/simulation/IntQueue", "poll", "()I"⟩ : MethodName)) (z := (⟨"com/example/trips_into_trajectories/tripsintotrajectories/simulation/IntQueue", "poll", "()I"⟩ : MethodName)) hown (mvT hZ (hw _ (List.mem_of_getElem? (i := 21) rfl))) (mvT hZ (hw _ (List.mem_of_getElem? (i := 22) rfl))) (notFace_of_selects (args := #[]) (mvT hZ (hw _ (List.mem_of_getElem? (i := 24) rfl)))) (mvT hZ (hw _ (List.mem_of_getElem? (i := 24) rfl))) (mvT hZ (hw _ (List.mem_of_getElem? (i := 23) rfl))) (by decide) (backOf (W := 0) (rmP l Z a0 hw [] q 2 (fun i => md (i + 0)) T12.heap n0 J3.le J3) hZ (hw _ (List.mem_of_getElem? (i := 25) rfl)) (hw _ (List.mem_of_getElem? (i := 2) rfl)) (by decide) (by decide)) q15a q15c (g := (mkF m 60 #[.val (.int p1), .val (.int p2), .val (.int p3), .val (.int p4), .val (.int p5), .val (.int p6), .val (.int pp), .val (.int gw), .val (.int ff), .val (.ref q), .unset, .unset, .unset] [(.ref q)])) rfl (by rw [hml]; rfl) (Steps.refl _) (argsL := []) (rest := []) (lenOf pd_rm0_2 rfl) rfl (by show 2 * 0 + _ ≤ _; exact Nat.le_of_eq rfl) (hb hby at_60) (fun _ _ => ⟨rfl, (rfl : T12.heap = T12.heap), (by decide : 5 + 0 ≤ _), (by decide : 31 + 0 ≤ _)⟩)
      dsimp only [Pt.U, Pt.locs, Pt.cells, Pt.slots] at X15 l15 y15 z15 st15 hQ15
      subst l15 y15 z15
      obtain ⟨rfl, N15q, I15⟩ := hQ15
      have N15 := Fr.app N12 N15q
      have pre15 : Steps p.tables e below _ (T15.setTop (mkF m 63 #[.val (.int p1), .val (.int p2), .val (.int p3), .val (.int p4), .val (.int p5), .val (.int p6), .val (.int pp), .val (.int gw), .val (.int ff), .val (.ref q), .unset, .unset, .unset] [(.int (md (0 + 0)))])) := pre14.trans (st15)
      have pre16 : Steps p.tables e below _ (T15.setTop (mkF m 64 #[.val (.int p1), .val (.int p2), .val (.int p3), .val (.int p4), .val (.int p5), .val (.int p6), .val (.int pp), .val (.int gw), .val (.int ff), .val (.ref q), .unset, .unset, .unset] [])) := pre15.trans (by
        show Steps p.tables e below (T15.setTop (mkF m 63 #[.val (.int p1), .val (.int p2), .val (.int p3), .val (.int p4), .val (.int p5), .val (.int p6), .val (.int pp), .val (.int gw), .val (.int ff), .val (.ref q), .unset, .unset, .unset] [(.int (md (0 + 0)))])) _
        refine XS.pop X15.here hx rfl (hb hby at_63) rfl rfl ?_
        exact Steps.refl _)
      exact ⟨_, _, 1, X15, N15, IQ.less I15, by rw [if_neg hge]; rfl, pre16⟩
  obtain ⟨P2, lp2, j2, XP2, NP2, JP2, hj2, preP2⟩ : ∃ (T' : State) (l' : List Loc) (j : Nat), Stand p l e room_1 s m #[(.int p1), (.int p2), (.int p3), (.int p4), (.int p5), (.int p6)] below meth c T' l' 5 31 ∧ Fr n0 l' ∧ IQ Z n0 T'.heap q (3 - j) (fun i => md (i + j)) ∧ (j : Int) = (if pp.toInt < 2 then pp.toInt else 2) ∧ Steps p.tables e below (s₁.setTop (entryFrame m #[(.int p1), (.int p2), (.int p3), (.int p4), (.int p5), (.int p6)] maxLocals)) (T'.setTop (mkF m 76 #[.val (.int p1), .val (.int p2), .val (.int p3), .val (.int p4), .val (.int p5), .val (.int p6), .val (.int pp), .val (.int gw), .val (.int ff), .val (.ref q), .unset, .unset, .unset] [])) := by
    rcases Decidable.em (pp < (2 : Int32)) with h | h
    · have hlt : pp.toInt < 2 := by rw [own_lt, e22] at h; exact h
      have pre17 : Steps p.tables e below _ (P1.setTop (mkF m 76 #[.val (.int p1), .val (.int p2), .val (.int p3), .val (.int p4), .val (.int p5), .val (.int p6), .val (.int pp), .val (.int gw), .val (.int ff), .val (.ref q), .unset, .unset, .unset] [])) := preP1.trans (by
        show Steps p.tables e below (P1.setTop (mkF m 64 #[.val (.int p1), .val (.int p2), .val (.int p3), .val (.int p4), .val (.int p5), .val (.int p6), .val (.int pp), .val (.int gw), .val (.int ff), .val (.ref q), .unset, .unset, .unset] [])) _
        refine XS.iload XP1.here hx rfl (hb hby at_64) rfl ?_
        show Steps p.tables e below (P1.setTop (mkF m 66 #[.val (.int p1), .val (.int p2), .val (.int p3), .val (.int p4), .val (.int p5), .val (.int p6), .val (.int pp), .val (.int gw), .val (.int ff), .val (.ref q), .unset, .unset, .unset] [(.int pp)])) _
        refine XS.iconst XP1.here hx rfl (hb hby at_66) ?_
        show Steps p.tables e below (P1.setTop (mkF m 67 #[.val (.int p1), .val (.int p2), .val (.int p3), .val (.int p4), .val (.int p5), .val (.int p6), .val (.int pp), .val (.int gw), .val (.int ff), .val (.ref q), .unset, .unset, .unset] [(.int (2 : Int32)), (.int pp)])) _
        refine XS.icmpYes XP1.here hx rfl (pc0 := 67) (pc' := 76) rfl (hb hby at_67) rfl (tlt h).1 (by decide) (by decide) ?_
        exact Steps.refl _)
      exact ⟨_, _, j1, XP1, NP1, JP1, by rw [if_pos hlt]; rw [hj1]; by_cases qq : pp.toInt < 1; exact if_pos qq; rw [if_neg qq]; omega, pre17⟩
    · have hge : ¬ pp.toInt < 2 := by rw [own_lt, e22] at h; exact h
      have hjt : j1 = 1 := by have q := hj1; rw [if_neg (by omega)] at q; omega
      subst hjt
      have pre18 : Steps p.tables e below _ (P1.setTop (mkF m 72 #[.val (.int p1), .val (.int p2), .val (.int p3), .val (.int p4), .val (.int p5), .val (.int p6), .val (.int pp), .val (.int gw), .val (.int ff), .val (.ref q), .unset, .unset, .unset] [(.ref q)])) := preP1.trans (by
        show Steps p.tables e below (P1.setTop (mkF m 64 #[.val (.int p1), .val (.int p2), .val (.int p3), .val (.int p4), .val (.int p5), .val (.int p6), .val (.int pp), .val (.int gw), .val (.int ff), .val (.ref q), .unset, .unset, .unset] [])) _
        refine XS.iload XP1.here hx rfl (hb hby at_64) rfl ?_
        show Steps p.tables e below (P1.setTop (mkF m 66 #[.val (.int p1), .val (.int p2), .val (.int p3), .val (.int p4), .val (.int p5), .val (.int p6), .val (.int pp), .val (.int gw), .val (.int ff), .val (.ref q), .unset, .unset, .unset] [(.int pp)])) _
        refine XS.iconst XP1.here hx rfl (hb hby at_66) ?_
        show Steps p.tables e below (P1.setTop (mkF m 67 #[.val (.int p1), .val (.int p2), .val (.int p3), .val (.int p4), .val (.int p5), .val (.int p6), .val (.int pp), .val (.int gw), .val (.int ff), .val (.ref q), .unset, .unset, .unset] [(.int (2 : Int32)), (.int pp)])) _
        refine XS.icmpNo XP1.here hx rfl (hb hby at_67) rfl (flt h).1 ?_
        show Steps p.tables e below (P1.setTop (mkF m 70 #[.val (.int p1), .val (.int p2), .val (.int p3), .val (.int p4), .val (.int p5), .val (.int p6), .val (.int pp), .val (.int gw), .val (.int ff), .val (.ref q), .unset, .unset, .unset] [])) _
        refine XS.aload XP1.here hx rfl (hb hby at_70) rfl rfl ?_
        exact Steps.refl _)
      obtain ⟨cq19, kq19, q19a, q19b, q19c⟩ := isOf hZ (rfl : P1.heap = P1.heap) JP1.exa
      obtain ⟨_, _, ⟨T19, L19, k19, n19⟩, -, X19, ⟨Lc19, hQ19, l19, y19, z19⟩, st19⟩ := XP1.virtualBack hx (y := (⟨"com/example/trips_into_trajectories/tripsintotrajectories/simulation/IntQueue", "poll", "()I"⟩ : MethodName)) (z := (⟨"com/example/trips_into_trajectories/tripsintotrajectories/simulation/IntQueue", "poll", "()I"⟩ : MethodName)) hown (mvT hZ (hw _ (List.mem_of_getElem? (i := 21) rfl))) (mvT hZ (hw _ (List.mem_of_getElem? (i := 22) rfl))) (notFace_of_selects (args := #[]) (mvT hZ (hw _ (List.mem_of_getElem? (i := 24) rfl)))) (mvT hZ (hw _ (List.mem_of_getElem? (i := 24) rfl))) (mvT hZ (hw _ (List.mem_of_getElem? (i := 23) rfl))) (by decide) (backOf (W := 0) (rmP l Z a0 hw [] q 1 (fun i => md (i + 1)) P1.heap n0 JP1.le JP1) hZ (hw _ (List.mem_of_getElem? (i := 25) rfl)) (hw _ (List.mem_of_getElem? (i := 2) rfl)) (by decide) (by decide)) q19a q19c (g := (mkF m 72 #[.val (.int p1), .val (.int p2), .val (.int p3), .val (.int p4), .val (.int p5), .val (.int p6), .val (.int pp), .val (.int gw), .val (.int ff), .val (.ref q), .unset, .unset, .unset] [(.ref q)])) rfl (by rw [hml]; rfl) (Steps.refl _) (argsL := []) (rest := []) (lenOf pd_rm0_2 rfl) rfl (by show 2 * 0 + _ ≤ _; exact Nat.le_of_eq rfl) (hb hby at_72) (fun _ _ => ⟨rfl, (rfl : P1.heap = P1.heap), (by decide : 5 + 0 ≤ _), (by decide : 31 + 0 ≤ _)⟩)
      dsimp only [Pt.U, Pt.locs, Pt.cells, Pt.slots] at X19 l19 y19 z19 st19 hQ19
      subst l19 y19 z19
      obtain ⟨rfl, N19q, I19⟩ := hQ19
      have N19 := Fr.app NP1 N19q
      have pre19 : Steps p.tables e below _ (T19.setTop (mkF m 75 #[.val (.int p1), .val (.int p2), .val (.int p3), .val (.int p4), .val (.int p5), .val (.int p6), .val (.int pp), .val (.int gw), .val (.int ff), .val (.ref q), .unset, .unset, .unset] [(.int (md (0 + 1)))])) := pre18.trans (st19)
      have pre20 : Steps p.tables e below _ (T19.setTop (mkF m 76 #[.val (.int p1), .val (.int p2), .val (.int p3), .val (.int p4), .val (.int p5), .val (.int p6), .val (.int pp), .val (.int gw), .val (.int ff), .val (.ref q), .unset, .unset, .unset] [])) := pre19.trans (by
        show Steps p.tables e below (T19.setTop (mkF m 75 #[.val (.int p1), .val (.int p2), .val (.int p3), .val (.int p4), .val (.int p5), .val (.int p6), .val (.int pp), .val (.int gw), .val (.int ff), .val (.ref q), .unset, .unset, .unset] [(.int (md (0 + 1)))])) _
        refine XS.pop X19.here hx rfl (hb hby at_75) rfl rfl ?_
        exact Steps.refl _)
      exact ⟨_, _, 2, X19, N19, IQ.less I19, by rw [if_neg hge]; rfl, pre20⟩
  obtain ⟨P3, lp3, j3, XP3, NP3, JP3, hj3, preP3⟩ : ∃ (T' : State) (l' : List Loc) (j : Nat), Stand p l e room_1 s m #[(.int p1), (.int p2), (.int p3), (.int p4), (.int p5), (.int p6)] below meth c T' l' 5 31 ∧ Fr n0 l' ∧ IQ Z n0 T'.heap q (3 - j) (fun i => md (i + j)) ∧ (j : Int) = (if pp.toInt < 3 then pp.toInt else 3) ∧ Steps p.tables e below (s₁.setTop (entryFrame m #[(.int p1), (.int p2), (.int p3), (.int p4), (.int p5), (.int p6)] maxLocals)) (T'.setTop (mkF m 88 #[.val (.int p1), .val (.int p2), .val (.int p3), .val (.int p4), .val (.int p5), .val (.int p6), .val (.int pp), .val (.int gw), .val (.int ff), .val (.ref q), .unset, .unset, .unset] [])) := by
    rcases Decidable.em (pp < (3 : Int32)) with h | h
    · have hlt : pp.toInt < 3 := by rw [own_lt, e33] at h; exact h
      have pre21 : Steps p.tables e below _ (P2.setTop (mkF m 88 #[.val (.int p1), .val (.int p2), .val (.int p3), .val (.int p4), .val (.int p5), .val (.int p6), .val (.int pp), .val (.int gw), .val (.int ff), .val (.ref q), .unset, .unset, .unset] [])) := preP2.trans (by
        show Steps p.tables e below (P2.setTop (mkF m 76 #[.val (.int p1), .val (.int p2), .val (.int p3), .val (.int p4), .val (.int p5), .val (.int p6), .val (.int pp), .val (.int gw), .val (.int ff), .val (.ref q), .unset, .unset, .unset] [])) _
        refine XS.iload XP2.here hx rfl (hb hby at_76) rfl ?_
        show Steps p.tables e below (P2.setTop (mkF m 78 #[.val (.int p1), .val (.int p2), .val (.int p3), .val (.int p4), .val (.int p5), .val (.int p6), .val (.int pp), .val (.int gw), .val (.int ff), .val (.ref q), .unset, .unset, .unset] [(.int pp)])) _
        refine XS.iconst XP2.here hx rfl (hb hby at_78) ?_
        show Steps p.tables e below (P2.setTop (mkF m 79 #[.val (.int p1), .val (.int p2), .val (.int p3), .val (.int p4), .val (.int p5), .val (.int p6), .val (.int pp), .val (.int gw), .val (.int ff), .val (.ref q), .unset, .unset, .unset] [(.int (3 : Int32)), (.int pp)])) _
        refine XS.icmpYes XP2.here hx rfl (pc0 := 79) (pc' := 88) rfl (hb hby at_79) rfl (tlt h).1 (by decide) (by decide) ?_
        exact Steps.refl _)
      exact ⟨_, _, j2, XP2, NP2, JP2, by rw [if_pos hlt]; rw [hj2]; by_cases qq : pp.toInt < 2; exact if_pos qq; rw [if_neg qq]; omega, pre21⟩
    · have hge : ¬ pp.toInt < 3 := by rw [own_lt, e33] at h; exact h
      have hjt : j2 = 2 := by have q := hj2; rw [if_neg (by omega)] at q; omega
      subst hjt
      have pre22 : Steps p.tables e below _ (P2.setTop (mkF m 84 #[.val (.int p1), .val (.int p2), .val (.int p3), .val (.int p4), .val (.int p5), .val (.int p6), .val (.int pp), .val (.int gw), .val (.int ff), .val (.ref q), .unset, .unset, .unset] [(.ref q)])) := preP2.trans (by
        show Steps p.tables e below (P2.setTop (mkF m 76 #[.val (.int p1), .val (.int p2), .val (.int p3), .val (.int p4), .val (.int p5), .val (.int p6), .val (.int pp), .val (.int gw), .val (.int ff), .val (.ref q), .unset, .unset, .unset] [])) _
        refine XS.iload XP2.here hx rfl (hb hby at_76) rfl ?_
        show Steps p.tables e below (P2.setTop (mkF m 78 #[.val (.int p1), .val (.int p2), .val (.int p3), .val (.int p4), .val (.int p5), .val (.int p6), .val (.int pp), .val (.int gw), .val (.int ff), .val (.ref q), .unset, .unset, .unset] [(.int pp)])) _
        refine XS.iconst XP2.here hx rfl (hb hby at_78) ?_
        show Steps p.tables e below (P2.setTop (mkF m 79 #[.val (.int p1), .val (.int p2), .val (.int p3), .val (.int p4), .val (.int p5), .val (.int p6), .val (.int pp), .val (.int gw), .val (.int ff), .val (.ref q), .unset, .unset, .unset] [(.int (3 : Int32)), (.int pp)])) _
        refine XS.icmpNo XP2.here hx rfl (hb hby at_79) rfl (flt h).1 ?_
        show Steps p.tables e below (P2.setTop (mkF m 82 #[.val (.int p1), .val (.int p2), .val (.int p3), .val (.int p4), .val (.int p5), .val (.int p6), .val (.int pp), .val (.int gw), .val (.int ff), .val (.ref q), .unset, .unset, .unset] [])) _
        refine XS.aload XP2.here hx rfl (hb hby at_82) rfl rfl ?_
        exact Steps.refl _)
      obtain ⟨cq23, kq23, q23a, q23b, q23c⟩ := isOf hZ (rfl : P2.heap = P2.heap) JP2.exa
      obtain ⟨_, _, ⟨T23, L23, k23, n23⟩, -, X23, ⟨Lc23, hQ23, l23, y23, z23⟩, st23⟩ := XP2.virtualBack hx (y := (⟨"com/example/trips_into_trajectories/tripsintotrajectories/simulation/IntQueue", "poll", "()I"⟩ : MethodName)) (z := (⟨"com/example/trips_into_trajectories/tripsintotrajectories/simulation/IntQueue", "poll", "()I"⟩ : MethodName)) hown (mvT hZ (hw _ (List.mem_of_getElem? (i := 21) rfl))) (mvT hZ (hw _ (List.mem_of_getElem? (i := 22) rfl))) (notFace_of_selects (args := #[]) (mvT hZ (hw _ (List.mem_of_getElem? (i := 24) rfl)))) (mvT hZ (hw _ (List.mem_of_getElem? (i := 24) rfl))) (mvT hZ (hw _ (List.mem_of_getElem? (i := 23) rfl))) (by decide) (backOf (W := 0) (rmP l Z a0 hw [] q 0 (fun i => md (i + 2)) P2.heap n0 JP2.le JP2) hZ (hw _ (List.mem_of_getElem? (i := 25) rfl)) (hw _ (List.mem_of_getElem? (i := 2) rfl)) (by decide) (by decide)) q23a q23c (g := (mkF m 84 #[.val (.int p1), .val (.int p2), .val (.int p3), .val (.int p4), .val (.int p5), .val (.int p6), .val (.int pp), .val (.int gw), .val (.int ff), .val (.ref q), .unset, .unset, .unset] [(.ref q)])) rfl (by rw [hml]; rfl) (Steps.refl _) (argsL := []) (rest := []) (lenOf pd_rm0_2 rfl) rfl (by show 2 * 0 + _ ≤ _; exact Nat.le_of_eq rfl) (hb hby at_84) (fun _ _ => ⟨rfl, (rfl : P2.heap = P2.heap), (by decide : 5 + 0 ≤ _), (by decide : 31 + 0 ≤ _)⟩)
      dsimp only [Pt.U, Pt.locs, Pt.cells, Pt.slots] at X23 l23 y23 z23 st23 hQ23
      subst l23 y23 z23
      obtain ⟨rfl, N23q, I23⟩ := hQ23
      have N23 := Fr.app NP2 N23q
      have pre23 : Steps p.tables e below _ (T23.setTop (mkF m 87 #[.val (.int p1), .val (.int p2), .val (.int p3), .val (.int p4), .val (.int p5), .val (.int p6), .val (.int pp), .val (.int gw), .val (.int ff), .val (.ref q), .unset, .unset, .unset] [(.int (md (0 + 2)))])) := pre22.trans (st23)
      have pre24 : Steps p.tables e below _ (T23.setTop (mkF m 88 #[.val (.int p1), .val (.int p2), .val (.int p3), .val (.int p4), .val (.int p5), .val (.int p6), .val (.int pp), .val (.int gw), .val (.int ff), .val (.ref q), .unset, .unset, .unset] [])) := pre23.trans (by
        show Steps p.tables e below (T23.setTop (mkF m 87 #[.val (.int p1), .val (.int p2), .val (.int p3), .val (.int p4), .val (.int p5), .val (.int p6), .val (.int pp), .val (.int gw), .val (.int ff), .val (.ref q), .unset, .unset, .unset] [(.int (md (0 + 2)))])) _
        refine XS.pop X23.here hx rfl (hb hby at_87) rfl rfl ?_
        exact Steps.refl _)
      exact ⟨_, _, 3, X23, N23, IQ.less I23, by rw [if_neg hge]; rfl, pre24⟩
  have hj : (j3 : Int) = pp.toInt := by have q := hj3; by_cases qq : pp.toInt < 3; rw [if_pos qq] at q; exact q; rw [if_neg qq] at q; omega
  have pre25 : Steps p.tables e below _ (P3.setTop (mkF m 91 #[.val (.int p1), .val (.int p2), .val (.int p3), .val (.int p4), .val (.int p5), .val (.int p6), .val (.int pp), .val (.int gw), .val (.int ff), .val (.ref q), .unset, .unset, .unset] [(.int p4), (.ref q)])) := preP3.trans (by
    show Steps p.tables e below (P3.setTop (mkF m 88 #[.val (.int p1), .val (.int p2), .val (.int p3), .val (.int p4), .val (.int p5), .val (.int p6), .val (.int pp), .val (.int gw), .val (.int ff), .val (.ref q), .unset, .unset, .unset] [])) _
    refine XS.aload XP3.here hx rfl (hb hby at_88) rfl rfl ?_
    show Steps p.tables e below (P3.setTop (mkF m 90 #[.val (.int p1), .val (.int p2), .val (.int p3), .val (.int p4), .val (.int p5), .val (.int p6), .val (.int pp), .val (.int gw), .val (.int ff), .val (.ref q), .unset, .unset, .unset] [(.ref q)])) _
    refine XS.iloadN XP3.here hx rfl (hb hby at_90) rfl ?_
    exact Steps.refl _)
  obtain ⟨cq26, kq26, q26a, q26b, q26c⟩ := isOf hZ (rfl : P3.heap = P3.heap) JP3.exa
  obtain ⟨_, _, ⟨T26, L26, k26, n26⟩, -, X26, ⟨Lc26, hQ26, l26, y26, z26⟩, st26⟩ := XP3.virtualBack hx (y := (⟨"com/example/trips_into_trajectories/tripsintotrajectories/simulation/IntQueue", "add", "(I)V"⟩ : MethodName)) (z := (⟨"com/example/trips_into_trajectories/tripsintotrajectories/simulation/IntQueue", "add", "(I)V"⟩ : MethodName)) hown (mvT hZ (hw _ (List.mem_of_getElem? (i := 12) rfl))) (mvT hZ (hw _ (List.mem_of_getElem? (i := 13) rfl))) (notFace_of_selects (args := #[]) (mvT hZ (hw _ (List.mem_of_getElem? (i := 15) rfl)))) (mvT hZ (hw _ (List.mem_of_getElem? (i := 15) rfl))) (mvT hZ (hw _ (List.mem_of_getElem? (i := 14) rfl))) (by decide) (backOf (W := 0) (rmD l Z a0 hw [] q p4 (3 - j3) (fun i => md (i + j3)) P3.heap n0 JP3.le JP3 (by omega)) hZ (hw _ (List.mem_of_getElem? (i := 16) rfl)) (hw _ (List.mem_of_getElem? (i := 2) rfl)) (by decide) (by decide)) q26a q26c (g := (mkF m 91 #[.val (.int p1), .val (.int p2), .val (.int p3), .val (.int p4), .val (.int p5), .val (.int p6), .val (.int pp), .val (.int gw), .val (.int ff), .val (.ref q), .unset, .unset, .unset] [(.int p4), (.ref q)])) rfl (by rw [hml]; rfl) (Steps.refl _) (argsL := [(.int p4)]) (rest := []) (lenOf pd_rm0_1 rfl) rfl (by show 2 * 0 + _ ≤ _; exact Nat.le_of_eq rfl) (hb hby at_91) (fun _ _ => ⟨rfl, (rfl : P3.heap = P3.heap), (by decide : 5 + 1 ≤ _), (by decide : 31 + 8 ≤ _)⟩)
  dsimp only [Pt.U, Pt.locs, Pt.cells, Pt.slots] at X26 l26 y26 z26 st26 hQ26
  subst l26 y26 z26
  obtain ⟨rfl, N26q, I26⟩ := hQ26
  have N26 := Fr.app NP3 N26q
  have pre26 : Steps p.tables e below _ (T26.setTop (mkF m 94 #[.val (.int p1), .val (.int p2), .val (.int p3), .val (.int p4), .val (.int p5), .val (.int p6), .val (.int pp), .val (.int gw), .val (.int ff), .val (.ref q), .unset, .unset, .unset] [])) := pre25.trans (st26)
  have J4 : IQ Z n0 T26.heap q ((3 - j3) + 1) (fun i => md (i + j3)) := IQ.next I26 (by rw [show 3 - j3 + j3 = 3 by omega, h_md]; rfl)
  have pre27 : Steps p.tables e below _ (T26.setTop (mkF m 98 #[.val (.int p1), .val (.int p2), .val (.int p3), .val (.int p4), .val (.int p5), .val (.int p6), .val (.int pp), .val (.int gw), .val (.int ff), .val (.ref q), .unset, .unset, .unset] [(.int p5), (.ref q)])) := pre26.trans (by
    show Steps p.tables e below (T26.setTop (mkF m 94 #[.val (.int p1), .val (.int p2), .val (.int p3), .val (.int p4), .val (.int p5), .val (.int p6), .val (.int pp), .val (.int gw), .val (.int ff), .val (.ref q), .unset, .unset, .unset] [])) _
    refine XS.aload X26.here hx rfl (hb hby at_94) rfl rfl ?_
    show Steps p.tables e below (T26.setTop (mkF m 96 #[.val (.int p1), .val (.int p2), .val (.int p3), .val (.int p4), .val (.int p5), .val (.int p6), .val (.int pp), .val (.int gw), .val (.int ff), .val (.ref q), .unset, .unset, .unset] [(.ref q)])) _
    refine XS.iload X26.here hx rfl (hb hby at_96) rfl ?_
    exact Steps.refl _)
  obtain ⟨cq28, kq28, q28a, q28b, q28c⟩ := isOf hZ (rfl : T26.heap = T26.heap) J4.exa
  obtain ⟨_, _, ⟨T28, L28, k28, n28⟩, -, X28, ⟨Lc28, hQ28, l28, y28, z28⟩, st28⟩ := X26.virtualBack hx (y := (⟨"com/example/trips_into_trajectories/tripsintotrajectories/simulation/IntQueue", "add", "(I)V"⟩ : MethodName)) (z := (⟨"com/example/trips_into_trajectories/tripsintotrajectories/simulation/IntQueue", "add", "(I)V"⟩ : MethodName)) hown (mvT hZ (hw _ (List.mem_of_getElem? (i := 12) rfl))) (mvT hZ (hw _ (List.mem_of_getElem? (i := 13) rfl))) (notFace_of_selects (args := #[]) (mvT hZ (hw _ (List.mem_of_getElem? (i := 15) rfl)))) (mvT hZ (hw _ (List.mem_of_getElem? (i := 15) rfl))) (mvT hZ (hw _ (List.mem_of_getElem? (i := 14) rfl))) (by decide) (backOf (W := 0) (rmD l Z a0 hw [] q p5 (3 - j3 + 1) (fun i => md (i + j3)) T26.heap n0 J4.le J4 (by omega)) hZ (hw _ (List.mem_of_getElem? (i := 16) rfl)) (hw _ (List.mem_of_getElem? (i := 2) rfl)) (by decide) (by decide)) q28a q28c (g := (mkF m 98 #[.val (.int p1), .val (.int p2), .val (.int p3), .val (.int p4), .val (.int p5), .val (.int p6), .val (.int pp), .val (.int gw), .val (.int ff), .val (.ref q), .unset, .unset, .unset] [(.int p5), (.ref q)])) rfl (by rw [hml]; rfl) (Steps.refl _) (argsL := [(.int p5)]) (rest := []) (lenOf pd_rm0_1 rfl) rfl (by show 2 * 0 + _ ≤ _; exact Nat.le_of_eq rfl) (hb hby at_98) (fun _ _ => ⟨rfl, (rfl : T26.heap = T26.heap), (by decide : 6 + 1 ≤ _), (by decide : 39 + 8 ≤ _)⟩)
  dsimp only [Pt.U, Pt.locs, Pt.cells, Pt.slots] at X28 l28 y28 z28 st28 hQ28
  subst l28 y28 z28
  obtain ⟨rfl, N28q, I28⟩ := hQ28
  have N28 := Fr.app N26 N28q
  have pre28 : Steps p.tables e below _ (T28.setTop (mkF m 101 #[.val (.int p1), .val (.int p2), .val (.int p3), .val (.int p4), .val (.int p5), .val (.int p6), .val (.int pp), .val (.int gw), .val (.int ff), .val (.ref q), .unset, .unset, .unset] [])) := pre27.trans (st28)
  have J5 : IQ Z n0 T28.heap q ((3 - j3 + 1) + 1) (fun i => md (i + j3)) := IQ.next I28 (by rw [show 3 - j3 + 1 + j3 = 4 by omega, h_md]; rfl)
  obtain ⟨PG, lg, sz, XG, NG, JG, hsz, preG⟩ : ∃ (T' : State) (l' : List Loc) (sz : Nat), Stand p l e room_1 s m #[(.int p1), (.int p2), (.int p3), (.int p4), (.int p5), (.int p6)] below meth c T' l' 8 55 ∧ Fr n0 l' ∧ IQ Z n0 T'.heap q sz (fun i => md (i + j3)) ∧ (sz : Int) = 5 - pp.toInt + gw.toInt ∧ Steps p.tables e below (s₁.setTop (entryFrame m #[(.int p1), (.int p2), (.int p3), (.int p4), (.int p5), (.int p6)] maxLocals)) (T'.setTop (mkF m 113 #[.val (.int p1), .val (.int p2), .val (.int p3), .val (.int p4), .val (.int p5), .val (.int p6), .val (.int pp), .val (.int gw), .val (.int ff), .val (.ref q), .unset, .unset, .unset] [])) := by
    rcases Decidable.em (gw = (0 : Int32)) with h | h
    · have h103 := h
      have pre29 : Steps p.tables e below _ (T28.setTop (mkF m 113 #[.val (.int p1), .val (.int p2), .val (.int p3), .val (.int p4), .val (.int p5), .val (.int p6), .val (.int pp), .val (.int gw), .val (.int ff), .val (.ref q), .unset, .unset, .unset] [])) := pre28.trans (by
        show Steps p.tables e below (T28.setTop (mkF m 101 #[.val (.int p1), .val (.int p2), .val (.int p3), .val (.int p4), .val (.int p5), .val (.int p6), .val (.int pp), .val (.int gw), .val (.int ff), .val (.ref q), .unset, .unset, .unset] [])) _
        refine XS.iload X28.here hx rfl (hb hby at_101) rfl ?_
        show Steps p.tables e below (T28.setTop (mkF m 103 #[.val (.int p1), .val (.int p2), .val (.int p3), .val (.int p4), .val (.int p5), .val (.int p6), .val (.int pp), .val (.int gw), .val (.int ff), .val (.ref q), .unset, .unset, .unset] [(.int gw)])) _
        refine XS.ifYes X28.here hx rfl (pc0 := 103) (pc' := 113) rfl (hb hby at_103) rfl ((if0 _ _).trans (teq h103).1) (by decide) (by decide) ?_
        exact Steps.refl _)
      exact ⟨_, _, _, X28.more (by decide) (by decide), N28, J5, by rw [h103, e00]; omega, pre29⟩
    · have h103 := h
      have hg1 : gw = 1 := by rcases bg with q | q; exact absurd q h103; exact q
      have pre30 : Steps p.tables e below _ (T28.setTop (mkF m 110 #[.val (.int p1), .val (.int p2), .val (.int p3), .val (.int p4), .val (.int p5), .val (.int p6), .val (.int pp), .val (.int gw), .val (.int ff), .val (.ref q), .unset, .unset, .unset] [(.int ff), (.ref q)])) := pre28.trans (by
        show Steps p.tables e below (T28.setTop (mkF m 101 #[.val (.int p1), .val (.int p2), .val (.int p3), .val (.int p4), .val (.int p5), .val (.int p6), .val (.int pp), .val (.int gw), .val (.int ff), .val (.ref q), .unset, .unset, .unset] [])) _
        refine XS.iload X28.here hx rfl (hb hby at_101) rfl ?_
        show Steps p.tables e below (T28.setTop (mkF m 103 #[.val (.int p1), .val (.int p2), .val (.int p3), .val (.int p4), .val (.int p5), .val (.int p6), .val (.int pp), .val (.int gw), .val (.int ff), .val (.ref q), .unset, .unset, .unset] [(.int gw)])) _
        refine XS.ifNo X28.here hx rfl (hb hby at_103) rfl ((if0 _ _).trans (feq h103).1) ?_
        show Steps p.tables e below (T28.setTop (mkF m 106 #[.val (.int p1), .val (.int p2), .val (.int p3), .val (.int p4), .val (.int p5), .val (.int p6), .val (.int pp), .val (.int gw), .val (.int ff), .val (.ref q), .unset, .unset, .unset] [])) _
        refine XS.aload X28.here hx rfl (hb hby at_106) rfl rfl ?_
        show Steps p.tables e below (T28.setTop (mkF m 108 #[.val (.int p1), .val (.int p2), .val (.int p3), .val (.int p4), .val (.int p5), .val (.int p6), .val (.int pp), .val (.int gw), .val (.int ff), .val (.ref q), .unset, .unset, .unset] [(.ref q)])) _
        refine XS.iload X28.here hx rfl (hb hby at_108) rfl ?_
        exact Steps.refl _)
      obtain ⟨cq31, kq31, q31a, q31b, q31c⟩ := isOf hZ (rfl : T28.heap = T28.heap) J5.exa
      obtain ⟨_, _, ⟨T31, L31, k31, n31⟩, -, X31, ⟨Lc31, hQ31, l31, y31, z31⟩, st31⟩ := X28.virtualBack hx (y := (⟨"com/example/trips_into_trajectories/tripsintotrajectories/simulation/IntQueue", "add", "(I)V"⟩ : MethodName)) (z := (⟨"com/example/trips_into_trajectories/tripsintotrajectories/simulation/IntQueue", "add", "(I)V"⟩ : MethodName)) hown (mvT hZ (hw _ (List.mem_of_getElem? (i := 12) rfl))) (mvT hZ (hw _ (List.mem_of_getElem? (i := 13) rfl))) (notFace_of_selects (args := #[]) (mvT hZ (hw _ (List.mem_of_getElem? (i := 15) rfl)))) (mvT hZ (hw _ (List.mem_of_getElem? (i := 15) rfl))) (mvT hZ (hw _ (List.mem_of_getElem? (i := 14) rfl))) (by decide) (backOf (W := 0) (rmD l Z a0 hw [] q ff (3 - j3 + 1 + 1) (fun i => md (i + j3)) T28.heap n0 J5.le J5 (by omega)) hZ (hw _ (List.mem_of_getElem? (i := 16) rfl)) (hw _ (List.mem_of_getElem? (i := 2) rfl)) (by decide) (by decide)) q31a q31c (g := (mkF m 110 #[.val (.int p1), .val (.int p2), .val (.int p3), .val (.int p4), .val (.int p5), .val (.int p6), .val (.int pp), .val (.int gw), .val (.int ff), .val (.ref q), .unset, .unset, .unset] [(.int ff), (.ref q)])) rfl (by rw [hml]; rfl) (Steps.refl _) (argsL := [(.int ff)]) (rest := []) (lenOf pd_rm0_1 rfl) rfl (by show 2 * 0 + _ ≤ _; exact Nat.le_of_eq rfl) (hb hby at_110) (fun _ _ => ⟨rfl, (rfl : T28.heap = T28.heap), (by decide : 7 + 1 ≤ _), (by decide : 47 + 8 ≤ _)⟩)
      dsimp only [Pt.U, Pt.locs, Pt.cells, Pt.slots] at X31 l31 y31 z31 st31 hQ31
      subst l31 y31 z31
      obtain ⟨rfl, N31q, I31⟩ := hQ31
      have N31 := Fr.app N28 N31q
      have pre31 : Steps p.tables e below _ (T31.setTop (mkF m 113 #[.val (.int p1), .val (.int p2), .val (.int p3), .val (.int p4), .val (.int p5), .val (.int p6), .val (.int pp), .val (.int gw), .val (.int ff), .val (.ref q), .unset, .unset, .unset] [])) := pre30.trans (st31)
      have J6 : IQ Z n0 T31.heap q ((3 - j3 + 1 + 1) + 1) (fun i => md (i + j3)) := IQ.next I31 (by rw [show 3 - j3 + 1 + 1 + j3 = 5 by omega, h_md]; rfl)
      exact ⟨_, _, _, X31, N31, J6, by rw [hg1, e11]; omega, pre31⟩
  have pre32 : Steps p.tables e below _ (PG.setTop (mkF m 117 #[.val (.int p1), .val (.int p2), .val (.int p3), .val (.int p4), .val (.int p5), .val (.int p6), .val (.int pp), .val (.int gw), .val (.int ff), .val (.ref q), .unset, .unset, .unset] [(.int ((5 : Int32) - pp))])) := preG.trans (by
    show Steps p.tables e below (PG.setTop (mkF m 113 #[.val (.int p1), .val (.int p2), .val (.int p3), .val (.int p4), .val (.int p5), .val (.int p6), .val (.int pp), .val (.int gw), .val (.int ff), .val (.ref q), .unset, .unset, .unset] [])) _
    refine XS.iconst XG.here hx rfl (hb hby at_113) ?_
    show Steps p.tables e below (PG.setTop (mkF m 114 #[.val (.int p1), .val (.int p2), .val (.int p3), .val (.int p4), .val (.int p5), .val (.int p6), .val (.int pp), .val (.int gw), .val (.int ff), .val (.ref q), .unset, .unset, .unset] [(.int (5 : Int32))])) _
    refine XS.iload XG.here hx rfl (hb hby at_114) rfl ?_
    show Steps p.tables e below (PG.setTop (mkF m 116 #[.val (.int p1), .val (.int p2), .val (.int p3), .val (.int p4), .val (.int p5), .val (.int p6), .val (.int pp), .val (.int gw), .val (.int ff), .val (.ref q), .unset, .unset, .unset] [(.int pp), (.int (5 : Int32))])) _
    refine XS.isub XG.here hx rfl (hb hby at_116) rfl ?_
    exact Steps.refl _)
  obtain ⟨g2, h_g2⟩ : ∃ z, z = own_g2_0_3 gw pp := ⟨_, rfl⟩
  have Bg2_1 (hv0 : g2 = own_g2_0_1 gw pp) : Steps p.tables e below (PG.setTop (mkF m 126 #[.val (.int p1), .val (.int p2), .val (.int p3), .val (.int p4), .val (.int p5), .val (.int p6), .val (.int pp), .val (.int gw), .val (.int ff), .val (.ref q), .unset, .unset, .unset] [(.int ((5 : Int32) - pp))])) (PG.setTop (mkF m 127 #[.val (.int p1), .val (.int p2), .val (.int p3), .val (.int p4), .val (.int p5), .val (.int p6), .val (.int pp), .val (.int gw), .val (.int ff), .val (.ref q), .unset, .unset, .unset] [(.int g2), (.int ((5 : Int32) - pp))])) := by
    have hw0 : g2 = (0 : Int32) := hv0
    rw [hw0]
    show Steps p.tables e below (PG.setTop (mkF m 126 #[.val (.int p1), .val (.int p2), .val (.int p3), .val (.int p4), .val (.int p5), .val (.int p6), .val (.int pp), .val (.int gw), .val (.int ff), .val (.ref q), .unset, .unset, .unset] [(.int ((5 : Int32) - pp))])) _
    refine XS.iconst XG.here hx rfl (hb hby at_126) ?_
    exact Steps.refl _
  have Bg2_2 (hv0 : g2 = own_g2_0_2 gw pp) : Steps p.tables e below (PG.setTop (mkF m 122 #[.val (.int p1), .val (.int p2), .val (.int p3), .val (.int p4), .val (.int p5), .val (.int p6), .val (.int pp), .val (.int gw), .val (.int ff), .val (.ref q), .unset, .unset, .unset] [(.int ((5 : Int32) - pp))])) (PG.setTop (mkF m 127 #[.val (.int p1), .val (.int p2), .val (.int p3), .val (.int p4), .val (.int p5), .val (.int p6), .val (.int pp), .val (.int gw), .val (.int ff), .val (.ref q), .unset, .unset, .unset] [(.int g2), (.int ((5 : Int32) - pp))])) := by
    have hw0 : g2 = (1 : Int32) := hv0
    rw [hw0]
    show Steps p.tables e below (PG.setTop (mkF m 122 #[.val (.int p1), .val (.int p2), .val (.int p3), .val (.int p4), .val (.int p5), .val (.int p6), .val (.int pp), .val (.int gw), .val (.int ff), .val (.ref q), .unset, .unset, .unset] [(.int ((5 : Int32) - pp))])) _
    refine XS.iconst XG.here hx rfl (hb hby at_122) ?_
    show Steps p.tables e below (PG.setTop (mkF m 123 #[.val (.int p1), .val (.int p2), .val (.int p3), .val (.int p4), .val (.int p5), .val (.int p6), .val (.int pp), .val (.int gw), .val (.int ff), .val (.ref q), .unset, .unset, .unset] [(.int (1 : Int32)), (.int ((5 : Int32) - pp))])) _
    refine XS.goto XG.here hx rfl (pc0 := 123) (pc' := 127) rfl (hb hby at_123) (by decide) (by decide) ?_
    exact Steps.refl _
  have Bg2_3 (hv0 : g2 = own_g2_0_3 gw pp) : Steps p.tables e below (PG.setTop (mkF m 117 #[.val (.int p1), .val (.int p2), .val (.int p3), .val (.int p4), .val (.int p5), .val (.int p6), .val (.int pp), .val (.int gw), .val (.int ff), .val (.ref q), .unset, .unset, .unset] [(.int ((5 : Int32) - pp))])) (PG.setTop (mkF m 127 #[.val (.int p1), .val (.int p2), .val (.int p3), .val (.int p4), .val (.int p5), .val (.int p6), .val (.int pp), .val (.int gw), .val (.int ff), .val (.ref q), .unset, .unset, .unset] [(.int g2), (.int ((5 : Int32) - pp))])) := by
    show Steps p.tables e below (PG.setTop (mkF m 117 #[.val (.int p1), .val (.int p2), .val (.int p3), .val (.int p4), .val (.int p5), .val (.int p6), .val (.int pp), .val (.int gw), .val (.int ff), .val (.ref q), .unset, .unset, .unset] [(.int ((5 : Int32) - pp))])) _
    refine XS.iload XG.here hx rfl (hb hby at_117) rfl ?_
    show Steps p.tables e below (PG.setTop (mkF m 119 #[.val (.int p1), .val (.int p2), .val (.int p3), .val (.int p4), .val (.int p5), .val (.int p6), .val (.int pp), .val (.int gw), .val (.int ff), .val (.ref q), .unset, .unset, .unset] [(.int gw), (.int ((5 : Int32) - pp))])) _
    by_cases h119 : gw = (0 : Int32)
    · refine XS.ifYes XG.here hx rfl (pc0 := 119) (pc' := 126) rfl (hb hby at_119) rfl ((if0 _ _).trans (teq h119).1) (by decide) (by decide) ?_
      exact Bg2_1 (hv0.trans (if_pos h119))
    · refine XS.ifNo XG.here hx rfl (hb hby at_119) rfl ((if0 _ _).trans (feq h119).1) ?_
      exact Bg2_2 (hv0.trans (if_neg h119))
  have pre33 : Steps p.tables e below _ (PG.setTop (mkF m 127 #[.val (.int p1), .val (.int p2), .val (.int p3), .val (.int p4), .val (.int p5), .val (.int p6), .val (.int pp), .val (.int gw), .val (.int ff), .val (.ref q), .unset, .unset, .unset] [(.int g2), (.int ((5 : Int32) - pp))])) := pre32.trans (Bg2_3 h_g2)
  have eg2 : g2 = gw := by rw [h_g2]; rcases bg with q | q <;> rw [q] <;> rfl
  rw [eg2] at pre33
  have pre34 : Steps p.tables e below _ (PG.setTop (mkF m 128 #[.val (.int p1), .val (.int p2), .val (.int p3), .val (.int p4), .val (.int p5), .val (.int p6), .val (.int pp), .val (.int gw), .val (.int ff), .val (.ref q), .unset, .unset, .unset] [(.int (((5 : Int32) - pp) + gw))])) := pre33.trans (by
    show Steps p.tables e below (PG.setTop (mkF m 127 #[.val (.int p1), .val (.int p2), .val (.int p3), .val (.int p4), .val (.int p5), .val (.int p6), .val (.int pp), .val (.int gw), .val (.int ff), .val (.ref q), .unset, .unset, .unset] [(.int gw), (.int ((5 : Int32) - pp))])) _
    refine XS.iadd XG.here hx rfl (hb hby at_127) rfl ?_
    exact Steps.refl _)
  obtain ⟨nn, h_nn⟩ : ∃ z, z = (((5 : Int32) - pp) + gw) := ⟨_, rfl⟩
  rw [← h_nn] at pre34
  have hgi : gw.toInt = 0 ∨ gw.toInt = 1 := by rcases bg with q | q <;> rw [q] <;> decide
  have hnn : nn.toInt = 5 - pp.toInt + gw.toInt := by have q1 := c_isub 5 pp; have q2 := c_iadd (5 - pp) gw; rw [← h_nn] at q2; have e5 : (5 : Int32).toInt = 5 := rfl; have := rng32 nn; have := rng32 (5 - pp); omega
  have hnz : nn ≠ 0 := fun q => by rw [q, e00] at hnn; omega
  have pre35 : Steps p.tables e below _ (PG.setTop (mkF m 137 #[.val (.int p1), .val (.int p2), .val (.int p3), .val (.int p4), .val (.int p5), .val (.int p6), .val (.int pp), .val (.int gw), .val (.int ff), .val (.ref q), .val (.int nn), .unset, .unset] [(.int (((p6.toUInt32 >>> ((3 : Int32) &&& 31).toUInt32).toInt32) % nn))])) := pre34.trans (by
    show Steps p.tables e below (PG.setTop (mkF m 128 #[.val (.int p1), .val (.int p2), .val (.int p3), .val (.int p4), .val (.int p5), .val (.int p6), .val (.int pp), .val (.int gw), .val (.int ff), .val (.ref q), .unset, .unset, .unset] [(.int nn)])) _
    refine XS.istore XG.here hx rfl (hb hby at_128) rfl (l' := #[.val (.int p1), .val (.int p2), .val (.int p3), .val (.int p4), .val (.int p5), .val (.int p6), .val (.int pp), .val (.int gw), .val (.int ff), .val (.ref q), .val (.int nn), .unset, .unset]) rfl ?_
    show Steps p.tables e below (PG.setTop (mkF m 130 #[.val (.int p1), .val (.int p2), .val (.int p3), .val (.int p4), .val (.int p5), .val (.int p6), .val (.int pp), .val (.int gw), .val (.int ff), .val (.ref q), .val (.int nn), .unset, .unset] [])) _
    refine XS.iload XG.here hx rfl (hb hby at_130) rfl ?_
    show Steps p.tables e below (PG.setTop (mkF m 132 #[.val (.int p1), .val (.int p2), .val (.int p3), .val (.int p4), .val (.int p5), .val (.int p6), .val (.int pp), .val (.int gw), .val (.int ff), .val (.ref q), .val (.int nn), .unset, .unset] [(.int p6)])) _
    refine XS.iconst XG.here hx rfl (hb hby at_132) ?_
    show Steps p.tables e below (PG.setTop (mkF m 133 #[.val (.int p1), .val (.int p2), .val (.int p3), .val (.int p4), .val (.int p5), .val (.int p6), .val (.int pp), .val (.int gw), .val (.int ff), .val (.ref q), .val (.int nn), .unset, .unset] [(.int (3 : Int32)), (.int p6)])) _
    refine XS.iushr XG.here hx rfl (hb hby at_133) rfl ?_
    show Steps p.tables e below (PG.setTop (mkF m 134 #[.val (.int p1), .val (.int p2), .val (.int p3), .val (.int p4), .val (.int p5), .val (.int p6), .val (.int pp), .val (.int gw), .val (.int ff), .val (.ref q), .val (.int nn), .unset, .unset] [(.int ((p6.toUInt32 >>> ((3 : Int32) &&& 31).toUInt32).toInt32))])) _
    refine XS.iload XG.here hx rfl (hb hby at_134) rfl ?_
    show Steps p.tables e below (PG.setTop (mkF m 136 #[.val (.int p1), .val (.int p2), .val (.int p3), .val (.int p4), .val (.int p5), .val (.int p6), .val (.int pp), .val (.int gw), .val (.int ff), .val (.ref q), .val (.int nn), .unset, .unset] [(.int nn), (.int ((p6.toUInt32 >>> ((3 : Int32) &&& 31).toUInt32).toInt32))])) _
    refine iremM XG hx rfl (hb hby at_136) rfl hnz ?_
    exact Steps.refl _)
  obtain ⟨ix, h_ix⟩ : ∃ z, z = (((p6.toUInt32 >>> ((3 : Int32) &&& 31).toUInt32).toInt32) % nn) := ⟨_, rfl⟩
  rw [← h_ix] at pre35
  have bi : 0 ≤ ix.toInt ∧ ix.toInt < nn.toInt := by have q : ((p6.toUInt32 >>> ((3 : Int32) &&& 31).toUInt32).toInt32).toInt = (p6.toInt % 4294967296) / 8 := c_iushr p6 3 3 (by decide) (by decide); have q2 := rng32 p6; have r := (c_iremV ((p6.toUInt32 >>> ((3 : Int32) &&& 31).toUInt32).toInt32) nn).1 (by omega) (by omega); rw [← h_ix] at r; exact ⟨r.1, r.2.1⟩
  have pre36 : Steps p.tables e below _ (PG.setTop (mkF m 141 #[.val (.int p1), .val (.int p2), .val (.int p3), .val (.int p4), .val (.int p5), .val (.int p6), .val (.int pp), .val (.int gw), .val (.int ff), .val (.ref q), .val (.int nn), .val (.int ix), .unset] [(.int (6 : Int32))])) := pre35.trans (by
    show Steps p.tables e below (PG.setTop (mkF m 137 #[.val (.int p1), .val (.int p2), .val (.int p3), .val (.int p4), .val (.int p5), .val (.int p6), .val (.int pp), .val (.int gw), .val (.int ff), .val (.ref q), .val (.int nn), .unset, .unset] [(.int ix)])) _
    refine XS.istore XG.here hx rfl (hb hby at_137) rfl (l' := #[.val (.int p1), .val (.int p2), .val (.int p3), .val (.int p4), .val (.int p5), .val (.int p6), .val (.int pp), .val (.int gw), .val (.int ff), .val (.ref q), .val (.int nn), .val (.int ix), .unset]) rfl ?_
    show Steps p.tables e below (PG.setTop (mkF m 139 #[.val (.int p1), .val (.int p2), .val (.int p3), .val (.int p4), .val (.int p5), .val (.int p6), .val (.int pp), .val (.int gw), .val (.int ff), .val (.ref q), .val (.int nn), .val (.int ix), .unset] [])) _
    refine XS.bipush XG.here hx rfl (hb hby at_139) ?_
    exact Steps.refl _)
  obtain ⟨T37, h37, k37, X37, e37, E37, A37, st37⟩ := newP XG hx hZ (hw _ (List.mem_of_getElem? (i := 9) rfl)) (rfl : PG.heap = PG.heap) (g := (mkF m 141 #[.val (.int p1), .val (.int p2), .val (.int p3), .val (.int p4), .val (.int p5), .val (.int p6), .val (.int pp), .val (.int gw), .val (.int ff), .val (.ref q), .val (.int nn), .val (.int ix), .unset] [(.int (6 : Int32))])) rfl (hb hby at_141) rfl (by decide) (cap := 6) (by decide) (by decide) (by decide) (by decide)
  obtain ⟨mb, g37⟩ : ∃ z, z = PG.heap.size := ⟨_, rfl⟩
  rw [← g37] at A37 st37
  have g_mb : n0 ≤ mb := Nat.le_trans JG.le (Nat.le_of_eq g37.symm)
  have lt_mb : mb < h37.size := A37.lt
  have V37 : Arv Z h37 mb k37 .int (6 : Int32) [(.int (0 : Int32)), (.int (0 : Int32)), (.int (0 : Int32)), (.int (0 : Int32)), (.int (0 : Int32)), (.int (0 : Int32))] (.int (0 : Int32)) := (Arv.new A37 (by decide)).pad (pad_rep [] (.int (0 : Int32)) 6)
  have Z37 : n0 ≤ h37.size := Nat.le_trans JG.le E37.1
  have pre37 : Steps p.tables e below _ (T37.setTop (mkF m 143 #[.val (.int p1), .val (.int p2), .val (.int p3), .val (.int p4), .val (.int p5), .val (.int p6), .val (.int pp), .val (.int gw), .val (.int ff), .val (.ref q), .val (.int nn), .val (.int ix), .unset] [(.ref mb)])) := pre36.trans (st37 _ (Steps.refl _))
  have pre38 : Steps p.tables e below _ (T37.setTop (mkF m 146 #[.val (.int p1), .val (.int p2), .val (.int p3), .val (.int p4), .val (.int p5), .val (.int p6), .val (.int pp), .val (.int gw), .val (.int ff), .val (.ref q), .val (.int nn), .val (.int ix), .unset] [(.int p1), (.int (0 : Int32)), (.ref mb), (.ref mb)])) := pre37.trans (by
    show Steps p.tables e below (T37.setTop (mkF m 143 #[.val (.int p1), .val (.int p2), .val (.int p3), .val (.int p4), .val (.int p5), .val (.int p6), .val (.int pp), .val (.int gw), .val (.int ff), .val (.ref q), .val (.int nn), .val (.int ix), .unset] [(.ref mb)])) _
    refine XS.dup X37.here hx rfl (hb hby at_143) rfl rfl ?_
    show Steps p.tables e below (T37.setTop (mkF m 144 #[.val (.int p1), .val (.int p2), .val (.int p3), .val (.int p4), .val (.int p5), .val (.int p6), .val (.int pp), .val (.int gw), .val (.int ff), .val (.ref q), .val (.int nn), .val (.int ix), .unset] [(.ref mb), (.ref mb)])) _
    refine XS.iconst X37.here hx rfl (hb hby at_144) ?_
    show Steps p.tables e below (T37.setTop (mkF m 145 #[.val (.int p1), .val (.int p2), .val (.int p3), .val (.int p4), .val (.int p5), .val (.int p6), .val (.int pp), .val (.int gw), .val (.int ff), .val (.ref q), .val (.int nn), .val (.int ix), .unset] [(.int (0 : Int32)), (.ref mb), (.ref mb)])) _
    refine XS.iloadN X37.here hx rfl (hb hby at_145) rfl ?_
    exact Steps.refl _)
  obtain ⟨cl39, Ar39, q39, S39, M39, H39, G39⟩ := V37
  have hin39 : ¬ ((0 : Int32) < 0 ∨ cl39.slots.size ≤ ((0 : Int32)).toNatClampNeg) := inb_of S39 ⟨by decide, by decide⟩
  obtain ⟨T39, h39, X39, e39, W39, st39⟩ := stI X37 hx hZ e37 Ar39 (j := (0 : Int32)) hin39 (g := (mkF m 146 #[.val (.int p1), .val (.int p2), .val (.int p3), .val (.int p4), .val (.int p5), .val (.int p6), .val (.int pp), .val (.int gw), .val (.int ff), .val (.ref q), .val (.int nn), .val (.int ix), .unset] [(.int p1), (.int (0 : Int32)), (.ref mb), (.ref mb)])) rfl rfl (hb hby at_146)
  have V39 : Arv Z h39 mb k37 .int (6 : Int32) [(.int p1), (.int (0 : Int32)), (.int (0 : Int32)), (.int (0 : Int32)), (.int (0 : Int32)), (.int (0 : Int32))] (.int (0 : Int32)) := Arv.set Ar39 q39 S39 M39 H39 G39 rfl W39 0 rfl (Nat.le_of_ble_eq_true rfl)
  have N39 := Fr.snoc X39 NG g_mb
  have Z39 : n0 ≤ h39.size := Nat.le_trans Z37 (Keep.of_wr W39).1
  have pre39 : Steps p.tables e below _ (T39.setTop (mkF m 147 #[.val (.int p1), .val (.int p2), .val (.int p3), .val (.int p4), .val (.int p5), .val (.int p6), .val (.int pp), .val (.int gw), .val (.int ff), .val (.ref q), .val (.int nn), .val (.int ix), .unset] [(.ref mb)])) := pre38.trans (st39 _ (Steps.refl _))
  have pre40 : Steps p.tables e below _ (T39.setTop (mkF m 150 #[.val (.int p1), .val (.int p2), .val (.int p3), .val (.int p4), .val (.int p5), .val (.int p6), .val (.int pp), .val (.int gw), .val (.int ff), .val (.ref q), .val (.int nn), .val (.int ix), .unset] [(.int p2), (.int (1 : Int32)), (.ref mb), (.ref mb)])) := pre39.trans (by
    show Steps p.tables e below (T39.setTop (mkF m 147 #[.val (.int p1), .val (.int p2), .val (.int p3), .val (.int p4), .val (.int p5), .val (.int p6), .val (.int pp), .val (.int gw), .val (.int ff), .val (.ref q), .val (.int nn), .val (.int ix), .unset] [(.ref mb)])) _
    refine XS.dup X39.here hx rfl (hb hby at_147) rfl rfl ?_
    show Steps p.tables e below (T39.setTop (mkF m 148 #[.val (.int p1), .val (.int p2), .val (.int p3), .val (.int p4), .val (.int p5), .val (.int p6), .val (.int pp), .val (.int gw), .val (.int ff), .val (.ref q), .val (.int nn), .val (.int ix), .unset] [(.ref mb), (.ref mb)])) _
    refine XS.iconst X39.here hx rfl (hb hby at_148) ?_
    show Steps p.tables e below (T39.setTop (mkF m 149 #[.val (.int p1), .val (.int p2), .val (.int p3), .val (.int p4), .val (.int p5), .val (.int p6), .val (.int pp), .val (.int gw), .val (.int ff), .val (.ref q), .val (.int nn), .val (.int ix), .unset] [(.int (1 : Int32)), (.ref mb), (.ref mb)])) _
    refine XS.iloadN X39.here hx rfl (hb hby at_149) rfl ?_
    exact Steps.refl _)
  obtain ⟨cl41, Ar41, q41, S41, M41, H41, G41⟩ := V39
  have hin41 : ¬ ((1 : Int32) < 0 ∨ cl41.slots.size ≤ ((1 : Int32)).toNatClampNeg) := inb_of S41 ⟨by decide, by decide⟩
  obtain ⟨T41, h41, X41, e41, W41, st41⟩ := stI X39 hx hZ e39 Ar41 (j := (1 : Int32)) hin41 (g := (mkF m 150 #[.val (.int p1), .val (.int p2), .val (.int p3), .val (.int p4), .val (.int p5), .val (.int p6), .val (.int pp), .val (.int gw), .val (.int ff), .val (.ref q), .val (.int nn), .val (.int ix), .unset] [(.int p2), (.int (1 : Int32)), (.ref mb), (.ref mb)])) rfl rfl (hb hby at_150)
  have V41 : Arv Z h41 mb k37 .int (6 : Int32) [(.int p1), (.int p2), (.int (0 : Int32)), (.int (0 : Int32)), (.int (0 : Int32)), (.int (0 : Int32))] (.int (0 : Int32)) := Arv.set Ar41 q41 S41 M41 H41 G41 rfl W41 1 rfl (Nat.le_of_ble_eq_true rfl)
  have N41 := Fr.snoc X41 N39 g_mb
  have Z41 : n0 ≤ h41.size := Nat.le_trans Z39 (Keep.of_wr W41).1
  have pre41 : Steps p.tables e below _ (T41.setTop (mkF m 151 #[.val (.int p1), .val (.int p2), .val (.int p3), .val (.int p4), .val (.int p5), .val (.int p6), .val (.int pp), .val (.int gw), .val (.int ff), .val (.ref q), .val (.int nn), .val (.int ix), .unset] [(.ref mb)])) := pre40.trans (st41 _ (Steps.refl _))
  have pre42 : Steps p.tables e below _ (T41.setTop (mkF m 154 #[.val (.int p1), .val (.int p2), .val (.int p3), .val (.int p4), .val (.int p5), .val (.int p6), .val (.int pp), .val (.int gw), .val (.int ff), .val (.ref q), .val (.int nn), .val (.int ix), .unset] [(.int p3), (.int (2 : Int32)), (.ref mb), (.ref mb)])) := pre41.trans (by
    show Steps p.tables e below (T41.setTop (mkF m 151 #[.val (.int p1), .val (.int p2), .val (.int p3), .val (.int p4), .val (.int p5), .val (.int p6), .val (.int pp), .val (.int gw), .val (.int ff), .val (.ref q), .val (.int nn), .val (.int ix), .unset] [(.ref mb)])) _
    refine XS.dup X41.here hx rfl (hb hby at_151) rfl rfl ?_
    show Steps p.tables e below (T41.setTop (mkF m 152 #[.val (.int p1), .val (.int p2), .val (.int p3), .val (.int p4), .val (.int p5), .val (.int p6), .val (.int pp), .val (.int gw), .val (.int ff), .val (.ref q), .val (.int nn), .val (.int ix), .unset] [(.ref mb), (.ref mb)])) _
    refine XS.iconst X41.here hx rfl (hb hby at_152) ?_
    show Steps p.tables e below (T41.setTop (mkF m 153 #[.val (.int p1), .val (.int p2), .val (.int p3), .val (.int p4), .val (.int p5), .val (.int p6), .val (.int pp), .val (.int gw), .val (.int ff), .val (.ref q), .val (.int nn), .val (.int ix), .unset] [(.int (2 : Int32)), (.ref mb), (.ref mb)])) _
    refine XS.iloadN X41.here hx rfl (hb hby at_153) rfl ?_
    exact Steps.refl _)
  obtain ⟨cl43, Ar43, q43, S43, M43, H43, G43⟩ := V41
  have hin43 : ¬ ((2 : Int32) < 0 ∨ cl43.slots.size ≤ ((2 : Int32)).toNatClampNeg) := inb_of S43 ⟨by decide, by decide⟩
  obtain ⟨T43, h43, X43, e43, W43, st43⟩ := stI X41 hx hZ e41 Ar43 (j := (2 : Int32)) hin43 (g := (mkF m 154 #[.val (.int p1), .val (.int p2), .val (.int p3), .val (.int p4), .val (.int p5), .val (.int p6), .val (.int pp), .val (.int gw), .val (.int ff), .val (.ref q), .val (.int nn), .val (.int ix), .unset] [(.int p3), (.int (2 : Int32)), (.ref mb), (.ref mb)])) rfl rfl (hb hby at_154)
  have V43 : Arv Z h43 mb k37 .int (6 : Int32) [(.int p1), (.int p2), (.int p3), (.int (0 : Int32)), (.int (0 : Int32)), (.int (0 : Int32))] (.int (0 : Int32)) := Arv.set Ar43 q43 S43 M43 H43 G43 rfl W43 2 rfl (Nat.le_of_ble_eq_true rfl)
  have N43 := Fr.snoc X43 N41 g_mb
  have Z43 : n0 ≤ h43.size := Nat.le_trans Z41 (Keep.of_wr W43).1
  have pre43 : Steps p.tables e below _ (T43.setTop (mkF m 155 #[.val (.int p1), .val (.int p2), .val (.int p3), .val (.int p4), .val (.int p5), .val (.int p6), .val (.int pp), .val (.int gw), .val (.int ff), .val (.ref q), .val (.int nn), .val (.int ix), .unset] [(.ref mb)])) := pre42.trans (st43 _ (Steps.refl _))
  have pre44 : Steps p.tables e below _ (T43.setTop (mkF m 158 #[.val (.int p1), .val (.int p2), .val (.int p3), .val (.int p4), .val (.int p5), .val (.int p6), .val (.int pp), .val (.int gw), .val (.int ff), .val (.ref q), .val (.int nn), .val (.int ix), .unset] [(.int p4), (.int (3 : Int32)), (.ref mb), (.ref mb)])) := pre43.trans (by
    show Steps p.tables e below (T43.setTop (mkF m 155 #[.val (.int p1), .val (.int p2), .val (.int p3), .val (.int p4), .val (.int p5), .val (.int p6), .val (.int pp), .val (.int gw), .val (.int ff), .val (.ref q), .val (.int nn), .val (.int ix), .unset] [(.ref mb)])) _
    refine XS.dup X43.here hx rfl (hb hby at_155) rfl rfl ?_
    show Steps p.tables e below (T43.setTop (mkF m 156 #[.val (.int p1), .val (.int p2), .val (.int p3), .val (.int p4), .val (.int p5), .val (.int p6), .val (.int pp), .val (.int gw), .val (.int ff), .val (.ref q), .val (.int nn), .val (.int ix), .unset] [(.ref mb), (.ref mb)])) _
    refine XS.iconst X43.here hx rfl (hb hby at_156) ?_
    show Steps p.tables e below (T43.setTop (mkF m 157 #[.val (.int p1), .val (.int p2), .val (.int p3), .val (.int p4), .val (.int p5), .val (.int p6), .val (.int pp), .val (.int gw), .val (.int ff), .val (.ref q), .val (.int nn), .val (.int ix), .unset] [(.int (3 : Int32)), (.ref mb), (.ref mb)])) _
    refine XS.iloadN X43.here hx rfl (hb hby at_157) rfl ?_
    exact Steps.refl _)
  obtain ⟨cl45, Ar45, q45, S45, M45, H45, G45⟩ := V43
  have hin45 : ¬ ((3 : Int32) < 0 ∨ cl45.slots.size ≤ ((3 : Int32)).toNatClampNeg) := inb_of S45 ⟨by decide, by decide⟩
  obtain ⟨T45, h45, X45, e45, W45, st45⟩ := stI X43 hx hZ e43 Ar45 (j := (3 : Int32)) hin45 (g := (mkF m 158 #[.val (.int p1), .val (.int p2), .val (.int p3), .val (.int p4), .val (.int p5), .val (.int p6), .val (.int pp), .val (.int gw), .val (.int ff), .val (.ref q), .val (.int nn), .val (.int ix), .unset] [(.int p4), (.int (3 : Int32)), (.ref mb), (.ref mb)])) rfl rfl (hb hby at_158)
  have V45 : Arv Z h45 mb k37 .int (6 : Int32) [(.int p1), (.int p2), (.int p3), (.int p4), (.int (0 : Int32)), (.int (0 : Int32))] (.int (0 : Int32)) := Arv.set Ar45 q45 S45 M45 H45 G45 rfl W45 3 rfl (Nat.le_of_ble_eq_true rfl)
  have N45 := Fr.snoc X45 N43 g_mb
  have Z45 : n0 ≤ h45.size := Nat.le_trans Z43 (Keep.of_wr W45).1
  have pre45 : Steps p.tables e below _ (T45.setTop (mkF m 159 #[.val (.int p1), .val (.int p2), .val (.int p3), .val (.int p4), .val (.int p5), .val (.int p6), .val (.int pp), .val (.int gw), .val (.int ff), .val (.ref q), .val (.int nn), .val (.int ix), .unset] [(.ref mb)])) := pre44.trans (st45 _ (Steps.refl _))
  have pre46 : Steps p.tables e below _ (T45.setTop (mkF m 163 #[.val (.int p1), .val (.int p2), .val (.int p3), .val (.int p4), .val (.int p5), .val (.int p6), .val (.int pp), .val (.int gw), .val (.int ff), .val (.ref q), .val (.int nn), .val (.int ix), .unset] [(.int p5), (.int (4 : Int32)), (.ref mb), (.ref mb)])) := pre45.trans (by
    show Steps p.tables e below (T45.setTop (mkF m 159 #[.val (.int p1), .val (.int p2), .val (.int p3), .val (.int p4), .val (.int p5), .val (.int p6), .val (.int pp), .val (.int gw), .val (.int ff), .val (.ref q), .val (.int nn), .val (.int ix), .unset] [(.ref mb)])) _
    refine XS.dup X45.here hx rfl (hb hby at_159) rfl rfl ?_
    show Steps p.tables e below (T45.setTop (mkF m 160 #[.val (.int p1), .val (.int p2), .val (.int p3), .val (.int p4), .val (.int p5), .val (.int p6), .val (.int pp), .val (.int gw), .val (.int ff), .val (.ref q), .val (.int nn), .val (.int ix), .unset] [(.ref mb), (.ref mb)])) _
    refine XS.iconst X45.here hx rfl (hb hby at_160) ?_
    show Steps p.tables e below (T45.setTop (mkF m 161 #[.val (.int p1), .val (.int p2), .val (.int p3), .val (.int p4), .val (.int p5), .val (.int p6), .val (.int pp), .val (.int gw), .val (.int ff), .val (.ref q), .val (.int nn), .val (.int ix), .unset] [(.int (4 : Int32)), (.ref mb), (.ref mb)])) _
    refine XS.iload X45.here hx rfl (hb hby at_161) rfl ?_
    exact Steps.refl _)
  obtain ⟨cl47, Ar47, q47, S47, M47, H47, G47⟩ := V45
  have hin47 : ¬ ((4 : Int32) < 0 ∨ cl47.slots.size ≤ ((4 : Int32)).toNatClampNeg) := inb_of S47 ⟨by decide, by decide⟩
  obtain ⟨T47, h47, X47, e47, W47, st47⟩ := stI X45 hx hZ e45 Ar47 (j := (4 : Int32)) hin47 (g := (mkF m 163 #[.val (.int p1), .val (.int p2), .val (.int p3), .val (.int p4), .val (.int p5), .val (.int p6), .val (.int pp), .val (.int gw), .val (.int ff), .val (.ref q), .val (.int nn), .val (.int ix), .unset] [(.int p5), (.int (4 : Int32)), (.ref mb), (.ref mb)])) rfl rfl (hb hby at_163)
  have V47 : Arv Z h47 mb k37 .int (6 : Int32) [(.int p1), (.int p2), (.int p3), (.int p4), (.int p5), (.int (0 : Int32))] (.int (0 : Int32)) := Arv.set Ar47 q47 S47 M47 H47 G47 rfl W47 4 rfl (Nat.le_of_ble_eq_true rfl)
  have N47 := Fr.snoc X47 N45 g_mb
  have Z47 : n0 ≤ h47.size := Nat.le_trans Z45 (Keep.of_wr W47).1
  have pre47 : Steps p.tables e below _ (T47.setTop (mkF m 164 #[.val (.int p1), .val (.int p2), .val (.int p3), .val (.int p4), .val (.int p5), .val (.int p6), .val (.int pp), .val (.int gw), .val (.int ff), .val (.ref q), .val (.int nn), .val (.int ix), .unset] [(.ref mb)])) := pre46.trans (st47 _ (Steps.refl _))
  have pre48 : Steps p.tables e below _ (T47.setTop (mkF m 168 #[.val (.int p1), .val (.int p2), .val (.int p3), .val (.int p4), .val (.int p5), .val (.int p6), .val (.int pp), .val (.int gw), .val (.int ff), .val (.ref q), .val (.int nn), .val (.int ix), .unset] [(.int ff), (.int (5 : Int32)), (.ref mb), (.ref mb)])) := pre47.trans (by
    show Steps p.tables e below (T47.setTop (mkF m 164 #[.val (.int p1), .val (.int p2), .val (.int p3), .val (.int p4), .val (.int p5), .val (.int p6), .val (.int pp), .val (.int gw), .val (.int ff), .val (.ref q), .val (.int nn), .val (.int ix), .unset] [(.ref mb)])) _
    refine XS.dup X47.here hx rfl (hb hby at_164) rfl rfl ?_
    show Steps p.tables e below (T47.setTop (mkF m 165 #[.val (.int p1), .val (.int p2), .val (.int p3), .val (.int p4), .val (.int p5), .val (.int p6), .val (.int pp), .val (.int gw), .val (.int ff), .val (.ref q), .val (.int nn), .val (.int ix), .unset] [(.ref mb), (.ref mb)])) _
    refine XS.iconst X47.here hx rfl (hb hby at_165) ?_
    show Steps p.tables e below (T47.setTop (mkF m 166 #[.val (.int p1), .val (.int p2), .val (.int p3), .val (.int p4), .val (.int p5), .val (.int p6), .val (.int pp), .val (.int gw), .val (.int ff), .val (.ref q), .val (.int nn), .val (.int ix), .unset] [(.int (5 : Int32)), (.ref mb), (.ref mb)])) _
    refine XS.iload X47.here hx rfl (hb hby at_166) rfl ?_
    exact Steps.refl _)
  obtain ⟨cl49, Ar49, q49, S49, M49, H49, G49⟩ := V47
  have hin49 : ¬ ((5 : Int32) < 0 ∨ cl49.slots.size ≤ ((5 : Int32)).toNatClampNeg) := inb_of S49 ⟨by decide, by decide⟩
  obtain ⟨T49, h49, X49, e49, W49, st49⟩ := stI X47 hx hZ e47 Ar49 (j := (5 : Int32)) hin49 (g := (mkF m 168 #[.val (.int p1), .val (.int p2), .val (.int p3), .val (.int p4), .val (.int p5), .val (.int p6), .val (.int pp), .val (.int gw), .val (.int ff), .val (.ref q), .val (.int nn), .val (.int ix), .unset] [(.int ff), (.int (5 : Int32)), (.ref mb), (.ref mb)])) rfl rfl (hb hby at_168)
  have V49 : Arv Z h49 mb k37 .int (6 : Int32) [(.int p1), (.int p2), (.int p3), (.int p4), (.int p5), (.int ff)] (.int (0 : Int32)) := Arv.set Ar49 q49 S49 M49 H49 G49 rfl W49 5 rfl (Nat.le_of_ble_eq_true rfl)
  have N49 := Fr.snoc X49 N47 g_mb
  have Z49 : n0 ≤ h49.size := Nat.le_trans Z47 (Keep.of_wr W49).1
  have pre49 : Steps p.tables e below _ (T49.setTop (mkF m 169 #[.val (.int p1), .val (.int p2), .val (.int p3), .val (.int p4), .val (.int p5), .val (.int p6), .val (.int pp), .val (.int gw), .val (.int ff), .val (.ref q), .val (.int nn), .val (.int ix), .unset] [(.ref mb)])) := pre48.trans (st49 _ (Steps.refl _))
  have KM : Keep PG.heap h49 [mb] := ((((((((Keep.refl PG.heap [mb]).ext E37).wr W39 (Or.inl (List.mem_singleton.mpr rfl))).wr W41 (Or.inl (List.mem_singleton.mpr rfl))).wr W43 (Or.inl (List.mem_singleton.mpr rfl))).wr W45 (Or.inl (List.mem_singleton.mpr rfl))).wr W47 (Or.inl (List.mem_singleton.mpr rfl))).wr W49 (Or.inl (List.mem_singleton.mpr rfl)))
  have JM : IQ Z n0 h49 q sz (fun i => md (i + j3)) := JG.keep KM (fun x hx => by rw [List.mem_singleton.mp hx]; exact Nat.le_of_eq g37.symm)
  obtain ⟨b, N, hd, szI, g, R, gq1, gb1, hN, hd0, hd1, hz6, hz7, hz8⟩ := id JM
  have pre50 : Steps p.tables e below _ (T49.setTop (mkF m 175 #[.val (.int p1), .val (.int p2), .val (.int p3), .val (.int p4), .val (.int p5), .val (.int p6), .val (.int pp), .val (.int gw), .val (.int ff), .val (.ref q), .val (.int nn), .val (.int ix), .val (.ref mb)] [(.int ix), (.ref q)])) := pre49.trans (by
    show Steps p.tables e below (T49.setTop (mkF m 169 #[.val (.int p1), .val (.int p2), .val (.int p3), .val (.int p4), .val (.int p5), .val (.int p6), .val (.int pp), .val (.int gw), .val (.int ff), .val (.ref q), .val (.int nn), .val (.int ix), .unset] [(.ref mb)])) _
    refine XS.astore X49.here hx rfl (hb hby at_169) rfl rfl (l' := #[.val (.int p1), .val (.int p2), .val (.int p3), .val (.int p4), .val (.int p5), .val (.int p6), .val (.int pp), .val (.int gw), .val (.int ff), .val (.ref q), .val (.int nn), .val (.int ix), .val (.ref mb)]) rfl ?_
    show Steps p.tables e below (T49.setTop (mkF m 171 #[.val (.int p1), .val (.int p2), .val (.int p3), .val (.int p4), .val (.int p5), .val (.int p6), .val (.int pp), .val (.int gw), .val (.int ff), .val (.ref q), .val (.int nn), .val (.int ix), .val (.ref mb)] [])) _
    refine XS.aload X49.here hx rfl (hb hby at_171) rfl rfl ?_
    show Steps p.tables e below (T49.setTop (mkF m 173 #[.val (.int p1), .val (.int p2), .val (.int p3), .val (.int p4), .val (.int p5), .val (.int p6), .val (.int pp), .val (.int gw), .val (.int ff), .val (.ref q), .val (.int nn), .val (.int ix), .val (.ref mb)] [(.ref q)])) _
    refine XS.iload X49.here hx rfl (hb hby at_173) rfl ?_
    exact Steps.refl _)
  obtain ⟨cq51, kq51, q51a, q51b, q51c⟩ := isOf hZ e49 R.1
  obtain ⟨_, _, ⟨T51, L51, k51, n51⟩, -, X51, ⟨Lc51, hQ51, l51, y51, z51⟩, st51⟩ := X49.virtualBack hx (y := (⟨"com/example/trips_into_trajectories/tripsintotrajectories/simulation/IntQueue", "get", "(I)I"⟩ : MethodName)) (z := (⟨"com/example/trips_into_trajectories/tripsintotrajectories/simulation/IntQueue", "get", "(I)I"⟩ : MethodName)) hown (mvT hZ (hw _ (List.mem_of_getElem? (i := 26) rfl))) (mvT hZ (hw _ (List.mem_of_getElem? (i := 27) rfl))) (notFace_of_selects (args := #[]) (mvT hZ (hw _ (List.mem_of_getElem? (i := 29) rfl)))) (mvT hZ (hw _ (List.mem_of_getElem? (i := 29) rfl))) (mvT hZ (hw _ (List.mem_of_getElem? (i := 28) rfl))) (by decide) (backOf (W := 0) (rmG l Z a0 hw [] q ix b N hd szI g h49 n0 JM.le R hN hd0 hd1 ⟨bi.1, by omega⟩) hZ (hw _ (List.mem_of_getElem? (i := 30) rfl)) (hw _ (List.mem_of_getElem? (i := 2) rfl)) (by decide) (by decide)) q51a q51c (g := (mkF m 175 #[.val (.int p1), .val (.int p2), .val (.int p3), .val (.int p4), .val (.int p5), .val (.int p6), .val (.int pp), .val (.int gw), .val (.int ff), .val (.ref q), .val (.int nn), .val (.int ix), .val (.ref mb)] [(.int ix), (.ref q)])) rfl (by rw [hml]; rfl) (Steps.refl _) (argsL := [(.int ix)]) (rest := []) (lenOf pd_rm0_3 rfl) rfl (by show 2 * 0 + _ ≤ _; exact Nat.le_of_eq rfl) (hb hby at_175) (fun _ _ => ⟨rfl, e49, (by decide : 9 + 0 ≤ _), (by decide : 61 + 0 ≤ _)⟩)
  dsimp only [Pt.U, Pt.locs, Pt.cells, Pt.slots] at X51 l51 y51 z51 st51 hQ51
  subst l51 y51 z51
  obtain ⟨rfl, N51q, hh51⟩ := hQ51
  have N51 := Fr.app N49 N51q
  have pre51 : Steps p.tables e below _ (T51.setTop (mkF m 178 #[.val (.int p1), .val (.int p2), .val (.int p3), .val (.int p4), .val (.int p5), .val (.int p6), .val (.int pp), .val (.int gw), .val (.int ff), .val (.ref q), .val (.int nn), .val (.int ix), .val (.ref mb)] [(.int (g ((hd.toInt + ix.toInt) % N.toInt).toNat))])) := pre50.trans (st51)
  have hget : g ((hd.toInt + ix.toInt) % N.toInt).toNat = md (ix.toNatClampNeg + j3) := by
    have wi := own_nat ix bi.1
    have q := hz8 ix.toNatClampNeg (by omega)
    rw [wi] at q; exact q
  rw [hget] at pre51
  have pre52 : Steps p.tables e below _ (T51.setTop (mkF m 185 #[.val (.int p1), .val (.int p2), .val (.int p3), .val (.int p4), .val (.int p5), .val (.int p6), .val (.int pp), .val (.int gw), .val (.int ff), .val (.ref q), .val (.int nn), .val (.int ix), .val (.ref mb)] [(.int (pp + ix)), (.ref mb), (.int (md (ix.toNatClampNeg + j3)))])) := pre51.trans (by
    show Steps p.tables e below (T51.setTop (mkF m 178 #[.val (.int p1), .val (.int p2), .val (.int p3), .val (.int p4), .val (.int p5), .val (.int p6), .val (.int pp), .val (.int gw), .val (.int ff), .val (.ref q), .val (.int nn), .val (.int ix), .val (.ref mb)] [(.int (md (ix.toNatClampNeg + j3)))])) _
    refine XS.aload X51.here hx rfl (hb hby at_178) rfl rfl ?_
    show Steps p.tables e below (T51.setTop (mkF m 180 #[.val (.int p1), .val (.int p2), .val (.int p3), .val (.int p4), .val (.int p5), .val (.int p6), .val (.int pp), .val (.int gw), .val (.int ff), .val (.ref q), .val (.int nn), .val (.int ix), .val (.ref mb)] [(.ref mb), (.int (md (ix.toNatClampNeg + j3)))])) _
    refine XS.iload X51.here hx rfl (hb hby at_180) rfl ?_
    show Steps p.tables e below (T51.setTop (mkF m 182 #[.val (.int p1), .val (.int p2), .val (.int p3), .val (.int p4), .val (.int p5), .val (.int p6), .val (.int pp), .val (.int gw), .val (.int ff), .val (.ref q), .val (.int nn), .val (.int ix), .val (.ref mb)] [(.int pp), (.ref mb), (.int (md (ix.toNatClampNeg + j3)))])) _
    refine XS.iload X51.here hx rfl (hb hby at_182) rfl ?_
    show Steps p.tables e below (T51.setTop (mkF m 184 #[.val (.int p1), .val (.int p2), .val (.int p3), .val (.int p4), .val (.int p5), .val (.int p6), .val (.int pp), .val (.int gw), .val (.int ff), .val (.ref q), .val (.int nn), .val (.int ix), .val (.ref mb)] [(.int ix), (.int pp), (.ref mb), (.int (md (ix.toNatClampNeg + j3)))])) _
    refine XS.iadd X51.here hx rfl (hb hby at_184) rfl ?_
    exact Steps.refl _)
  obtain ⟨iy, h_iy⟩ : ∃ z, z = (pp + ix) := ⟨_, rfl⟩
  rw [← h_iy] at pre52
  have hiy : iy.toInt = pp.toInt + ix.toInt := by have q := c_iadd pp ix; rw [← h_iy] at q; have := rng32 iy; omega
  obtain ⟨cl_t, Ar_t, q_t, S_t, M_t, H_t, G_t⟩ := id V49
  have hin : ¬ (iy < 0 ∨ cl_t.slots.size ≤ iy.toNatClampNeg) := inb_of S_t ⟨by rw [own_lt]; omega, by rw [own_lt]; have e6 : (6 : Int32).toInt = 6 := rfl; omega⟩
  have hat : cl_t.slots[iy.toNatClampNeg]? = some (.int (md (ix.toNatClampNeg + j3))) := by
    have wi := own_nat ix bi.1
    have wy := own_nat iy (by omega)
    rw [show ix.toNatClampNeg + j3 = iy.toNatClampNeg by omega, h_md]
    exact Has.at H_t hin (own_getD [p1, p2, p3, p4, p5, ff] _)
  have pre53 : Steps p.tables e below _ (T51.setTop (mkF m 194 #[.val (.int p1), .val (.int p2), .val (.int p3), .val (.int p4), .val (.int p5), .val (.int p6), .val (.int pp), .val (.int gw), .val (.int ff), .val (.ref q), .val (.int nn), .val (.int ix), .val (.ref mb)] [(.int (1 : Int32))])) := pre52.trans (by
    show Steps p.tables e below (T51.setTop (mkF m 185 #[.val (.int p1), .val (.int p2), .val (.int p3), .val (.int p4), .val (.int p5), .val (.int p6), .val (.int pp), .val (.int gw), .val (.int ff), .val (.ref q), .val (.int nn), .val (.int ix), .val (.ref mb)] [(.int iy), (.ref mb), (.int (md (ix.toNatClampNeg + j3)))])) _
    refine X51.iaload hx (j := iy) (v := (.int (md (ix.toNatClampNeg + j3)))) (by rw [hh51]; exact Ar_t.1) (State.isArrayOf_alike hZ.alike Ar_t.2.1) Ar_t.2.2 hin hat (g := (mkF m 185 #[.val (.int p1), .val (.int p2), .val (.int p3), .val (.int p4), .val (.int p5), .val (.int p6), .val (.int pp), .val (.int gw), .val (.int ff), .val (.ref q), .val (.int nn), .val (.int ix), .val (.ref mb)] [(.int iy), (.ref mb), (.int (md (ix.toNatClampNeg + j3)))])) rfl rfl (hb hby at_185) _ ?_
    show Steps p.tables e below (T51.setTop (mkF m 186 #[.val (.int p1), .val (.int p2), .val (.int p3), .val (.int p4), .val (.int p5), .val (.int p6), .val (.int pp), .val (.int gw), .val (.int ff), .val (.ref q), .val (.int nn), .val (.int ix), .val (.ref mb)] [(.int (md (ix.toNatClampNeg + j3))), (.int (md (ix.toNatClampNeg + j3)))])) _
    refine XS.icmpNo X51.here hx rfl (hb hby at_186) rfl (teq (rfl : md (ix.toNatClampNeg + j3) = md (ix.toNatClampNeg + j3))).2 ?_
    show Steps p.tables e below (T51.setTop (mkF m 189 #[.val (.int p1), .val (.int p2), .val (.int p3), .val (.int p4), .val (.int p5), .val (.int p6), .val (.int pp), .val (.int gw), .val (.int ff), .val (.ref q), .val (.int nn), .val (.int ix), .val (.ref mb)] [])) _
    refine XS.iconst X51.here hx rfl (hb hby at_189) ?_
    show Steps p.tables e below (T51.setTop (mkF m 190 #[.val (.int p1), .val (.int p2), .val (.int p3), .val (.int p4), .val (.int p5), .val (.int p6), .val (.int pp), .val (.int gw), .val (.int ff), .val (.ref q), .val (.int nn), .val (.int ix), .val (.ref mb)] [(.int (1 : Int32))])) _
    refine XS.goto X51.here hx rfl (pc0 := 190) (pc' := 194) rfl (hb hby at_190) (by decide) (by decide) ?_
    exact Steps.refl _)
  obtain ⟨fs, hr, hrun, hended, hW, hsame⟩ := X51.leave (v := some (.int (1 : Int32))) (fun h => by rw [Bd.returns] at h; cases h)
  refine ⟨_, _, pre53.trans ?_, hrun, hended, _, _, rfl, ?_, ⟨_, rfl⟩, hW, hsame.mono (by decide) (by decide)⟩
  · exact retN X51 hx (t := .boolean) Bd.returns (by simp) (hb hby at_194) hr
  · exact ⟨rfl, N51⟩
set_option maxRecDepth 65536 in
set_option maxHeartbeats 40000000 in
theorem comes_1 {Post : Tables → Env → Array Value → State → Outcome → State → Prop} (hpost : ∀ tb e args s v u, (limb_1_1.after args s (.returned v) u = true ∧ limb_1_2.after args s (.returned v) u = true ∧ True) → FrameEnd s (.returned v) u (Jvm.fieldLocs frame_1_writes args s ++ Jvm.arrayLocs frame_1_arrays args s ++ Jvm.staticLocs frame_1_statics s) 16 128 → Post tb e args s (.returned v) u) :
    ArmFor flags0 classFile x code maxLocals ret World_1 tables_1 room_1 Calls_1 rest_1 Pre_1 Post := by
  intro l hfl _ _ p e ha hc hk s m args below hf hA hF happ hP
  obtain ⟨hcalls, hrest, hpre⟩ := hP
  obtain ⟨-, -, -, hnamed, -, -, -, hat⟩ := (Spec.applies_iff hf).mp happ
  obtain ⟨hg, hn⟩ := and_e (Cond.before_iff.mp (show (Jvm.Cond.and given_1 narrow_1).before args s = true from hpre))
  obtain ⟨g0, r0⟩ := and_e hg
  obtain ⟨w0, w1, w2, w3, w4, w5, rfl⟩ : ∃ w0 w1 w2 w3 w4 w5 : Value, args = #[w0, w1, w2, w3, w4, w5] := by
    have hs : args.size = 6 := by simpa [Cond.value, given_1] using g0
    obtain ⟨L⟩ := args
    match L, hs with
    | [w0, w1, w2, w3, w4, w5], _ => exact ⟨w0, w1, w2, w3, w4, w5, rfl⟩
  have hw := fun d (hd : d ∈ tables_1) => atoms_spec (ws := Jvm.Cond.code x code maxLocals ret :: tables_1) hat d (List.mem_cons_of_mem _ hd)
  have hfit : Fit s := fun {y c} hc i hi => by
    obtain ⟨ha, rfl⟩ := Array.getElem?_eq_some_iff.mp hc
    have q := List.all_eq_true.mp ((Array.all_eq_true_iff_forall_mem.mp hF) _ (Array.getElem_mem ha)) i (List.mem_range.mpr hi)
    simpa [Array.getElem?_eq_getElem hi] using q
  obtain ⟨g1, r1⟩ := and_e r0
  obtain ⟨i0, ei0⟩ := is_v g1
  obtain rfl : w0 = (.int i0) := Option.some.inj ei0
  obtain ⟨g2, r2⟩ := and_e r1
  obtain ⟨i1, ei1⟩ := is_v g2
  obtain rfl : w1 = (.int i1) := Option.some.inj ei1
  obtain ⟨g3, r3⟩ := and_e r2
  obtain ⟨i2, ei2⟩ := is_v g3
  obtain rfl : w2 = (.int i2) := Option.some.inj ei2
  obtain ⟨g4, r4⟩ := and_e r3
  obtain ⟨i3, ei3⟩ := is_v g4
  obtain rfl : w3 = (.int i3) := Option.some.inj ei3
  obtain ⟨g5, r5⟩ := and_e r4
  obtain ⟨i4, ei4⟩ := is_v g5
  obtain rfl : w4 = (.int i4) := Option.some.inj ei4
  obtain ⟨i5, ei5⟩ := is_v r5
  obtain rfl : w5 = (.int i5) := Option.some.inj ei5
  obtain ⟨n, o, h1, h2, h3, _, L, rfl, ⟨rfl, N⟩, hq⟩ := rm0 l s _ hw tables_1 i0 i1 i2 i3 i4 i5 s.heap s.heap.size (Nat.le_refl _)  p e ha hc hk s m _ below hf ((Spec.applies_iff_loose hf).mp happ).1 ⟨rfl, State.Warmed39.refl s, rfl⟩ trivial
  refine ⟨n, _, h1, h2, h3, hpost _ _ _ _ _ _ ⟨Cond.after_iff.mpr rfl, Cond.after_iff.mpr (eq_i res_at (Term.int_eval (1)) rfl), trivial⟩ ⟨hq.1, hq.2.1, (hq.2.2.sift fun y hy => Or.inr (N y hy)).mono (by decide) (by decide)⟩⟩
theorem main_1_1 : Claimed_1_1 := comes_1 fun _ _ _ _ _ _ h hF => ⟨h.1, hF⟩
theorem main_1_2 : Claimed_1_2 := comes_1 fun _ _ _ _ _ _ h hF => ⟨h.2.1, hF⟩
end Jvm.Pilot.@@N@@
namespace Jvm.Pilot.@@N@@
open Jvm Jvm.ClassFile Sem Op Lib Jvm.Free Jvm.Stand Jvm.Pilot.@@N@@.Jvm.D
/-! MADE BY PROGRAM (witnessworld.py) out of the Statement's table words and the real class files: 9 classes; the members and pool entries that the words name. The judged class is class 1, her method 1. -/
namespace start1
open Jvm.ClassFile
def u (s : String) : CpInfo := .utf8 (stringToUtf16 s)
/-- a pool by its gaps: so many unusable entries, then the entry; so many at the end -/
def gap : Nat → List CpInfo → List CpInfo
  | 0, r => r
  | n + 1, r => .unusable :: gap n r
def poolList (es : List (Nat × CpInfo)) (last : Nat) : List CpInfo := es.foldr (fun e r => gap e.1 (e.2 :: r)) (gap last [])
def pool (es : List (Nat × CpInfo)) (last : Nat) : Array CpInfo := ⟨poolList es last⟩
def fileOf (pool : Array CpInfo) (this : Nat) (attrs : Array Attribute := #[]) (ms : Array MethodInfo := #[]) (fl : Nat := 33) (sup : Nat := 0) (ifs : Array Nat := #[]) (fds : Array FieldInfo := #[]) : ClassFile where
  minorVersion := 0
  majorVersion := 65
  constantPool := pool
  accessFlags := fl
  thisClass := this
  superClass := sup
  interfaces := ifs
  fields := fds
  methods := ms
  attributes := attrs
def plain (name : String) (sup : Option ClassId) : Class where
  name := name
  kind := .ordinary
  loader := none
  accessFlags := 33
  super := sup
  interfaces := #[]
  cf := none
  fields := #[]
  methods := #[]
  instanceTypes := #[]
  staticTypes := #[]
  resolved := #[]
  callSites := []
  init := .initialized
  statics := none
  mirror := none

def pool0 : Array CpInfo := pool [(5, u "<init>"), (0, u "()V"), (1, .class_ 10), (1, u "java/lang/Object")] 113

def k0c0 : Code := { maxStack := 0, maxLocals := 1, code := object_method_1_code, exceptionTable := #[], attributes := #[] }
def k0m0 : Method := { name := "<init>", desc := "()V", sig := { parameters := [], returnType := none }, accessFlags := 1, code := some k0c0 }
/-- java/lang/Object -/
def k0 : Class := { plain "java/lang/Object" none with
  accessFlags := 33
  interfaces := #[]
  cf := some (fileOf pool0 8 #[] #[{ accessFlags := 1, nameIndex := 5, descriptorIndex := 6, attributes := #[] }] 33 0 #[] #[])
  fields := #[]
  methods := #[k0m0]
  instanceTypes := #[]
  staticTypes := #[]
  resolved := Array.replicate 124 none
  statics := none }

def pool1 : Array CpInfo := pool [(2, .class_ 4), (0, .nameAndType 5 6), (0, u "java/lang/Object"), (0, u "<init>"), (0, u "()V"), (0, .class_ 8), (0, u "com/example/trips_into_trajectories/tripsintotrajectories/simulation/IntQueue"), (0, .methodref 7 3), (0, .methodref 7 11), (0, .nameAndType 12 13), (0, u "add"), (0, u "(I)V"), (0, .methodref 7 15), (0, .nameAndType 16 17), (0, u "poll"), (0, u "()I"), (0, .methodref 7 19), (0, .nameAndType 20 21), (0, u "get"), (0, u "(I)I"), (0, .class_ 23), (0, u "com/example/trips_into_trajectories/tripsintotrajectories/simulation/IntQueueGetPinLaw"), (2, u "law"), (0, u "(IIIIII)Z")] 5

def k1m0 : Method := { name := "<init>", desc := "()V", sig := { parameters := [], returnType := none }, accessFlags := 1, code := none }
def k1c1 : Code := { maxStack := 4, maxLocals := 13, code := code, exceptionTable := #[], attributes := #[] }
def k1m1 : Method := { name := "law", desc := "(IIIIII)Z", sig := { parameters := [.int, .int, .int, .int, .int, .int], returnType := some .boolean }, accessFlags := 9, code := some k1c1 }
/-- com/example/trips_into_trajectories/tripsintotrajectories/simulation/IntQueueGetPinLaw -/
def k1 : Class := { plain "com/example/trips_into_trajectories/tripsintotrajectories/simulation/IntQueueGetPinLaw" (some 0) with
  accessFlags := 49
  interfaces := #[]
  cf := some (fileOf pool1 22 #[] #[{ accessFlags := 1, nameIndex := 5, descriptorIndex := 6, attributes := #[] }, { accessFlags := 9, nameIndex := 26, descriptorIndex := 27, attributes := #[] }] 49 2 #[] #[])
  fields := #[]
  methods := #[k1m0, k1m1]
  instanceTypes := #[]
  staticTypes := #[]
  resolved := Array.replicate 33 none
  statics := none }

def pool2 : Array CpInfo := pool [(1, .methodref 2 3), (0, .class_ 4), (0, .nameAndType 5 6), (0, u "java/lang/Object"), (0, u "<init>"), (0, u "()V"), (0, .fieldref 8 9), (0, .class_ 10), (0, .nameAndType 11 12), (0, u "com/example/trips_into_trajectories/tripsintotrajectories/simulation/IntQueue"), (0, u "items"), (0, u "[I"), (0, .fieldref 8 14), (0, .nameAndType 15 16), (0, u "size"), (0, u "I"), (0, .methodref 8 18), (0, .nameAndType 19 20), (0, u "get"), (0, u "(I)I"), (0, .fieldref 8 22), (0, .nameAndType 23 16), (0, u "head"), (2, u "add"), (0, u "(I)V"), (2, u "poll"), (0, u "()I")] 2

def k2c0 : Code := { maxStack := 2, maxLocals := 1, code := prog_47_method_1_code, exceptionTable := #[], attributes := #[] }
def k2m0 : Method := { name := "<init>", desc := "()V", sig := { parameters := [], returnType := none }, accessFlags := 0, code := some k2c0 }
def k2c1 : Code := { maxStack := 4, maxLocals := 4, code := prog_47_method_2_code, exceptionTable := #[], attributes := #[] }
def k2m1 : Method := { name := "add", desc := "(I)V", sig := { parameters := [.int], returnType := none }, accessFlags := 0, code := some k2c1 }
def k2c2 : Code := { maxStack := 3, maxLocals := 2, code := prog_47_method_3_code, exceptionTable := #[], attributes := #[] }
def k2m2 : Method := { name := "get", desc := "(I)I", sig := { parameters := [.int], returnType := some .int }, accessFlags := 0, code := some k2c2 }
def k2c3 : Code := { maxStack := 3, maxLocals := 2, code := prog_47_method_4_code, exceptionTable := #[], attributes := #[] }
def k2m3 : Method := { name := "poll", desc := "()I", sig := { parameters := [], returnType := some .int }, accessFlags := 0, code := some k2c3 }
/-- com/example/trips_into_trajectories/tripsintotrajectories/simulation/IntQueue -/
def k2 : Class := { plain "com/example/trips_into_trajectories/tripsintotrajectories/simulation/IntQueue" (some 0) with
  accessFlags := 48
  interfaces := #[]
  cf := some (fileOf pool2 8 #[] #[{ accessFlags := 0, nameIndex := 5, descriptorIndex := 6, attributes := #[] }, { accessFlags := 0, nameIndex := 26, descriptorIndex := 27, attributes := #[] }, { accessFlags := 0, nameIndex := 19, descriptorIndex := 20, attributes := #[] }, { accessFlags := 0, nameIndex := 30, descriptorIndex := 31, attributes := #[] }] 48 2 #[] #[{ accessFlags := 2, nameIndex := 11, descriptorIndex := 12, attributes := #[] }, { accessFlags := 2, nameIndex := 23, descriptorIndex := 16, attributes := #[] }, { accessFlags := 2, nameIndex := 15, descriptorIndex := 16, attributes := #[] }])
  fields := #[{ name := "items", type := (.array .int), accessFlags := 2, slot := 0, constantValue := 0 }, { name := "head", type := .int, accessFlags := 2, slot := 1, constantValue := 0 }, { name := "size", type := .int, accessFlags := 2, slot := 2, constantValue := 0 }]
  methods := #[k2m0, k2m1, k2m2, k2m3]
  instanceTypes := #[(.array .int), .int, .int]
  staticTypes := #[]
  resolved := Array.replicate 34 none
  statics := none }

def pool3 : Array CpInfo := pool [(1, u "java/lang/Cloneable"), (0, .class_ 1), (0, u "java/lang/Object"), (0, .class_ 3)] 3

/-- java/lang/Cloneable -/
def k3 : Class := { plain "java/lang/Cloneable" (some 0) with
  accessFlags := 1537
  interfaces := #[]
  cf := some (fileOf pool3 2 #[] #[] 1537 4 #[] #[])
  fields := #[]
  methods := #[]
  instanceTypes := #[]
  staticTypes := #[]
  resolved := Array.replicate 8 none
  statics := none }

def pool4 : Array CpInfo := pool [(1, u "java/io/Serializable"), (0, .class_ 1), (0, u "java/lang/Object"), (0, .class_ 3)] 3

/-- java/io/Serializable -/
def k4 : Class := { plain "java/io/Serializable" (some 0) with
  accessFlags := 1537
  interfaces := #[]
  cf := some (fileOf pool4 2 #[] #[] 1537 4 #[] #[])
  fields := #[]
  methods := #[]
  instanceTypes := #[]
  staticTypes := #[]
  resolved := Array.replicate 8 none
  statics := none }

/-- the primitive byte -/
def k5 : Class := { plain "byte" none with kind := .primitive 'B', accessFlags := 0x411 }
/-- [B -/
def k6 : Class := { plain "[B" (some 0) with kind := .array 5 .byte, interfaces := #[3, 4], accessFlags := 1041 }

/-- the primitive int -/
def k7 : Class := { plain "int" none with kind := .primitive 'I', accessFlags := 0x411 }
/-- [I -/
def k8 : Class := { plain "[I" (some 0) with kind := .array 7 .int, interfaces := #[3, 4], accessFlags := 1041 }

def heap : Heap := #[]
def classes : Array Class := #[k0, k1, k2, k3, k4, k5, k6, k7, k8]
def interned : List (Array UInt16 × Addr) := []
def slotsUsed : Nat := 0
def theMethod : MethodId := ⟨1, 1⟩
def args0 : Array Value := #[.int 1, .int 2, .int 3, .int 4, .int 5, .int 13]
def aboutOver (below : List Frame) : State where
  vm := { classes := classes, interned := interned.toArray }
  heap := heap
  slotsUsed := slotsUsed
  threads := #[{ frames := .invoking theMethod args0 :: below }]
def below0 : List Frame := [.native { method := ⟨0, 0⟩, args := #[] }]
def about1 : State := aboutOver below0
def p0 : Program := .bare "" "" ""
def e0 : Env := launch0.env 0 0 0
theorem w_frames : about1.frames = Frame.invoking theMethod args0 :: below0 := rfl
set_option maxRecDepth 65536 in
theorem w_args : argsFit about1.vm theMethod args0 = true := by decide +kernel
set_option maxRecDepth 65536 in
theorem w_heap : heapFits about1 = true := by decide +kernel
set_option maxRecDepth 65536 in
theorem w_runnable : about1.curStatus? = some .runnable := by decide +kernel
set_option maxRecDepth 65536 in
theorem w_alone : about1.alone = true := by decide +kernel
set_option maxRecDepth 65536 in
theorem w_named : about1.methodNamed? x = some theMethod := by decide +kernel
set_option maxRecDepth 65536 in
theorem w_hears : about1.hears theMethod below0 = true := by decide +kernel
set_option maxRecDepth 65536 in
theorem w_ripe : about1.ripe theMethod args0 below0 = true := by decide +kernel
theorem w_running : about1.status = .running := rfl
set_option maxRecDepth 65536 in
theorem w_room : about1.hasRoom e0.platform room_1 = true :=
  launch0.hasRoom_least _ room_1 (by decide +kernel) (by decide +kernel) (by decide +kernel) (by decide +kernel) (by decide +kernel) (by decide +kernel)
theorem allAtoms_all (ts : List Jvm.Cond) (a : Array Jvm.Value) (st : Jvm.State) : (allAtoms ts).before a st = ts.all (fun c => c.before a st) := by
  induction ts with
  | nil => rfl
  | cons c t ih =>
    show (Jvm.Cond.and c (allAtoms t)).before a st = _
    rw [Jvm.Cond.before_and, ih, List.all_cons]
def words1 : List Jvm.Cond := Jvm.Cond.code x code maxLocals ret :: tables_1
/-- a 'code' word, met by the world's own term for the bytes: nothing is compared byte by byte -/
theorem code_word {y : MethodName} {bytes : ByteArray} {mx : Nat} {rt : Option FieldType} {a : Array Value} {s : State} {m : MethodId} {meth : Method} {c : Code} (h1 : s.methodNamed? y = some m) (h2 : s.vm.method? m = some meth) (h3 : meth.code = some c) (h4 : c.code = bytes)
    (h5 : (c.maxLocals == mx && c.exceptionTable.isEmpty && decide (c.maxStack ≤ mostOperands) && decide (meth.sig.returnType = rt) && !meth.locks && decide (parseMethodDescriptor y.desc = some meth.sig)) = true) : (Jvm.Cond.code y bytes mx rt).before a s = true := by
  simp only [Bool.and_eq_true, beq_iff_eq, Bool.not_eq_true', decide_eq_true_eq] at h5
  obtain ⟨⟨⟨⟨⟨g1, g2⟩, g3⟩, g4⟩, g5⟩, g6⟩ := h5
  simp [Cond.before, Cond.holds, Cond.value, h1, h2, h3, h4, g1, g2, g3, g4, g5, g6]
def isCode : Jvm.Cond → Bool
  | .code _ _ _ _ => true
  | _ => false
theorem all_split {L : List Jvm.Cond} {P : Jvm.Cond → Bool} (h1 : L.all (fun c => isCode c || P c) = true) (h2 : ∀ c ∈ L.filter isCode, P c = true) : L.all P = true := by
  refine List.all_eq_true.mpr fun c hc => ?_
  have h := List.all_eq_true.mp h1 c hc
  rcases Bool.eq_false_or_eq_true (isCode c) with hi | hi
  · exact h2 c (List.mem_filter.mpr ⟨hc, hi⟩)
  · simpa [hi] using h
set_option maxRecDepth 65536 in
theorem w_c0 : (Jvm.Cond.code x code maxLocals ret).before args0 about1 = true := code_word (m := ⟨1, 1⟩) (meth := k1m1) (c := k1c1) (by decide +kernel) rfl rfl rfl (by decide +kernel)
set_option maxRecDepth 65536 in
theorem w_c1 : (Jvm.Cond.code ({ cls := "com/example/trips_into_trajectories/tripsintotrajectories/simulation/IntQueue", name := "<init>", desc := "()V" } : Jvm.MethodName) prog_47_method_1_code (1 : Nat) (Option.none : Option Jvm.ClassFile.FieldType)).before args0 about1 = true := code_word (m := ⟨2, 0⟩) (meth := k2m0) (c := k2c0) (by decide +kernel) rfl rfl rfl (by decide +kernel)
set_option maxRecDepth 65536 in
theorem w_c2 : (Jvm.Cond.code ({ cls := "java/lang/Object", name := "<init>", desc := "()V" } : Jvm.MethodName) object_method_1_code (1 : Nat) (Option.none : Option Jvm.ClassFile.FieldType)).before args0 about1 = true := code_word (m := ⟨0, 0⟩) (meth := k0m0) (c := k0c0) (by decide +kernel) rfl rfl rfl (by decide +kernel)
set_option maxRecDepth 65536 in
theorem w_c3 : (Jvm.Cond.code ({ cls := "com/example/trips_into_trajectories/tripsintotrajectories/simulation/IntQueue", name := "add", desc := "(I)V" } : Jvm.MethodName) prog_47_method_2_code (4 : Nat) (Option.none : Option Jvm.ClassFile.FieldType)).before args0 about1 = true := code_word (m := ⟨2, 1⟩) (meth := k2m1) (c := k2c1) (by decide +kernel) rfl rfl rfl (by decide +kernel)
set_option maxRecDepth 65536 in
theorem w_c4 : (Jvm.Cond.code ({ cls := "com/example/trips_into_trajectories/tripsintotrajectories/simulation/IntQueue", name := "poll", desc := "()I" } : Jvm.MethodName) prog_47_method_4_code (2 : Nat) (Option.some Jvm.ClassFile.FieldType.int)).before args0 about1 = true := code_word (m := ⟨2, 3⟩) (meth := k2m3) (c := k2c3) (by decide +kernel) rfl rfl rfl (by decide +kernel)
set_option maxRecDepth 65536 in
theorem w_c5 : (Jvm.Cond.code ({ cls := "com/example/trips_into_trajectories/tripsintotrajectories/simulation/IntQueue", name := "get", desc := "(I)I" } : Jvm.MethodName) prog_47_method_3_code (2 : Nat) (Option.some Jvm.ClassFile.FieldType.int)).before args0 about1 = true := code_word (m := ⟨2, 2⟩) (meth := k2m2) (c := k2c2) (by decide +kernel) rfl rfl rfl (by decide +kernel)
def codes1 : List Jvm.Cond := [Jvm.Cond.code x code maxLocals ret, Jvm.Cond.code ({ cls := "com/example/trips_into_trajectories/tripsintotrajectories/simulation/IntQueue", name := "<init>", desc := "()V" } : Jvm.MethodName) prog_47_method_1_code (1 : Nat) (Option.none : Option Jvm.ClassFile.FieldType), Jvm.Cond.code ({ cls := "java/lang/Object", name := "<init>", desc := "()V" } : Jvm.MethodName) object_method_1_code (1 : Nat) (Option.none : Option Jvm.ClassFile.FieldType), Jvm.Cond.code ({ cls := "com/example/trips_into_trajectories/tripsintotrajectories/simulation/IntQueue", name := "add", desc := "(I)V" } : Jvm.MethodName) prog_47_method_2_code (4 : Nat) (Option.none : Option Jvm.ClassFile.FieldType), Jvm.Cond.code ({ cls := "com/example/trips_into_trajectories/tripsintotrajectories/simulation/IntQueue", name := "poll", desc := "()I" } : Jvm.MethodName) prog_47_method_4_code (2 : Nat) (Option.some Jvm.ClassFile.FieldType.int), Jvm.Cond.code ({ cls := "com/example/trips_into_trajectories/tripsintotrajectories/simulation/IntQueue", name := "get", desc := "(I)I" } : Jvm.MethodName) prog_47_method_3_code (2 : Nat) (Option.some Jvm.ClassFile.FieldType.int)]
set_option maxRecDepth 65536 in
theorem codes_eq : words1.filter isCode = codes1 := rfl
theorem w_codes : ∀ c ∈ words1.filter isCode, c.before args0 about1 = true := by
  rw [codes_eq]
  intro c hc
  simp only [codes1, List.mem_cons, List.not_mem_nil, or_false] at hc
  rcases hc with rfl | rfl | rfl | rfl | rfl | rfl
  · exact w_c0
  · exact w_c1
  · exact w_c2
  · exact w_c3
  · exact w_c4
  · exact w_c5
set_option maxRecDepth 65536 in
theorem w_t1 : (words1.take 24).all (fun c => isCode c || c.before args0 about1) = true := by decide +kernel
set_option maxRecDepth 65536 in
theorem w_t2 : (words1.drop 24).all (fun c => isCode c || c.before args0 about1) = true := by decide +kernel
theorem w_tables : (allAtoms (Jvm.Cond.code x code maxLocals ret :: tables_1)).before args0 about1 = true := by
  rw [allAtoms_all]
  show words1.all (fun c => c.before args0 about1) = true
  refine all_split ?_ w_codes
  rw [← List.take_append_drop 24 words1, List.all_append, w_t1, w_t2]
  rfl
set_option maxRecDepth 65536 in
theorem w_case : (Jvm.Cond.and given_1 narrow_1).before args0 about1 = true := by decide +kernel
theorem w_applies : (headSpec (Jvm.Cond.code x code maxLocals ret :: tables_1) room_1).applies x e0.platform about1 = true :=
  (Spec.applies_iff w_frames).mpr ⟨w_running, w_runnable, w_alone, w_named, w_hears, w_ripe, w_room, w_tables⟩
theorem atStart : AtStart classFile x code maxLocals ret World_1 tables_1 room_1 Calls_1 rest_1 Pre_1 launch0 p0 e0 about1 theMethod args0 below0 :=
  ⟨lists_1, trivial, launch0.admits_env _ _ _, launch0.least_env, fairChoices_fair.cas, fairChoices_fair.clock, w_frames, w_args, w_heap, w_applies, trivial, trivial, w_case⟩
end start1
theorem witness_1 : WitnessClaimed_1 := ⟨start1.p0, start1.e0, start1.about1, start1.theMethod, start1.args0, start1.below0, start1.atStart⟩
end Jvm.Pilot.@@N@@
