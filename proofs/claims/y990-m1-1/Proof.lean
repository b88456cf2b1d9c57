import JvmDerived
import JvmDerived.Pilot.@@N@@Statement
import JvmDerived.Pilot.@@N@@Code
set_option linter.unusedVariables false
set_option linter.unusedSimpArgs false
namespace Jvm.RoadKit
open Sem ClassFile Op Lib Jvm.Stand Jvm.Free Jvm.LawKit
section New
variable {p : Program} {l : Launch} {e : Env} {R : Room} {s : State} {m : MethodId} {args : Array Value} {below : List Frame} {meth : Method} {c : Code} {T : State} {locs : List Loc} {cells slots : Nat}
theorem retI (X : Stand p l e R s m args below meth c T locs cells slots) (hx : p.tables.exec = Jvm.exec) {pc : Nat} {Ls : Array Slot} {z : Int32} {rest : List Value} (hret : meth.sig.returnType = some .int) (hd : decode c.code pc = .ok (.ireturn, 1)) {fs : List Frame}
    (hl : ∀ (f : JFrame) (acts : List Action), f.method = m → f.locked = none → f.entered = [] → (doReturn e (T.setTop f) acts (some (.int z))).1 = T.setFrames fs) : Steps p.tables e below (T.setTop (mkF m pc Ls (.int z :: rest))) (T.setFrames fs) := by
  have hm' : T.vm.method? m = some meth := X.method'
  have hn : narrow .int (.int z) = .int z := rfl
  show Steps p.tables e below (T.setTop { method := m, pc := pc, locals := Ls, stack := _ :: rest, locked := none }) _
  jvm_step X.here [X.here.top, hx, hd, hm', hret, hn]
  first | (intro acts; rw [hl _ acts rfl rfl rfl]) | rw [hl _ _ rfl rfl rfl]
  exact Steps.refl _
end New
end Jvm.RoadKit
namespace Jvm.Pilot.@@N@@
open Jvm Jvm.ClassFile Sem Op Lib Jvm.Free Jvm.Stand Jvm.LawKit Jvm.RoadKit Bundle Jvm.Pilot.@@N@@.Jvm.D
def Far (Z : State) (h : Heap) (a : Addr) (ty : FieldType) (n : Int32) (f : Nat → Int32) : Prop := ∃ c : Cell, Arr Z h a c ty ∧ c.slots.size = n.toNatClampNeg ∧ ¬ n < 0 ∧ ∀ k, k < c.slots.size → c.slots[k]? = some (.int (f k))
section FarLaws
variable {Z : State} {h h' : Heap} {a b : Addr} {ty : FieldType} {n : Int32} {f g : Nat → Int32} {sl : Nat} {v : Value} {ws : List Addr}
theorem Far.lt (F : Far Z h a ty n f) : a < h.size := by obtain ⟨c, A, -⟩ := F; exact A.lt
theorem Far.ext (F : Far Z h a ty n f) (E : Ext h h') : Far Z h' a ty n f := by obtain ⟨c, A, r⟩ := F; exact ⟨c, A.ext E, r⟩
theorem Far.other (F : Far Z h b ty n f) (W : Wr h h' a sl v) (q : b ≠ a) : Far Z h' b ty n f := by obtain ⟨c, A, r⟩ := F; exact ⟨c, A.other W q, r⟩
theorem Far.keep (F : Far Z h a ty n f) (K : Keep h h' ws) (q : a ∉ ws) : Far Z h' a ty n f := by obtain ⟨c, A, r⟩ := F; exact ⟨c, ⟨K.2.1 a c A.1 q, A.2⟩, r⟩
theorem Far.new {k : ClassId} (A : Arr Z h a (newA k ty n) ty) (q : ¬ n < 0) (hd : defaultValue ty = .int 0) : Far Z h a ty n (fun _ => 0) := ⟨_, A, sz_new _ _ _, q, fun i hi => by
  rw [sz_new] at hi
  simp [newA, hi, hd]⟩
theorem Far.congr (F : Far Z h a ty n f) (q : ∀ k, k < n.toNatClampNeg → f k = g k) : Far Z h a ty n g := by
  obtain ⟨c, A, S, M, H⟩ := F
  exact ⟨c, A, S, M, fun k hk => by rw [← q k (S ▸ hk)]; exact H k hk⟩
theorem Far.set {c : Cell} {j x : Int32} (A : Arr Z h a c ty) (S : c.slots.size = n.toNatClampNeg) (M : ¬ n < 0) (H : ∀ k, k < c.slots.size → c.slots[k]? = some (.int (f k))) (W : Wr h h' a j.toNatClampNeg (.int x)) : Far Z h' a ty n (fun k => if k = j.toNatClampNeg then x else f k) := by
  refine ⟨c.setSlot j.toNatClampNeg (.int x), A.same W, by rw [sz_set]; exact S, M, fun k hk => ?_⟩
  rw [sz_set] at hk
  show _ = some (Value.int (if k = j.toNatClampNeg then x else f k))
  by_cases e : k = j.toNatClampNeg
  · rw [if_pos e]; subst e; exact Cell.slots_setSlot_self _ hk
  · rw [if_neg e, Cell.slots_setSlot_ne _ (Ne.symm e)]; exact H k hk
theorem own_at {c : Cell} {j : Int32} (H : ∀ k, k < c.slots.size → c.slots[k]? = some (.int (f k))) (hin : ¬ (j < 0 ∨ c.slots.size ≤ j.toNatClampNeg)) : c.slots[j.toNatClampNeg]? = some (.int (f j.toNatClampNeg)) := H _ (Nat.lt_of_not_le fun q => hin (Or.inr q))
end FarLaws
theorem own_lt (a b : Int32) : a < b ↔ a.toInt < b.toInt := Int32.lt_iff_toInt_lt
theorem own_irr (n : Int32) : ¬ n < n := by rw [own_lt]; omega
theorem own_nat (j : Int32) (h : 0 ≤ j.toInt) : (j.toNatClampNeg : Int) = j.toInt := Int.toNat_of_nonneg h
theorem Far.put {Z : State} {h h' : Heap} {a : Addr} {ty : FieldType} {n : Int32} {f : Nat → Int32} {j x : Int32} (F : Far Z h a ty n f) (W : Wr h h' a j.toNatClampNeg (.int x)) : Far Z h' a ty n (fun k => if k = j.toNatClampNeg then x else f k) := by
  obtain ⟨c, A, S, M, H⟩ := F
  exact Far.set A S M H W
def RQ (Z : State) (h : Heap) (q b : Addr) (N hd sz : Int32) (g : Nat → Int32) : Prop := Exa Z h q "com/example/trips_into_trajectories/tripsintotrajectories/simulation/IntQueue" ∧ Fld Z h q "com/example/trips_into_trajectories/tripsintotrajectories/simulation/IntQueue" "items" "[I" (.ref b) ∧ Fld Z h q "com/example/trips_into_trajectories/tripsintotrajectories/simulation/IntQueue" "head" "I" (.int hd) ∧ Fld Z h q "com/example/trips_into_trajectories/tripsintotrajectories/simulation/IntQueue" "size" "I" (.int sz) ∧ Far Z h b .int N g ∧ q ≠ b
section RQLaws
variable {Z : State} {h h' : Heap} {q b b' a : Addr} {N N' hd sz x : Int32} {g g' : Nat → Int32} {sl : Nat} {v : Value}
theorem RQ.ext (R : RQ Z h q b N hd sz g) (E : Ext h h') : RQ Z h' q b N hd sz g := by
  obtain ⟨r1, r2, r3, r4, r5, r6⟩ := R
  exact ⟨r1.ext E, r2.ext E, r3.ext E, r4.ext E, r5.ext E, r6⟩
theorem RQ.other (R : RQ Z h q b N hd sz g) (W : Wr h h' a sl v) (n1 : q ≠ a) (n2 : b ≠ a) : RQ Z h' q b N hd sz g := by
  obtain ⟨r1, r2, r3, r4, r5, r6⟩ := R
  exact ⟨r1.wr W, r2.other W (Or.inl n1), r3.other W (Or.inl n1), r4.other W (Or.inl n1), r5.other W n2, r6⟩
theorem RQ.items (R : RQ Z h q b N hd sz g) (W : Wr h h' q (Jvm.RoadKit.slotOf Z "com/example/trips_into_trajectories/tripsintotrajectories/simulation/IntQueue" "items" "[I") (.ref b')) (F : Far Z h b' .int N' g') (n : q ≠ b') (s1 : Jvm.RoadKit.slotOf Z "com/example/trips_into_trajectories/tripsintotrajectories/simulation/IntQueue" "head" "I" ≠ Jvm.RoadKit.slotOf Z "com/example/trips_into_trajectories/tripsintotrajectories/simulation/IntQueue" "items" "[I") (s2 : Jvm.RoadKit.slotOf Z "com/example/trips_into_trajectories/tripsintotrajectories/simulation/IntQueue" "size" "I" ≠ Jvm.RoadKit.slotOf Z "com/example/trips_into_trajectories/tripsintotrajectories/simulation/IntQueue" "items" "[I") : RQ Z h' q b' N' hd sz g' := by
  obtain ⟨r1, r2, r3, r4, r5, r6⟩ := R
  exact ⟨r1.wr W, r2.same W, r3.other W (Or.inr s1), r4.other W (Or.inr s2), F.other W (Ne.symm n), n⟩
theorem RQ.head (R : RQ Z h q b N hd sz g) (W : Wr h h' q (Jvm.RoadKit.slotOf Z "com/example/trips_into_trajectories/tripsintotrajectories/simulation/IntQueue" "head" "I") (.int x)) (s1 : Jvm.RoadKit.slotOf Z "com/example/trips_into_trajectories/tripsintotrajectories/simulation/IntQueue" "items" "[I" ≠ Jvm.RoadKit.slotOf Z "com/example/trips_into_trajectories/tripsintotrajectories/simulation/IntQueue" "head" "I") (s2 : Jvm.RoadKit.slotOf Z "com/example/trips_into_trajectories/tripsintotrajectories/simulation/IntQueue" "size" "I" ≠ Jvm.RoadKit.slotOf Z "com/example/trips_into_trajectories/tripsintotrajectories/simulation/IntQueue" "head" "I") : RQ Z h' q b N x sz g := by
  obtain ⟨r1, r2, r3, r4, r5, r6⟩ := R
  exact ⟨r1.wr W, r2.other W (Or.inr s1), r3.same W, r4.other W (Or.inr s2), r5.other W (Ne.symm r6), r6⟩
theorem RQ.size (R : RQ Z h q b N hd sz g) (W : Wr h h' q (Jvm.RoadKit.slotOf Z "com/example/trips_into_trajectories/tripsintotrajectories/simulation/IntQueue" "size" "I") (.int x)) (s1 : Jvm.RoadKit.slotOf Z "com/example/trips_into_trajectories/tripsintotrajectories/simulation/IntQueue" "items" "[I" ≠ Jvm.RoadKit.slotOf Z "com/example/trips_into_trajectories/tripsintotrajectories/simulation/IntQueue" "size" "I") (s2 : Jvm.RoadKit.slotOf Z "com/example/trips_into_trajectories/tripsintotrajectories/simulation/IntQueue" "head" "I" ≠ Jvm.RoadKit.slotOf Z "com/example/trips_into_trajectories/tripsintotrajectories/simulation/IntQueue" "size" "I") : RQ Z h' q b N hd x g := by
  obtain ⟨r1, r2, r3, r4, r5, r6⟩ := R
  exact ⟨r1.wr W, r2.other W (Or.inr s1), r3.other W (Or.inr s2), r4.same W, r5.other W (Ne.symm r6), r6⟩
theorem RQ.elem {j : Int32} (R : RQ Z h q b N hd sz g) (W : Wr h h' b j.toNatClampNeg (.int x)) : RQ Z h' q b N hd sz (fun k => if k = j.toNatClampNeg then x else g k) := by
  obtain ⟨r1, r2, r3, r4, r5, r6⟩ := R
  exact ⟨r1.wr W, r2.other W (Or.inl r6), r3.other W (Or.inl r6), r4.other W (Or.inl r6), r5.put W, r6⟩
end RQLaws
def IQ (Z : State) (n0 : Nat) (h : Heap) (q : Addr) (sz : Nat) (el : Nat → Int32) : Prop := ∃ (b : Addr) (N hd szI : Int32) (g : Nat → Int32), RQ Z h q b N hd szI g ∧ n0 ≤ q ∧ n0 ≤ b ∧ (N = 4 ∨ N = 8) ∧ 0 ≤ hd.toInt ∧ hd.toInt < N.toInt ∧ szI.toInt = sz ∧ (sz : Int) ≤ N.toInt ∧ ∀ i : Nat, i < sz → g ((hd.toInt + i) % N.toInt).toNat = el i
theorem IQ.le {Z : State} {n0 : Nat} {h : Heap} {q : Addr} {sz : Nat} {el : Nat → Int32} (I : IQ Z n0 h q sz el) : n0 ≤ h.size := by
  obtain ⟨b, N, hd, szI, g, R, h1, -⟩ := I
  exact Nat.le_trans h1 (Nat.le_of_lt R.1.lt)
theorem IQ.exa {Z : State} {n0 : Nat} {h : Heap} {q : Addr} {sz : Nat} {el : Nat → Int32} (I : IQ Z n0 h q sz el) : Exa Z h q "com/example/trips_into_trajectories/tripsintotrajectories/simulation/IntQueue" := by
  obtain ⟨b, N, hd, szI, g, R, -⟩ := I
  exact R.1
theorem IQ.congr {Z : State} {n0 : Nat} {h : Heap} {q : Addr} {sz : Nat} {el el' : Nat → Int32} (I : IQ Z n0 h q sz el) (c : ∀ i, i < sz → el i = el' i) : IQ Z n0 h q sz el' := by
  obtain ⟨b, N, hd, szI, g, R, h1, h2, h3, h4, h5, h6, h7, h8⟩ := I
  exact ⟨b, N, hd, szI, g, R, h1, h2, h3, h4, h5, h6, h7, fun i hi => (h8 i hi).trans (c i hi)⟩
theorem IQ.next {Z : State} {n0 : Nat} {h : Heap} {q : Addr} {sz j : Nat} {md : Nat → Int32} {x : Int32} (I : IQ Z n0 h q (sz + 1) (fun i => if i = sz then x else md (i + j))) (hx : md (sz + j) = x) : IQ Z n0 h q (sz + 1) (fun i => md (i + j)) := I.congr fun i hi => by
  show (if i = sz then x else md (i + j)) = md (i + j)
  by_cases e : i = sz
  · rw [if_pos e, e, hx]
  · rw [if_neg e]
theorem IQ.less {Z : State} {n0 : Nat} {h : Heap} {q : Addr} {sz j : Nat} {md : Nat → Int32} (I : IQ Z n0 h q sz (fun i => md (i + 1 + j))) : IQ Z n0 h q sz (fun i => md (i + (j + 1))) := I.congr fun i hi => by
  show md (i + 1 + j) = md (i + (j + 1))
  rw [Nat.add_assoc, Nat.add_comm 1 j]
theorem IQ.keep {Z : State} {n0 : Nat} {h h' : Heap} {q : Addr} {sz : Nat} {el : Nat → Int32} {ws : List Addr} (I : IQ Z n0 h q sz el) (K : Keep h h' ws) (hf : ∀ x ∈ ws, h.size ≤ x) : IQ Z n0 h' q sz el := by
  obtain ⟨b, N, hd, szI, g, ⟨r1, r2, r3, r4, r5, r6⟩, r⟩ := I
  have nq : q ∉ ws := fun m => absurd (hf q m) (Nat.not_le.mpr r1.lt)
  have nb : b ∉ ws := fun m => absurd (hf b m) (Nat.not_le.mpr r5.lt)
  exact ⟨b, N, hd, szI, g, ⟨r1.keep K, r2.keep K nq, r3.keep K nq, r4.keep K nq, r5.keep K nb, r6⟩, r⟩
theorem own_N {N : Int32} (h : N = 4 ∨ N = 8) : (N.toInt = 4 ∨ N.toInt = 8) ∧ ¬ N < 0 ∧ N ≠ 0 := by rcases h with rfl | rfl <;> decide
theorem own_mod {N x : Int32} (h : N = 4 ∨ N = 8) (h0 : 0 ≤ x.toInt) : (x % N).toInt = x.toInt % N.toInt := (c_irem x N _ rfl).1 h0
theorem own_add {x y : Int32} (h0 : 0 ≤ x.toInt) (h1 : x.toInt ≤ 1000) (h2 : -1000 ≤ y.toInt) (h3 : y.toInt ≤ 1000) : (x + y).toInt = x.toInt + y.toInt := by
  have q := c_iadd x y
  have := rng32 (x + y)
  omega
theorem own_inj {a s i N : Int} (hN : N = 4 ∨ N = 8) (h1 : 0 ≤ i) (h2 : i < s) (h3 : s < N) (q : (a + i) % N = (a + s) % N) : False := by
  rcases hN with rfl | rfl <;> omega
theorem own_mods {N : Int32} (h : N = 4 ∨ N = 8) (x : Int) : 0 ≤ x % N.toInt ∧ x % N.toInt < N.toInt := by
  rcases (own_N h).1 with e | e <;> rw [e] <;> omega
theorem ne_head_items {Z : State} {a0 : Array Value} (hw : ∀ d ∈ tables_1, d.before a0 Z = true) : Jvm.RoadKit.slotOf Z "com/example/trips_into_trajectories/tripsintotrajectories/simulation/IntQueue" "head" "I" ≠ Jvm.RoadKit.slotOf Z "com/example/trips_into_trajectories/tripsintotrajectories/simulation/IntQueue" "items" "[I" := slot_ne (Or.inl (hw _ (List.mem_of_getElem? (i := 26) rfl))) (Or.inl (hw _ (List.mem_of_getElem? (i := 12) rfl))) (by decide) (t := .int) (t' := (.array .int)) (by decide) (by decide)
theorem ne_size_items {Z : State} {a0 : Array Value} (hw : ∀ d ∈ tables_1, d.before a0 Z = true) : Jvm.RoadKit.slotOf Z "com/example/trips_into_trajectories/tripsintotrajectories/simulation/IntQueue" "size" "I" ≠ Jvm.RoadKit.slotOf Z "com/example/trips_into_trajectories/tripsintotrajectories/simulation/IntQueue" "items" "[I" := slot_ne (Or.inl (hw _ (List.mem_of_getElem? (i := 19) rfl))) (Or.inl (hw _ (List.mem_of_getElem? (i := 12) rfl))) (by decide) (t := .int) (t' := (.array .int)) (by decide) (by decide)
theorem ne_items_head {Z : State} {a0 : Array Value} (hw : ∀ d ∈ tables_1, d.before a0 Z = true) : Jvm.RoadKit.slotOf Z "com/example/trips_into_trajectories/tripsintotrajectories/simulation/IntQueue" "items" "[I" ≠ Jvm.RoadKit.slotOf Z "com/example/trips_into_trajectories/tripsintotrajectories/simulation/IntQueue" "head" "I" := slot_ne (Or.inl (hw _ (List.mem_of_getElem? (i := 12) rfl))) (Or.inl (hw _ (List.mem_of_getElem? (i := 26) rfl))) (by decide) (t := (.array .int)) (t' := .int) (by decide) (by decide)
theorem ne_size_head {Z : State} {a0 : Array Value} (hw : ∀ d ∈ tables_1, d.before a0 Z = true) : Jvm.RoadKit.slotOf Z "com/example/trips_into_trajectories/tripsintotrajectories/simulation/IntQueue" "size" "I" ≠ Jvm.RoadKit.slotOf Z "com/example/trips_into_trajectories/tripsintotrajectories/simulation/IntQueue" "head" "I" := slot_ne (Or.inl (hw _ (List.mem_of_getElem? (i := 19) rfl))) (Or.inl (hw _ (List.mem_of_getElem? (i := 26) rfl))) (by decide) (t := .int) (t' := .int) (by decide) (by decide)
theorem ne_items_size {Z : State} {a0 : Array Value} (hw : ∀ d ∈ tables_1, d.before a0 Z = true) : Jvm.RoadKit.slotOf Z "com/example/trips_into_trajectories/tripsintotrajectories/simulation/IntQueue" "items" "[I" ≠ Jvm.RoadKit.slotOf Z "com/example/trips_into_trajectories/tripsintotrajectories/simulation/IntQueue" "size" "I" := slot_ne (Or.inl (hw _ (List.mem_of_getElem? (i := 12) rfl))) (Or.inl (hw _ (List.mem_of_getElem? (i := 19) rfl))) (by decide) (t := (.array .int)) (t' := .int) (by decide) (by decide)
theorem ne_head_size {Z : State} {a0 : Array Value} (hw : ∀ d ∈ tables_1, d.before a0 Z = true) : Jvm.RoadKit.slotOf Z "com/example/trips_into_trajectories/tripsintotrajectories/simulation/IntQueue" "head" "I" ≠ Jvm.RoadKit.slotOf Z "com/example/trips_into_trajectories/tripsintotrajectories/simulation/IntQueue" "size" "I" := slot_ne (Or.inl (hw _ (List.mem_of_getElem? (i := 26) rfl))) (Or.inl (hw _ (List.mem_of_getElem? (i := 19) rfl))) (by decide) (t := .int) (t' := .int) (by decide) (by decide)
theorem d1_0 : decode prog_47_method_1_code 0 = .ok (.aload_n 0, 1) := by decide +kernel
theorem d1_1 : decode prog_47_method_1_code 1 = .ok (.invokespecial 1, 3) := by decide +kernel
theorem d1_4 : decode prog_47_method_1_code 4 = .ok (.aload_n 0, 1) := by decide +kernel
theorem d1_5 : decode prog_47_method_1_code 5 = .ok (.iconst 4, 1) := by decide +kernel
theorem d1_6 : decode prog_47_method_1_code 6 = .ok (.newarray .int, 2) := by decide +kernel
theorem d1_8 : decode prog_47_method_1_code 8 = .ok (.putfield 7, 3) := by decide +kernel
theorem d1_11 : decode prog_47_method_1_code 11 = .ok (.return_, 1) := by decide +kernel
theorem pn_rmN : plainName "com/example/trips_into_trajectories/tripsintotrajectories/simulation/IntQueue" = true := by first | (simp [plainName, overriddenIn]; done) | decide +kernel
theorem ef_rmN (m : MethodId) (a1 : Addr) : entryFrame m #[(.ref a1)] 1 = (mkF m 0 #[.val (.ref a1)] []) := by first | (simp [entryFrame, mkF, argsToLocals, Value.category]; done) | rfl
def Q_rmN (Z : State) (a1 : Addr)  (h0 : Heap) (n0 : Nat) (v : Option Value) (h : Heap) (L : List Loc) : Prop := v = none ∧ Fr n0 L ∧ ∀ el, IQ Z n0 h a1 0 el
set_option maxRecDepth 65536 in
set_option maxHeartbeats 40000000 in
theorem rmN (l : Launch) (Z : State) (a0 : Array Value) (hw : ∀ d ∈ tables_1, d.before a0 Z = true) (ws : List Jvm.Cond) (a1 : Addr)  (h0 : Heap) (n0 : Nat) (Z0 : n0 ≤ h0.size) (E : Exa Z h0 a1 "com/example/trips_into_trajectories/tripsintotrajectories/simulation/IntQueue") (F1 : Fld Z h0 a1 "com/example/trips_into_trajectories/tripsintotrajectories/simulation/IntQueue" "items" "[I" .null) (F2 : Fld Z h0 a1 "com/example/trips_into_trajectories/tripsintotrajectories/simulation/IntQueue" "head" "I" (.int (0 : Int32))) (F3 : Fld Z h0 a1 "com/example/trips_into_trajectories/tripsintotrajectories/simulation/IntQueue" "size" "I" (.int (0 : Int32))) (g_a1 : n0 ≤ a1) :
    MetFree l (⟨"com/example/trips_into_trajectories/tripsintotrajectories/simulation/IntQueue", "<init>", "()V"⟩ : MethodName) (head1 (Jvm.Cond.code (⟨"com/example/trips_into_trajectories/tripsintotrajectories/simulation/IntQueue", "<init>", "()V"⟩ : MethodName) prog_47_method_1_code 1 none :: ws) ({ frames := 1, cells := 1, slots := 4, locals := 12 } : Room)) (fun a U => a = #[(.ref a1)] ∧ Z.Warmed39 U.vm ∧ U.heap = h0) (fun _ _ _ _ _ => True) (fun _ U o U' => ∃ v L, o = .returned v ∧ Q_rmN Z a1 h0 n0 v U'.heap L ∧ FrameEnd U o U' L ({ frames := 1, cells := 1, slots := 4, locals := 12 } : Room).cells ({ frames := 1, cells := 1, slots := 4, locals := 12 } : Room).slots) := by
  refine MetFree.of_bodySF (plainFor_of_name pn_rmN) hisR ?_
  intro p e s m args below meth c s₁ Bd hml0 hP hK
  obtain ⟨rfl, hZ, hh⟩ := hP
  have hx := Bd.exec
  have hby := Bd.bytes
  have hml : c.maxLocals = 1 := hml0
  have hown : s.vm.findClass "com/example/trips_into_trajectories/tripsintotrajectories/simulation/IntQueue" = some m.cls := findClass_of_methodNamed Bd.named
  have hnm := (name_of_methodNamed Bd.named Bd.method).1
  have X0 : Stand p l e ({ frames := 1, cells := 1, slots := 4, locals := 12 } : Room) s m #[(.ref a1)] below meth c s₁ [] 0 0 := Stand.of_body Bd
  have e0 : s₁.heap = h0 := by rw [← hh, Bd.state]; rfl
  have N0 := Fr.nil n0
  have pre0 : Steps p.tables e below (s₁.setTop (entryFrame m #[(.ref a1)] 1)) (s₁.setTop (mkF m 0 #[.val (.ref a1)] [])) := castTop (ef_rmN m a1) (Steps.refl _)
  have pre1 : Steps p.tables e below _ (s₁.setTop (mkF m 1 #[.val (.ref a1)] [(.ref a1)])) := pre0.trans (by
    show Steps p.tables e below (s₁.setTop (mkF m 0 #[.val (.ref a1)] [])) _
    refine XS.aloadN X0.here hx rfl (hb hby d1_0) rfl rfl ?_
    exact Steps.refl _)
  obtain ⟨T2, X2, e2, st2⟩ := initO X0 hx hZ hown (hw _ (List.mem_of_getElem? (i := 7) rfl)) (hw _ (List.mem_of_getElem? (i := 8) rfl)) (hw _ (List.mem_of_getElem? (i := 9) rfl)) e0 (g := (mkF m 1 #[.val (.ref a1)] [(.ref a1)])) rfl (by rw [hml]; rfl) rfl (hb hby d1_1) (by decide) (W := 0) (by show 2 * 0 + _ ≤ _; exact Nat.le_of_eq rfl) (by decide)
  have pre2 : Steps p.tables e below _ (T2.setTop (mkF m 4 #[.val (.ref a1)] [])) := pre1.trans (st2 _ (Steps.refl _))
  have pre3 : Steps p.tables e below _ (T2.setTop (mkF m 6 #[.val (.ref a1)] [(.int (4 : Int32)), (.ref a1)])) := pre2.trans (by
    show Steps p.tables e below (T2.setTop (mkF m 4 #[.val (.ref a1)] [])) _
    refine XS.aloadN X2.here hx rfl (hb hby d1_4) rfl rfl ?_
    show Steps p.tables e below (T2.setTop (mkF m 5 #[.val (.ref a1)] [(.ref a1)])) _
    refine XS.iconst X2.here hx rfl (hb hby d1_5) ?_
    exact Steps.refl _)
  obtain ⟨T4, h4, k4, X4, e4, E4, A4, st4⟩ := newP X2 hx hZ (hw _ (List.mem_of_getElem? (i := 10) rfl)) e2 (g := (mkF m 6 #[.val (.ref a1)] [(.int (4 : Int32)), (.ref a1)])) rfl (hb hby d1_6) rfl (by decide) (cap := 4) (by decide) (by decide) (by decide) (by decide)
  obtain ⟨b4, g4⟩ : ∃ z, z = h0.size := ⟨_, rfl⟩
  rw [← g4] at A4 st4
  have g_b4 : n0 ≤ b4 := Nat.le_trans Z0 (Nat.le_of_eq g4.symm)
  have lt_b4 : b4 < h4.size := A4.lt
  have V4 : Arv Z h4 b4 k4 .int (4 : Int32) [] (.int (0 : Int32)) := Arv.new A4 (by decide)
  have Z4 : n0 ≤ h4.size := Nat.le_trans Z0 E4.1
  have pre4 : Steps p.tables e below _ (T4.setTop (mkF m 8 #[.val (.ref a1)] [(.ref b4), (.ref a1)])) := pre3.trans (st4 _ (Steps.refl _))
  have FA : Far Z h4 b4 .int (4 : Int32) (fun _ => 0) := Far.new A4 (by decide) rfl
  have nq : a1 ≠ b4 := Nat.ne_of_lt (Nat.lt_of_lt_of_le E.lt (Nat.le_of_eq g4.symm))
  obtain ⟨T5, h5, X5, e5, W5, st5⟩ := putF X4 hx hZ hown (host := "") (Or.inl (hw _ (List.mem_of_getElem? (i := 11) rfl))) Via.refl e4 (F1.ext E4) (E.ext E4) (Or.inl (hw _ (List.mem_of_getElem? (i := 12) rfl))) (hw _ (List.mem_of_getElem? (i := 2) rfl)) (ty := (.array .int)) (by decide) rfl rfl (g := (mkF m 8 #[.val (.ref a1)] [(.ref b4), (.ref a1)])) rfl rfl (hb hby d1_8)
  have N5 := Fr.snoc X5 N0 g_a1
  have Z5 : n0 ≤ h5.size := Nat.le_trans Z4 (Keep.of_wr W5).1
  have pre5 : Steps p.tables e below _ (T5.setTop (mkF m 11 #[.val (.ref a1)] [])) := pre4.trans (st5 _ (Steps.refl _))
  have R : RQ Z h5 a1 b4 (4 : Int32) (0 : Int32) (0 : Int32) (fun _ => 0) := ⟨(E.ext E4).wr W5, (F1.ext E4).same W5, (F2.ext E4).other W5 (Or.inr (ne_head_items hw)), (F3.ext E4).other W5 (Or.inr (ne_size_items hw)), FA.other W5 (Ne.symm nq), nq⟩
  obtain ⟨fs, hr, hrun, hended, hW, hsame⟩ := X5.leave (v := none) (fun h => by rfl)
  refine ⟨_, _, pre5.trans ?_, hrun, hended, _, _, rfl, ?_, ⟨_, rfl⟩, hW, hsame.mono (by decide) (by decide)⟩
  · exact X5.returnOut hx Bd.returns (hb hby d1_11) hr
  · exact ⟨rfl, N5, fun el => by show IQ Z n0 T5.heap a1 0 el; rw [e5]; exact ⟨b4, 4, 0, 0, _, R, g_a1, g_b4, Or.inl rfl, by decide, by decide, rfl, by decide, fun i hi => absurd hi (Nat.not_lt_zero i)⟩⟩
theorem d6_0 : decode prog_47_method_3_code 0 = .ok (.aload_n 0, 1) := by decide +kernel
theorem d6_1 : decode prog_47_method_3_code 1 = .ok (.getfield 7, 3) := by decide +kernel
theorem d6_4 : decode prog_47_method_3_code 4 = .ok (.aload_n 0, 1) := by decide +kernel
theorem d6_5 : decode prog_47_method_3_code 5 = .ok (.getfield 21, 3) := by decide +kernel
theorem d6_8 : decode prog_47_method_3_code 8 = .ok (.iload_n 1, 1) := by decide +kernel
theorem d6_9 : decode prog_47_method_3_code 9 = .ok (.iadd, 1) := by decide +kernel
theorem d6_10 : decode prog_47_method_3_code 10 = .ok (.aload_n 0, 1) := by decide +kernel
theorem d6_11 : decode prog_47_method_3_code 11 = .ok (.getfield 7, 3) := by decide +kernel
theorem d6_14 : decode prog_47_method_3_code 14 = .ok (.arraylength, 1) := by decide +kernel
theorem d6_15 : decode prog_47_method_3_code 15 = .ok (.irem, 1) := by decide +kernel
theorem d6_16 : decode prog_47_method_3_code 16 = .ok (.iaload, 1) := by decide +kernel
theorem d6_17 : decode prog_47_method_3_code 17 = .ok (.ireturn, 1) := by decide +kernel
theorem pn_rmG : plainName "com/example/trips_into_trajectories/tripsintotrajectories/simulation/IntQueue" = true := by first | (simp [plainName, overriddenIn]; done) | decide +kernel
theorem ef_rmG (m : MethodId) (a1 : Addr) (p2 : Int32) : entryFrame m #[(.ref a1), (.int p2)] 2 = (mkF m 0 #[.val (.ref a1), .val (.int p2)] []) := by first | (simp [entryFrame, mkF, argsToLocals, Value.category]; done) | rfl
def Q_rmG (Z : State) (a1 : Addr) (p2 : Int32) (b : Addr) (N hd sz : Int32) (g : Nat → Int32) (h0 : Heap) (n0 : Nat) (v : Option Value) (h : Heap) (L : List Loc) : Prop := v = some (.int (g ((hd.toInt + p2.toInt) % N.toInt).toNat)) ∧ Fr n0 L ∧ h = h0
set_option maxRecDepth 65536 in
set_option maxHeartbeats 40000000 in
theorem rmG (l : Launch) (Z : State) (a0 : Array Value) (hw : ∀ d ∈ tables_1, d.before a0 Z = true) (ws : List Jvm.Cond) (a1 : Addr) (p2 : Int32) (b : Addr) (N hd sz : Int32) (g : Nat → Int32) (h0 : Heap) (n0 : Nat) (Z0 : n0 ≤ h0.size) (R : RQ Z h0 a1 b N hd sz g) (hN : N = 4 ∨ N = 8) (hd0 : 0 ≤ hd.toInt) (hd1 : hd.toInt < N.toInt) (hp : 0 ≤ p2.toInt ∧ p2.toInt < 8) :
    MetFree l (⟨"com/example/trips_into_trajectories/tripsintotrajectories/simulation/IntQueue", "get", "(I)I"⟩ : MethodName) (head1 (Jvm.Cond.code (⟨"com/example/trips_into_trajectories/tripsintotrajectories/simulation/IntQueue", "get", "(I)I"⟩ : MethodName) prog_47_method_3_code 2 (some .int) :: ws) ({ frames := 0, cells := 0, slots := 0, locals := 0 } : Room)) (fun a U => a = #[(.ref a1), (.int p2)] ∧ Z.Warmed39 U.vm ∧ U.heap = h0) (fun _ _ _ _ _ => True) (fun _ U o U' => ∃ v L, o = .returned v ∧ Q_rmG Z a1 p2 b N hd sz g h0 n0 v U'.heap L ∧ FrameEnd U o U' L ({ frames := 0, cells := 0, slots := 0, locals := 0 } : Room).cells ({ frames := 0, cells := 0, slots := 0, locals := 0 } : Room).slots) := by
  refine MetFree.of_bodySF (plainFor_of_name pn_rmG) hisR ?_
  intro p e s m args below meth c s₁ Bd hml0 hP hK
  obtain ⟨rfl, hZ, hh⟩ := hP
  have hx := Bd.exec
  have hby := Bd.bytes
  have hml : c.maxLocals = 2 := hml0
  have hown : s.vm.findClass "com/example/trips_into_trajectories/tripsintotrajectories/simulation/IntQueue" = some m.cls := findClass_of_methodNamed Bd.named
  have hnm := (name_of_methodNamed Bd.named Bd.method).1
  have X0 : Stand p l e ({ frames := 0, cells := 0, slots := 0, locals := 0 } : Room) s m #[(.ref a1), (.int p2)] below meth c s₁ [] 0 0 := Stand.of_body Bd
  have e0 : s₁.heap = h0 := by rw [← hh, Bd.state]; rfl
  have N0 := Fr.nil n0
  have pre0 : Steps p.tables e below (s₁.setTop (entryFrame m #[(.ref a1), (.int p2)] 2)) (s₁.setTop (mkF m 0 #[.val (.ref a1), .val (.int p2)] [])) := castTop (ef_rmG m a1 p2) (Steps.refl _)
  obtain ⟨r1, r2, r3, r4, r5, r6⟩ := id R
  obtain ⟨cl, Ar, S, M, H⟩ := id r5
  obtain ⟨nn1, nn2, nn3⟩ := own_N hN
  have pre1 : Steps p.tables e below _ (s₁.setTop (mkF m 1 #[.val (.ref a1), .val (.int p2)] [(.ref a1)])) := pre0.trans (by
    show Steps p.tables e below (s₁.setTop (mkF m 0 #[.val (.ref a1), .val (.int p2)] [])) _
    refine XS.aloadN X0.here hx rfl (hb hby d6_0) rfl rfl ?_
    exact Steps.refl _)
  obtain ⟨T2, X2, e2, st2⟩ := getF X0 hx hZ hown (host := "") (Or.inl (hw _ (List.mem_of_getElem? (i := 11) rfl))) Via.refl e0 r2 (g := (mkF m 1 #[.val (.ref a1), .val (.int p2)] [(.ref a1)])) rfl rfl (hb hby d6_1)
  have pre2 : Steps p.tables e below _ (T2.setTop (mkF m 4 #[.val (.ref a1), .val (.int p2)] [(.ref b)])) := pre1.trans (st2 _ (Steps.refl _))
  have pre3 : Steps p.tables e below _ (T2.setTop (mkF m 5 #[.val (.ref a1), .val (.int p2)] [(.ref a1), (.ref b)])) := pre2.trans (by
    show Steps p.tables e below (T2.setTop (mkF m 4 #[.val (.ref a1), .val (.int p2)] [(.ref b)])) _
    refine XS.aloadN X2.here hx rfl (hb hby d6_4) rfl rfl ?_
    exact Steps.refl _)
  obtain ⟨T4, X4, e4, st4⟩ := getF X2 hx hZ hown (host := "") (Or.inl (hw _ (List.mem_of_getElem? (i := 25) rfl))) Via.refl e2 r3 (g := (mkF m 5 #[.val (.ref a1), .val (.int p2)] [(.ref a1), (.ref b)])) rfl rfl (hb hby d6_5)
  have pre4 : Steps p.tables e below _ (T4.setTop (mkF m 8 #[.val (.ref a1), .val (.int p2)] [(.int hd), (.ref b)])) := pre3.trans (st4 _ (Steps.refl _))
  have pre5 : Steps p.tables e below _ (T4.setTop (mkF m 11 #[.val (.ref a1), .val (.int p2)] [(.ref a1), (.int (hd + p2)), (.ref b)])) := pre4.trans (by
    show Steps p.tables e below (T4.setTop (mkF m 8 #[.val (.ref a1), .val (.int p2)] [(.int hd), (.ref b)])) _
    refine XS.iloadN X4.here hx rfl (hb hby d6_8) rfl ?_
    show Steps p.tables e below (T4.setTop (mkF m 9 #[.val (.ref a1), .val (.int p2)] [(.int p2), (.int hd), (.ref b)])) _
    refine XS.iadd X4.here hx rfl (hb hby d6_9) rfl ?_
    show Steps p.tables e below (T4.setTop (mkF m 10 #[.val (.ref a1), .val (.int p2)] [(.int (hd + p2)), (.ref b)])) _
    refine XS.aloadN X4.here hx rfl (hb hby d6_10) rfl rfl ?_
    exact Steps.refl _)
  obtain ⟨T6, X6, e6, st6⟩ := getF X4 hx hZ hown (host := "") (Or.inl (hw _ (List.mem_of_getElem? (i := 11) rfl))) Via.refl e4 r2 (g := (mkF m 11 #[.val (.ref a1), .val (.int p2)] [(.ref a1), (.int (hd + p2)), (.ref b)])) rfl rfl (hb hby d6_11)
  have pre6 : Steps p.tables e below _ (T6.setTop (mkF m 14 #[.val (.ref a1), .val (.int p2)] [(.ref b), (.int (hd + p2)), (.ref b)])) := pre5.trans (st6 _ (Steps.refl _))
  have pre7 : Steps p.tables e below _ (T6.setTop (mkF m 16 #[.val (.ref a1), .val (.int p2)] [(.int ((hd + p2) % N)), (.ref b)])) := pre6.trans (by
    show Steps p.tables e below (T6.setTop (mkF m 14 #[.val (.ref a1), .val (.int p2)] [(.ref b), (.int (hd + p2)), (.ref b)])) _
    refine X6.arraylength hx (by rw [e6]; exact Ar.1) (State.isArrayOf_alike hZ.alike Ar.2.1) (g := (mkF m 14 #[.val (.ref a1), .val (.int p2)] [(.ref b), (.int (hd + p2)), (.ref b)])) rfl rfl (hb hby d6_14) _ ?_
    rw [len_of S M]
    show Steps p.tables e below (T6.setTop (mkF m 15 #[.val (.ref a1), .val (.int p2)] [(.int N), (.int (hd + p2)), (.ref b)])) _
    refine iremM X6 hx rfl (hb hby d6_15) rfl nn3 ?_
    exact Steps.refl _)
  obtain ⟨j, h_j⟩ : ∃ z, z = ((hd + p2) % N) := ⟨_, rfl⟩
  rw [← h_j] at pre7
  have hj : j.toInt = (hd.toInt + p2.toInt) % N.toInt := by rw [h_j, own_mod hN (by rw [own_add hd0 (by omega) (by omega) (by omega)]; omega), own_add hd0 (by omega) (by omega) (by omega)]
  have hj2 := own_mods hN (hd.toInt + p2.toInt)
  have hin : ¬ (j < 0 ∨ cl.slots.size ≤ j.toNatClampNeg) := inb_of S ⟨by rw [own_lt]; have e : (0 : Int32).toInt = 0 := rfl; omega, by rw [own_lt]; omega⟩
  have hat : cl.slots[j.toNatClampNeg]? = some (.int (g ((hd.toInt + p2.toInt) % N.toInt).toNat)) := by rw [← hj]; exact own_at H hin
  have pre8 : Steps p.tables e below _ (T6.setTop (mkF m 17 #[.val (.ref a1), .val (.int p2)] [(.int (g ((hd.toInt + p2.toInt) % N.toInt).toNat))])) := pre7.trans (by
    show Steps p.tables e below (T6.setTop (mkF m 16 #[.val (.ref a1), .val (.int p2)] [(.int j), (.ref b)])) _
    refine X6.iaload hx (j := j) (v := (.int (g ((hd.toInt + p2.toInt) % N.toInt).toNat))) (by rw [e6]; exact Ar.1) (State.isArrayOf_alike hZ.alike Ar.2.1) Ar.2.2 hin hat (g := (mkF m 16 #[.val (.ref a1), .val (.int p2)] [(.int j), (.ref b)])) rfl rfl (hb hby d6_16) _ ?_
    exact Steps.refl _)
  obtain ⟨fs, hr, hrun, hended, hW, hsame⟩ := X6.leave (v := some (.int (g ((hd.toInt + p2.toInt) % N.toInt).toNat))) (fun h => by rw [Bd.returns] at h; cases h)
  refine ⟨_, _, pre8.trans ?_, hrun, hended, _, _, rfl, ?_, ⟨_, rfl⟩, hW, hsame.mono (by decide) (by decide)⟩
  · exact retI X6 hx Bd.returns (hb hby d6_17) hr
  · exact ⟨rfl, N0, e6⟩
theorem d3_0 : decode prog_47_method_5_code 0 = .ok (.aload_n 0, 1) := by decide +kernel
theorem d3_1 : decode prog_47_method_5_code 1 = .ok (.getfield 13, 3) := by decide +kernel
theorem d3_4 : decode prog_47_method_5_code 4 = .ok (.ireturn, 1) := by decide +kernel
theorem pn_rmS : plainName "com/example/trips_into_trajectories/tripsintotrajectories/simulation/IntQueue" = true := by first | (simp [plainName, overriddenIn]; done) | decide +kernel
theorem ef_rmS (m : MethodId) (a1 : Addr) : entryFrame m #[(.ref a1)] 1 = (mkF m 0 #[.val (.ref a1)] []) := by first | (simp [entryFrame, mkF, argsToLocals, Value.category]; done) | rfl
def Q_rmS (Z : State) (a1 : Addr) (sz : Nat) (el : Nat → Int32) (h0 : Heap) (n0 : Nat) (v : Option Value) (h : Heap) (L : List Loc) : Prop := v = some (.int (Int32.ofNat sz)) ∧ Fr n0 L ∧ h = h0
set_option maxRecDepth 65536 in
set_option maxHeartbeats 40000000 in
theorem rmS (l : Launch) (Z : State) (a0 : Array Value) (hw : ∀ d ∈ tables_1, d.before a0 Z = true) (ws : List Jvm.Cond) (a1 : Addr) (sz : Nat) (el : Nat → Int32) (h0 : Heap) (n0 : Nat) (Z0 : n0 ≤ h0.size) (I : IQ Z n0 h0 a1 sz el) :
    MetFree l (⟨"com/example/trips_into_trajectories/tripsintotrajectories/simulation/IntQueue", "size", "()I"⟩ : MethodName) (head1 (Jvm.Cond.code (⟨"com/example/trips_into_trajectories/tripsintotrajectories/simulation/IntQueue", "size", "()I"⟩ : MethodName) prog_47_method_5_code 1 (some .int) :: ws) ({ frames := 0, cells := 0, slots := 0, locals := 0 } : Room)) (fun a U => a = #[(.ref a1)] ∧ Z.Warmed39 U.vm ∧ U.heap = h0) (fun _ _ _ _ _ => True) (fun _ U o U' => ∃ v L, o = .returned v ∧ Q_rmS Z a1 sz el h0 n0 v U'.heap L ∧ FrameEnd U o U' L ({ frames := 0, cells := 0, slots := 0, locals := 0 } : Room).cells ({ frames := 0, cells := 0, slots := 0, locals := 0 } : Room).slots) := by
  refine MetFree.of_bodySF (plainFor_of_name pn_rmS) hisR ?_
  intro p e s m args below meth c s₁ Bd hml0 hP hK
  obtain ⟨rfl, hZ, hh⟩ := hP
  have hx := Bd.exec
  have hby := Bd.bytes
  have hml : c.maxLocals = 1 := hml0
  have hown : s.vm.findClass "com/example/trips_into_trajectories/tripsintotrajectories/simulation/IntQueue" = some m.cls := findClass_of_methodNamed Bd.named
  have hnm := (name_of_methodNamed Bd.named Bd.method).1
  have X0 : Stand p l e ({ frames := 0, cells := 0, slots := 0, locals := 0 } : Room) s m #[(.ref a1)] below meth c s₁ [] 0 0 := Stand.of_body Bd
  have e0 : s₁.heap = h0 := by rw [← hh, Bd.state]; rfl
  have N0 := Fr.nil n0
  have pre0 : Steps p.tables e below (s₁.setTop (entryFrame m #[(.ref a1)] 1)) (s₁.setTop (mkF m 0 #[.val (.ref a1)] [])) := castTop (ef_rmS m a1) (Steps.refl _)
  obtain ⟨b, N, hd, szI, g, R, h1, h2, h3, h4, h5, h6, h7, h8⟩ := I
  have es : szI = Int32.ofNat sz := by apply Int32.toInt_inj.mp; have := (own_N h3).1; rw [h6, Int32.toInt_ofNat_of_lt (by omega)]
  have pre1 : Steps p.tables e below _ (s₁.setTop (mkF m 1 #[.val (.ref a1)] [(.ref a1)])) := pre0.trans (by
    show Steps p.tables e below (s₁.setTop (mkF m 0 #[.val (.ref a1)] [])) _
    refine XS.aloadN X0.here hx rfl (hb hby d3_0) rfl rfl ?_
    exact Steps.refl _)
  obtain ⟨T2, X2, e2, st2⟩ := getF X0 hx hZ hown (host := "") (Or.inl (hw _ (List.mem_of_getElem? (i := 18) rfl))) Via.refl e0 R.2.2.2.1 (g := (mkF m 1 #[.val (.ref a1)] [(.ref a1)])) rfl rfl (hb hby d3_1)
  have pre2 : Steps p.tables e below _ (T2.setTop (mkF m 4 #[.val (.ref a1)] [(.int szI)])) := pre1.trans (st2 _ (Steps.refl _))
  obtain ⟨fs, hr, hrun, hended, hW, hsame⟩ := X2.leave (v := some (.int szI)) (fun h => by rw [Bd.returns] at h; cases h)
  refine ⟨_, _, pre2.trans ?_, hrun, hended, _, _, rfl, ?_, ⟨_, rfl⟩, hW, hsame.mono (by decide) (by decide)⟩
  · exact retI X2 hx Bd.returns (hb hby d3_4) hr
  · exact ⟨by rw [es], N0, e2⟩
theorem d5_0 : decode prog_47_method_4_code 0 = .ok (.aload_n 0, 1) := by decide +kernel
theorem d5_1 : decode prog_47_method_4_code 1 = .ok (.getfield 7, 3) := by decide +kernel
theorem d5_4 : decode prog_47_method_4_code 4 = .ok (.aload_n 0, 1) := by decide +kernel
theorem d5_5 : decode prog_47_method_4_code 5 = .ok (.getfield 21, 3) := by decide +kernel
theorem d5_8 : decode prog_47_method_4_code 8 = .ok (.iaload, 1) := by decide +kernel
theorem d5_9 : decode prog_47_method_4_code 9 = .ok (.istore_n 1, 1) := by decide +kernel
theorem d5_10 : decode prog_47_method_4_code 10 = .ok (.aload_n 0, 1) := by decide +kernel
theorem d5_11 : decode prog_47_method_4_code 11 = .ok (.aload_n 0, 1) := by decide +kernel
theorem d5_12 : decode prog_47_method_4_code 12 = .ok (.getfield 21, 3) := by decide +kernel
theorem d5_15 : decode prog_47_method_4_code 15 = .ok (.iconst 1, 1) := by decide +kernel
theorem d5_16 : decode prog_47_method_4_code 16 = .ok (.iadd, 1) := by decide +kernel
theorem d5_17 : decode prog_47_method_4_code 17 = .ok (.aload_n 0, 1) := by decide +kernel
theorem d5_18 : decode prog_47_method_4_code 18 = .ok (.getfield 7, 3) := by decide +kernel
theorem d5_21 : decode prog_47_method_4_code 21 = .ok (.arraylength, 1) := by decide +kernel
theorem d5_22 : decode prog_47_method_4_code 22 = .ok (.irem, 1) := by decide +kernel
theorem d5_23 : decode prog_47_method_4_code 23 = .ok (.putfield 21, 3) := by decide +kernel
theorem d5_26 : decode prog_47_method_4_code 26 = .ok (.aload_n 0, 1) := by decide +kernel
theorem d5_27 : decode prog_47_method_4_code 27 = .ok (.dup, 1) := by decide +kernel
theorem d5_28 : decode prog_47_method_4_code 28 = .ok (.getfield 13, 3) := by decide +kernel
theorem d5_31 : decode prog_47_method_4_code 31 = .ok (.iconst 1, 1) := by decide +kernel
theorem d5_32 : decode prog_47_method_4_code 32 = .ok (.isub, 1) := by decide +kernel
theorem d5_33 : decode prog_47_method_4_code 33 = .ok (.putfield 13, 3) := by decide +kernel
theorem d5_36 : decode prog_47_method_4_code 36 = .ok (.iload_n 1, 1) := by decide +kernel
theorem d5_37 : decode prog_47_method_4_code 37 = .ok (.ireturn, 1) := by decide +kernel
theorem pn_rmP : plainName "com/example/trips_into_trajectories/tripsintotrajectories/simulation/IntQueue" = true := by first | (simp [plainName, overriddenIn]; done) | decide +kernel
theorem ef_rmP (m : MethodId) (a1 : Addr) : entryFrame m #[(.ref a1)] 2 = (mkF m 0 #[.val (.ref a1), .unset] []) := by first | (simp [entryFrame, mkF, argsToLocals, Value.category]; done) | rfl
def Q_rmP (Z : State) (a1 : Addr) (sz : Nat) (el : Nat → Int32) (h0 : Heap) (n0 : Nat) (v : Option Value) (h : Heap) (L : List Loc) : Prop := v = some (.int (el 0)) ∧ Fr n0 L ∧ IQ Z n0 h a1 sz (fun i => el (i + 1))
set_option maxRecDepth 65536 in
set_option maxHeartbeats 40000000 in
theorem rmP (l : Launch) (Z : State) (a0 : Array Value) (hw : ∀ d ∈ tables_1, d.before a0 Z = true) (ws : List Jvm.Cond) (a1 : Addr) (sz : Nat) (el : Nat → Int32) (h0 : Heap) (n0 : Nat) (Z0 : n0 ≤ h0.size) (I : IQ Z n0 h0 a1 (sz + 1) el) :
    MetFree l (⟨"com/example/trips_into_trajectories/tripsintotrajectories/simulation/IntQueue", "poll", "()I"⟩ : MethodName) (head1 (Jvm.Cond.code (⟨"com/example/trips_into_trajectories/tripsintotrajectories/simulation/IntQueue", "poll", "()I"⟩ : MethodName) prog_47_method_4_code 2 (some .int) :: ws) ({ frames := 0, cells := 0, slots := 0, locals := 0 } : Room)) (fun a U => a = #[(.ref a1)] ∧ Z.Warmed39 U.vm ∧ U.heap = h0) (fun _ _ _ _ _ => True) (fun _ U o U' => ∃ v L, o = .returned v ∧ Q_rmP Z a1 sz el h0 n0 v U'.heap L ∧ FrameEnd U o U' L ({ frames := 0, cells := 0, slots := 0, locals := 0 } : Room).cells ({ frames := 0, cells := 0, slots := 0, locals := 0 } : Room).slots) := by
  refine MetFree.of_bodySF (plainFor_of_name pn_rmP) hisR ?_
  intro p e s m args below meth c s₁ Bd hml0 hP hK
  obtain ⟨rfl, hZ, hh⟩ := hP
  have hx := Bd.exec
  have hby := Bd.bytes
  have hml : c.maxLocals = 2 := hml0
  have hown : s.vm.findClass "com/example/trips_into_trajectories/tripsintotrajectories/simulation/IntQueue" = some m.cls := findClass_of_methodNamed Bd.named
  have hnm := (name_of_methodNamed Bd.named Bd.method).1
  have X0 : Stand p l e ({ frames := 0, cells := 0, slots := 0, locals := 0 } : Room) s m #[(.ref a1)] below meth c s₁ [] 0 0 := Stand.of_body Bd
  have e0 : s₁.heap = h0 := by rw [← hh, Bd.state]; rfl
  have N0 := Fr.nil n0
  have pre0 : Steps p.tables e below (s₁.setTop (entryFrame m #[(.ref a1)] 2)) (s₁.setTop (mkF m 0 #[.val (.ref a1), .unset] [])) := castTop (ef_rmP m a1) (Steps.refl _)
  obtain ⟨b, N, hd, szI, g, R, g_a1, h2, hN, hd0, hd1, h6, h7, h8⟩ := I
  obtain ⟨r1, r2, r3, r4, r5, r6⟩ := id R
  obtain ⟨cl, Ar, S, M, H⟩ := id r5
  obtain ⟨nn1, nn2, nn3⟩ := own_N hN
  have pre1 : Steps p.tables e below _ (s₁.setTop (mkF m 1 #[.val (.ref a1), .unset] [(.ref a1)])) := pre0.trans (by
    show Steps p.tables e below (s₁.setTop (mkF m 0 #[.val (.ref a1), .unset] [])) _
    refine XS.aloadN X0.here hx rfl (hb hby d5_0) rfl rfl ?_
    exact Steps.refl _)
  obtain ⟨T2, X2, e2, st2⟩ := getF X0 hx hZ hown (host := "") (Or.inl (hw _ (List.mem_of_getElem? (i := 11) rfl))) Via.refl e0 r2 (g := (mkF m 1 #[.val (.ref a1), .unset] [(.ref a1)])) rfl rfl (hb hby d5_1)
  have pre2 : Steps p.tables e below _ (T2.setTop (mkF m 4 #[.val (.ref a1), .unset] [(.ref b)])) := pre1.trans (st2 _ (Steps.refl _))
  have pre3 : Steps p.tables e below _ (T2.setTop (mkF m 5 #[.val (.ref a1), .unset] [(.ref a1), (.ref b)])) := pre2.trans (by
    show Steps p.tables e below (T2.setTop (mkF m 4 #[.val (.ref a1), .unset] [(.ref b)])) _
    refine XS.aloadN X2.here hx rfl (hb hby d5_4) rfl rfl ?_
    exact Steps.refl _)
  obtain ⟨T4, X4, e4, st4⟩ := getF X2 hx hZ hown (host := "") (Or.inl (hw _ (List.mem_of_getElem? (i := 25) rfl))) Via.refl e2 r3 (g := (mkF m 5 #[.val (.ref a1), .unset] [(.ref a1), (.ref b)])) rfl rfl (hb hby d5_5)
  have pre4 : Steps p.tables e below _ (T4.setTop (mkF m 8 #[.val (.ref a1), .unset] [(.int hd), (.ref b)])) := pre3.trans (st4 _ (Steps.refl _))
  have hin : ¬ (hd < 0 ∨ cl.slots.size ≤ hd.toNatClampNeg) := inb_of S ⟨by rw [own_lt]; have e : (0 : Int32).toInt = 0 := rfl; omega, by rw [own_lt]; omega⟩
  have hat : cl.slots[hd.toNatClampNeg]? = some (.int (el 0)) := by
    have q1 : (hd.toInt + ((0 : Nat) : Int)) % N.toInt = hd.toInt := by rw [show hd.toInt + ((0 : Nat) : Int) = hd.toInt by omega]; exact Int.emod_eq_of_lt hd0 hd1
    have q2 := h8 0 (Nat.succ_pos sz)
    rw [q1] at q2; rw [← q2]; exact own_at H hin
  have pre5 : Steps p.tables e below _ (T4.setTop (mkF m 12 #[.val (.ref a1), .val (.int (el 0))] [(.ref a1), (.ref a1)])) := pre4.trans (by
    show Steps p.tables e below (T4.setTop (mkF m 8 #[.val (.ref a1), .unset] [(.int hd), (.ref b)])) _
    refine X4.iaload hx (j := hd) (v := (.int (el 0))) (by rw [e4]; exact Ar.1) (State.isArrayOf_alike hZ.alike Ar.2.1) Ar.2.2 hin hat (g := (mkF m 8 #[.val (.ref a1), .unset] [(.int hd), (.ref b)])) rfl rfl (hb hby d5_8) _ ?_
    show Steps p.tables e below (T4.setTop (mkF m 9 #[.val (.ref a1), .unset] [(.int (el 0))])) _
    refine XS.istoreN X4.here hx rfl (hb hby d5_9) rfl (l' := #[.val (.ref a1), .val (.int (el 0))]) rfl ?_
    show Steps p.tables e below (T4.setTop (mkF m 10 #[.val (.ref a1), .val (.int (el 0))] [])) _
    refine XS.aloadN X4.here hx rfl (hb hby d5_10) rfl rfl ?_
    show Steps p.tables e below (T4.setTop (mkF m 11 #[.val (.ref a1), .val (.int (el 0))] [(.ref a1)])) _
    refine XS.aloadN X4.here hx rfl (hb hby d5_11) rfl rfl ?_
    exact Steps.refl _)
  obtain ⟨T6, X6, e6, st6⟩ := getF X4 hx hZ hown (host := "") (Or.inl (hw _ (List.mem_of_getElem? (i := 25) rfl))) Via.refl e4 r3 (g := (mkF m 12 #[.val (.ref a1), .val (.int (el 0))] [(.ref a1), (.ref a1)])) rfl rfl (hb hby d5_12)
  have pre6 : Steps p.tables e below _ (T6.setTop (mkF m 15 #[.val (.ref a1), .val (.int (el 0))] [(.int hd), (.ref a1)])) := pre5.trans (st6 _ (Steps.refl _))
  have pre7 : Steps p.tables e below _ (T6.setTop (mkF m 18 #[.val (.ref a1), .val (.int (el 0))] [(.ref a1), (.int (hd + (1 : Int32))), (.ref a1)])) := pre6.trans (by
    show Steps p.tables e below (T6.setTop (mkF m 15 #[.val (.ref a1), .val (.int (el 0))] [(.int hd), (.ref a1)])) _
    refine XS.iconst X6.here hx rfl (hb hby d5_15) ?_
    show Steps p.tables e below (T6.setTop (mkF m 16 #[.val (.ref a1), .val (.int (el 0))] [(.int (1 : Int32)), (.int hd), (.ref a1)])) _
    refine XS.iadd X6.here hx rfl (hb hby d5_16) rfl ?_
    show Steps p.tables e below (T6.setTop (mkF m 17 #[.val (.ref a1), .val (.int (el 0))] [(.int (hd + (1 : Int32))), (.ref a1)])) _
    refine XS.aloadN X6.here hx rfl (hb hby d5_17) rfl rfl ?_
    exact Steps.refl _)
  obtain ⟨T8, X8, e8, st8⟩ := getF X6 hx hZ hown (host := "") (Or.inl (hw _ (List.mem_of_getElem? (i := 11) rfl))) Via.refl e6 r2 (g := (mkF m 18 #[.val (.ref a1), .val (.int (el 0))] [(.ref a1), (.int (hd + (1 : Int32))), (.ref a1)])) rfl rfl (hb hby d5_18)
  have pre8 : Steps p.tables e below _ (T8.setTop (mkF m 21 #[.val (.ref a1), .val (.int (el 0))] [(.ref b), (.int (hd + (1 : Int32))), (.ref a1)])) := pre7.trans (st8 _ (Steps.refl _))
  have pre9 : Steps p.tables e below _ (T8.setTop (mkF m 23 #[.val (.ref a1), .val (.int (el 0))] [(.int ((hd + (1 : Int32)) % N)), (.ref a1)])) := pre8.trans (by
    show Steps p.tables e below (T8.setTop (mkF m 21 #[.val (.ref a1), .val (.int (el 0))] [(.ref b), (.int (hd + (1 : Int32))), (.ref a1)])) _
    refine X8.arraylength hx (by rw [e8]; exact Ar.1) (State.isArrayOf_alike hZ.alike Ar.2.1) (g := (mkF m 21 #[.val (.ref a1), .val (.int (el 0))] [(.ref b), (.int (hd + (1 : Int32))), (.ref a1)])) rfl rfl (hb hby d5_21) _ ?_
    rw [len_of S M]
    show Steps p.tables e below (T8.setTop (mkF m 22 #[.val (.ref a1), .val (.int (el 0))] [(.int N), (.int (hd + (1 : Int32))), (.ref a1)])) _
    refine iremM X8 hx rfl (hb hby d5_22) rfl nn3 ?_
    exact Steps.refl _)
  obtain ⟨j, h_j⟩ : ∃ z, z = ((hd + (1 : Int32)) % N) := ⟨_, rfl⟩
  rw [← h_j] at pre9
  have e1 : (1 : Int32).toInt = 1 := rfl
  have hj : j.toInt = (hd.toInt + 1) % N.toInt := by rw [h_j, own_mod hN (by rw [own_add hd0 (by omega) (by omega) (by omega), e1]; omega), own_add hd0 (by omega) (by omega) (by omega), e1]
  have hj2 := own_mods hN (hd.toInt + 1)
  obtain ⟨T10, h10, X10, e10, W10, st10⟩ := putF X8 hx hZ hown (host := "") (Or.inl (hw _ (List.mem_of_getElem? (i := 25) rfl))) Via.refl e8 r3 r1 (Or.inl (hw _ (List.mem_of_getElem? (i := 26) rfl))) (hw _ (List.mem_of_getElem? (i := 2) rfl)) (ty := .int) (by decide) rfl rfl (g := (mkF m 23 #[.val (.ref a1), .val (.int (el 0))] [(.int j), (.ref a1)])) rfl rfl (hb hby d5_23)
  have N10 := Fr.snoc X10 N0 g_a1
  have Z10 : n0 ≤ h10.size := Nat.le_trans Z0 (Keep.of_wr W10).1
  have pre10 : Steps p.tables e below _ (T10.setTop (mkF m 26 #[.val (.ref a1), .val (.int (el 0))] [])) := pre9.trans (st10 _ (Steps.refl _))
  have R1 : RQ Z h10 a1 b N j szI g := RQ.head R W10 (ne_items_head hw) (ne_size_head hw)
  have pre11 : Steps p.tables e below _ (T10.setTop (mkF m 28 #[.val (.ref a1), .val (.int (el 0))] [(.ref a1), (.ref a1)])) := pre10.trans (by
    show Steps p.tables e below (T10.setTop (mkF m 26 #[.val (.ref a1), .val (.int (el 0))] [])) _
    refine XS.aloadN X10.here hx rfl (hb hby d5_26) rfl rfl ?_
    show Steps p.tables e below (T10.setTop (mkF m 27 #[.val (.ref a1), .val (.int (el 0))] [(.ref a1)])) _
    refine XS.dup X10.here hx rfl (hb hby d5_27) rfl rfl ?_
    exact Steps.refl _)
  obtain ⟨T12, X12, e12, st12⟩ := getF X10 hx hZ hown (host := "") (Or.inl (hw _ (List.mem_of_getElem? (i := 18) rfl))) Via.refl e10 R1.2.2.2.1 (g := (mkF m 28 #[.val (.ref a1), .val (.int (el 0))] [(.ref a1), (.ref a1)])) rfl rfl (hb hby d5_28)
  have pre12 : Steps p.tables e below _ (T12.setTop (mkF m 31 #[.val (.ref a1), .val (.int (el 0))] [(.int szI), (.ref a1)])) := pre11.trans (st12 _ (Steps.refl _))
  have pre13 : Steps p.tables e below _ (T12.setTop (mkF m 33 #[.val (.ref a1), .val (.int (el 0))] [(.int (szI - (1 : Int32))), (.ref a1)])) := pre12.trans (by
    show Steps p.tables e below (T12.setTop (mkF m 31 #[.val (.ref a1), .val (.int (el 0))] [(.int szI), (.ref a1)])) _
    refine XS.iconst X12.here hx rfl (hb hby d5_31) ?_
    show Steps p.tables e below (T12.setTop (mkF m 32 #[.val (.ref a1), .val (.int (el 0))] [(.int (1 : Int32)), (.int szI), (.ref a1)])) _
    refine XS.isub X12.here hx rfl (hb hby d5_32) rfl ?_
    exact Steps.refl _)
  obtain ⟨z, h_z⟩ : ∃ z, z = (szI - (1 : Int32)) := ⟨_, rfl⟩
  rw [← h_z] at pre13
  have hz : z.toInt = sz := by have q := c_isub szI 1; rw [← h_z, e1] at q; have := rng32 z; omega
  obtain ⟨T14, h14, X14, e14, W14, st14⟩ := putF X12 hx hZ hown (host := "") (Or.inl (hw _ (List.mem_of_getElem? (i := 18) rfl))) Via.refl e12 R1.2.2.2.1 R1.1 (Or.inl (hw _ (List.mem_of_getElem? (i := 19) rfl))) (hw _ (List.mem_of_getElem? (i := 2) rfl)) (ty := .int) (by decide) rfl rfl (g := (mkF m 33 #[.val (.ref a1), .val (.int (el 0))] [(.int z), (.ref a1)])) rfl rfl (hb hby d5_33)
  have N14 := Fr.snoc X14 N10 g_a1
  have Z14 : n0 ≤ h14.size := Nat.le_trans Z10 (Keep.of_wr W14).1
  have pre14 : Steps p.tables e below _ (T14.setTop (mkF m 36 #[.val (.ref a1), .val (.int (el 0))] [])) := pre13.trans (st14 _ (Steps.refl _))
  have R2 : RQ Z h14 a1 b N j z g := RQ.size R1 W14 (ne_items_size hw) (ne_head_size hw)
  have I2 : IQ Z n0 h14 a1 sz (fun i => el (i + 1)) := ⟨b, N, j, z, g, R2, g_a1, h2, hN, by omega, by omega, hz, by omega, fun i hi => by
    have q := h8 (i + 1) (by omega)
    show g ((j.toInt + (i : Int)) % N.toInt).toNat = el (i + 1)
    rw [← q]
    have e : (j.toInt + (i : Int)) % N.toInt = (hd.toInt + ((i + 1 : Nat) : Int)) % N.toInt := by
      rw [hj, Int.emod_add_emod]; congr 1; omega
    rw [e]⟩
  have pre15 : Steps p.tables e below _ (T14.setTop (mkF m 37 #[.val (.ref a1), .val (.int (el 0))] [(.int (el 0))])) := pre14.trans (by
    show Steps p.tables e below (T14.setTop (mkF m 36 #[.val (.ref a1), .val (.int (el 0))] [])) _
    refine XS.iloadN X14.here hx rfl (hb hby d5_36) rfl ?_
    exact Steps.refl _)
  obtain ⟨fs, hr, hrun, hended, hW, hsame⟩ := X14.leave (v := some (.int (el 0))) (fun h => by rw [Bd.returns] at h; cases h)
  refine ⟨_, _, pre15.trans ?_, hrun, hended, _, _, rfl, ?_, ⟨_, rfl⟩, hW, hsame.mono (by decide) (by decide)⟩
  · exact retI X14 hx Bd.returns (hb hby d5_37) hr
  · exact ⟨rfl, N14, by show IQ Z n0 T14.heap a1 sz _; rw [e14]; exact I2⟩
theorem d4_0 : decode prog_47_method_2_code 0 = .ok (.aload_n 0, 1) := by decide +kernel
theorem d4_1 : decode prog_47_method_2_code 1 = .ok (.getfield 13, 3) := by decide +kernel
theorem d4_4 : decode prog_47_method_2_code 4 = .ok (.aload_n 0, 1) := by decide +kernel
theorem d4_5 : decode prog_47_method_2_code 5 = .ok (.getfield 7, 3) := by decide +kernel
theorem d4_8 : decode prog_47_method_2_code 8 = .ok (.arraylength, 1) := by decide +kernel
theorem d4_9 : decode prog_47_method_2_code 9 = .ok (.if_icmp .ne 47, 3) := by decide +kernel
theorem d4_12 : decode prog_47_method_2_code 12 = .ok (.aload_n 0, 1) := by decide +kernel
theorem d4_13 : decode prog_47_method_2_code 13 = .ok (.getfield 7, 3) := by decide +kernel
theorem d4_16 : decode prog_47_method_2_code 16 = .ok (.arraylength, 1) := by decide +kernel
theorem d4_17 : decode prog_47_method_2_code 17 = .ok (.iconst 2, 1) := by decide +kernel
theorem d4_18 : decode prog_47_method_2_code 18 = .ok (.imul, 1) := by decide +kernel
theorem d4_19 : decode prog_47_method_2_code 19 = .ok (.newarray .int, 2) := by decide +kernel
theorem d4_21 : decode prog_47_method_2_code 21 = .ok (.astore_n 2, 1) := by decide +kernel
theorem d4_22 : decode prog_47_method_2_code 22 = .ok (.iconst 0, 1) := by decide +kernel
theorem d4_23 : decode prog_47_method_2_code 23 = .ok (.istore_n 3, 1) := by decide +kernel
theorem d4_24 : decode prog_47_method_2_code 24 = .ok (.iload_n 3, 1) := by decide +kernel
theorem d4_25 : decode prog_47_method_2_code 25 = .ok (.aload_n 0, 1) := by decide +kernel
theorem d4_26 : decode prog_47_method_2_code 26 = .ok (.getfield 13, 3) := by decide +kernel
theorem d4_29 : decode prog_47_method_2_code 29 = .ok (.if_icmp .ge 17, 3) := by decide +kernel
theorem d4_32 : decode prog_47_method_2_code 32 = .ok (.aload_n 2, 1) := by decide +kernel
theorem d4_33 : decode prog_47_method_2_code 33 = .ok (.iload_n 3, 1) := by decide +kernel
theorem d4_34 : decode prog_47_method_2_code 34 = .ok (.aload_n 0, 1) := by decide +kernel
theorem d4_35 : decode prog_47_method_2_code 35 = .ok (.iload_n 3, 1) := by decide +kernel
theorem d4_36 : decode prog_47_method_2_code 36 = .ok (.invokevirtual 17, 3) := by decide +kernel
theorem d4_39 : decode prog_47_method_2_code 39 = .ok (.iastore, 1) := by decide +kernel
theorem d4_40 : decode prog_47_method_2_code 40 = .ok (.iinc 3 1, 3) := by decide +kernel
theorem d4_43 : decode prog_47_method_2_code 43 = .ok (.goto (-19), 3) := by decide +kernel
theorem d4_46 : decode prog_47_method_2_code 46 = .ok (.aload_n 0, 1) := by decide +kernel
theorem d4_47 : decode prog_47_method_2_code 47 = .ok (.aload_n 2, 1) := by decide +kernel
theorem d4_48 : decode prog_47_method_2_code 48 = .ok (.putfield 7, 3) := by decide +kernel
theorem d4_51 : decode prog_47_method_2_code 51 = .ok (.aload_n 0, 1) := by decide +kernel
theorem d4_52 : decode prog_47_method_2_code 52 = .ok (.iconst 0, 1) := by decide +kernel
theorem d4_53 : decode prog_47_method_2_code 53 = .ok (.putfield 21, 3) := by decide +kernel
theorem d4_56 : decode prog_47_method_2_code 56 = .ok (.aload_n 0, 1) := by decide +kernel
theorem d4_57 : decode prog_47_method_2_code 57 = .ok (.getfield 7, 3) := by decide +kernel
theorem d4_60 : decode prog_47_method_2_code 60 = .ok (.aload_n 0, 1) := by decide +kernel
theorem d4_61 : decode prog_47_method_2_code 61 = .ok (.getfield 21, 3) := by decide +kernel
theorem d4_64 : decode prog_47_method_2_code 64 = .ok (.aload_n 0, 1) := by decide +kernel
theorem d4_65 : decode prog_47_method_2_code 65 = .ok (.getfield 13, 3) := by decide +kernel
theorem d4_68 : decode prog_47_method_2_code 68 = .ok (.iadd, 1) := by decide +kernel
theorem d4_69 : decode prog_47_method_2_code 69 = .ok (.aload_n 0, 1) := by decide +kernel
theorem d4_70 : decode prog_47_method_2_code 70 = .ok (.getfield 7, 3) := by decide +kernel
theorem d4_73 : decode prog_47_method_2_code 73 = .ok (.arraylength, 1) := by decide +kernel
theorem d4_74 : decode prog_47_method_2_code 74 = .ok (.irem, 1) := by decide +kernel
theorem d4_75 : decode prog_47_method_2_code 75 = .ok (.iload_n 1, 1) := by decide +kernel
theorem d4_76 : decode prog_47_method_2_code 76 = .ok (.iastore, 1) := by decide +kernel
theorem d4_77 : decode prog_47_method_2_code 77 = .ok (.aload_n 0, 1) := by decide +kernel
theorem d4_78 : decode prog_47_method_2_code 78 = .ok (.dup, 1) := by decide +kernel
theorem d4_79 : decode prog_47_method_2_code 79 = .ok (.getfield 13, 3) := by decide +kernel
theorem d4_82 : decode prog_47_method_2_code 82 = .ok (.iconst 1, 1) := by decide +kernel
theorem d4_83 : decode prog_47_method_2_code 83 = .ok (.iadd, 1) := by decide +kernel
theorem d4_84 : decode prog_47_method_2_code 84 = .ok (.putfield 13, 3) := by decide +kernel
theorem d4_87 : decode prog_47_method_2_code 87 = .ok (.return_, 1) := by decide +kernel
theorem pn_rmD : plainName "com/example/trips_into_trajectories/tripsintotrajectories/simulation/IntQueue" = true := by first | (simp [plainName, overriddenIn]; done) | decide +kernel
theorem pd_rmD_0 : parseMethodDescriptor "(I)I" = some ⟨[.int], some .int⟩ := by decide +kernel
theorem ef_rmD (m : MethodId) (a1 : Addr) (p2 : Int32) : entryFrame m #[(.ref a1), (.int p2)] 4 = (mkF m 0 #[.val (.ref a1), .val (.int p2), .unset, .unset] []) := by first | (simp [entryFrame, mkF, argsToLocals, Value.category]; done) | rfl
def Q_rmD (Z : State) (a1 : Addr) (p2 : Int32) (sz : Nat) (el : Nat → Int32) (h0 : Heap) (n0 : Nat) (v : Option Value) (h : Heap) (L : List Loc) : Prop := v = none ∧ Fr n0 L ∧ IQ Z n0 h a1 (sz + 1) (fun i => if i = sz then p2 else el i)
set_option maxRecDepth 65536 in
set_option maxHeartbeats 40000000 in
theorem rmD (l : Launch) (Z : State) (a0 : Array Value) (hw : ∀ d ∈ tables_1, d.before a0 Z = true) (ws : List Jvm.Cond) (a1 : Addr) (p2 : Int32) (sz : Nat) (el : Nat → Int32) (h0 : Heap) (n0 : Nat) (Z0 : n0 ≤ h0.size) (I : IQ Z n0 h0 a1 sz el) (hs : sz < 8) :
    MetFree l (⟨"com/example/trips_into_trajectories/tripsintotrajectories/simulation/IntQueue", "add", "(I)V"⟩ : MethodName) (head1 (Jvm.Cond.code (⟨"com/example/trips_into_trajectories/tripsintotrajectories/simulation/IntQueue", "add", "(I)V"⟩ : MethodName) prog_47_method_2_code 4 none :: ws) ({ frames := 1, cells := 1, slots := 8, locals := 15 } : Room)) (fun a U => a = #[(.ref a1), (.int p2)] ∧ Z.Warmed39 U.vm ∧ U.heap = h0) (fun _ _ _ _ _ => True) (fun _ U o U' => ∃ v L, o = .returned v ∧ Q_rmD Z a1 p2 sz el h0 n0 v U'.heap L ∧ FrameEnd U o U' L ({ frames := 1, cells := 1, slots := 8, locals := 15 } : Room).cells ({ frames := 1, cells := 1, slots := 8, locals := 15 } : Room).slots) := by
  refine MetFree.of_bodySF (plainFor_of_name pn_rmD) hisR ?_
  intro p e s m args below meth c s₁ Bd hml0 hP hK
  obtain ⟨rfl, hZ, hh⟩ := hP
  have hx := Bd.exec
  have hby := Bd.bytes
  have hml : c.maxLocals = 4 := hml0
  have hown : s.vm.findClass "com/example/trips_into_trajectories/tripsintotrajectories/simulation/IntQueue" = some m.cls := findClass_of_methodNamed Bd.named
  have hnm := (name_of_methodNamed Bd.named Bd.method).1
  have X0 : Stand p l e ({ frames := 1, cells := 1, slots := 8, locals := 15 } : Room) s m #[(.ref a1), (.int p2)] below meth c s₁ [] 0 0 := Stand.of_body Bd
  have e0 : s₁.heap = h0 := by rw [← hh, Bd.state]; rfl
  have N0 := Fr.nil n0
  have pre0 : Steps p.tables e below (s₁.setTop (entryFrame m #[(.ref a1), (.int p2)] 4)) (s₁.setTop (mkF m 0 #[.val (.ref a1), .val (.int p2), .unset, .unset] [])) := castTop (ef_rmD m a1 p2) (Steps.refl _)
  obtain ⟨b, N, hd, szI, g, R, g_a1, g_b, hN, hd0, hd1, h6, h7, h8⟩ := I
  obtain ⟨r1, r2, r3, r4, r5, r6⟩ := id R
  obtain ⟨cl, Ar, S, M, H⟩ := id r5
  obtain ⟨nn1, nn2, nn3⟩ := own_N hN
  have e00 : (0 : Int32).toInt = 0 := rfl
  have e1 : (1 : Int32).toInt = 1 := rfl
  have pre1 : Steps p.tables e below _ (s₁.setTop (mkF m 1 #[.val (.ref a1), .val (.int p2), .unset, .unset] [(.ref a1)])) := pre0.trans (by
    show Steps p.tables e below (s₁.setTop (mkF m 0 #[.val (.ref a1), .val (.int p2), .unset, .unset] [])) _
    refine XS.aloadN X0.here hx rfl (hb hby d4_0) rfl rfl ?_
    exact Steps.refl _)
  obtain ⟨T2, X2, e2, st2⟩ := getF X0 hx hZ hown (host := "") (Or.inl (hw _ (List.mem_of_getElem? (i := 18) rfl))) Via.refl e0 r4 (g := (mkF m 1 #[.val (.ref a1), .val (.int p2), .unset, .unset] [(.ref a1)])) rfl rfl (hb hby d4_1)
  have pre2 : Steps p.tables e below _ (T2.setTop (mkF m 4 #[.val (.ref a1), .val (.int p2), .unset, .unset] [(.int szI)])) := pre1.trans (st2 _ (Steps.refl _))
  have pre3 : Steps p.tables e below _ (T2.setTop (mkF m 5 #[.val (.ref a1), .val (.int p2), .unset, .unset] [(.ref a1), (.int szI)])) := pre2.trans (by
    show Steps p.tables e below (T2.setTop (mkF m 4 #[.val (.ref a1), .val (.int p2), .unset, .unset] [(.int szI)])) _
    refine XS.aloadN X2.here hx rfl (hb hby d4_4) rfl rfl ?_
    exact Steps.refl _)
  obtain ⟨T4, X4, e4, st4⟩ := getF X2 hx hZ hown (host := "") (Or.inl (hw _ (List.mem_of_getElem? (i := 11) rfl))) Via.refl e2 r2 (g := (mkF m 5 #[.val (.ref a1), .val (.int p2), .unset, .unset] [(.ref a1), (.int szI)])) rfl rfl (hb hby d4_5)
  have pre4 : Steps p.tables e below _ (T4.setTop (mkF m 8 #[.val (.ref a1), .val (.int p2), .unset, .unset] [(.ref b), (.int szI)])) := pre3.trans (st4 _ (Steps.refl _))
  have pre5 : Steps p.tables e below _ (T4.setTop (mkF m 9 #[.val (.ref a1), .val (.int p2), .unset, .unset] [(.int N), (.int szI)])) := pre4.trans (by
    show Steps p.tables e below (T4.setTop (mkF m 8 #[.val (.ref a1), .val (.int p2), .unset, .unset] [(.ref b), (.int szI)])) _
    refine X4.arraylength hx (by rw [e4]; exact Ar.1) (State.isArrayOf_alike hZ.alike Ar.2.1) (g := (mkF m 8 #[.val (.ref a1), .val (.int p2), .unset, .unset] [(.ref b), (.int szI)])) rfl rfl (hb hby d4_8) _ ?_
    rw [len_of S M]
    exact Steps.refl _)
  obtain ⟨T5, l5, sa, sb, b', N', hd', g', X5, N5, R5, gb5, hN5, hd50, hd51, hsz5, hel5, pre5⟩ : ∃ (T5 : State) (l5 : List Loc) (sa sb : Slot) (b' : Addr) (N' hd' : Int32) (g' : Nat → Int32), Stand p l e ({ frames := 1, cells := 1, slots := 8, locals := 15 } : Room) s m #[(.ref a1), (.int p2)] below meth c T5 l5 1 8 ∧ Fr n0 l5 ∧ RQ Z T5.heap a1 b' N' hd' szI g' ∧ n0 ≤ b' ∧ (N' = 4 ∨ N' = 8) ∧ 0 ≤ hd'.toInt ∧ hd'.toInt < N'.toInt ∧ szI.toInt < N'.toInt ∧ (∀ i : Nat, i < sz → g' ((hd'.toInt + i) % N'.toInt).toNat = el i) ∧ Steps p.tables e below (s₁.setTop (entryFrame m #[(.ref a1), (.int p2)] 4)) (T5.setTop (mkF m 56 #[.val (.ref a1), .val (.int p2), sa, sb] [])) := by
    rcases (Decidable.em (szI = N)).symm with h | h
    · have h9 := h
      have hne : szI.toInt ≠ N.toInt := fun q => h9 (Int32.toInt_inj.mp q)
      have pre6 : Steps p.tables e below _ (T4.setTop (mkF m 56 #[.val (.ref a1), .val (.int p2), .unset, .unset] [])) := pre5.trans (by
        show Steps p.tables e below (T4.setTop (mkF m 9 #[.val (.ref a1), .val (.int p2), .unset, .unset] [(.int N), (.int szI)])) _
        refine XS.icmpYes X4.here hx rfl (pc0 := 9) (pc' := 56) rfl (hb hby d4_9) rfl (feq h9).2 (by decide) (by decide) ?_
        exact Steps.refl _)
      exact ⟨T4, [], _, _, b, N, hd, g, X4.more (by decide) (by decide), N0, by rw [e4]; exact R, g_b, hN, hd0, hd1, by omega, h8, pre6⟩
    · have h9 := h
      have h4 : N = 4 := by rcases hN with q | q; exact q; exact absurd (show szI.toInt = 8 by rw [h9, q]; rfl) (by omega)
      have pre7 : Steps p.tables e below _ (T4.setTop (mkF m 13 #[.val (.ref a1), .val (.int p2), .unset, .unset] [(.ref a1)])) := pre5.trans (by
        show Steps p.tables e below (T4.setTop (mkF m 9 #[.val (.ref a1), .val (.int p2), .unset, .unset] [(.int N), (.int szI)])) _
        refine XS.icmpNo X4.here hx rfl (hb hby d4_9) rfl (teq h9).2 ?_
        show Steps p.tables e below (T4.setTop (mkF m 12 #[.val (.ref a1), .val (.int p2), .unset, .unset] [])) _
        refine XS.aloadN X4.here hx rfl (hb hby d4_12) rfl rfl ?_
        exact Steps.refl _)
      obtain ⟨T8, X8, e8, st8⟩ := getF X4 hx hZ hown (host := "") (Or.inl (hw _ (List.mem_of_getElem? (i := 11) rfl))) Via.refl e4 r2 (g := (mkF m 13 #[.val (.ref a1), .val (.int p2), .unset, .unset] [(.ref a1)])) rfl rfl (hb hby d4_13)
      have pre8 : Steps p.tables e below _ (T8.setTop (mkF m 16 #[.val (.ref a1), .val (.int p2), .unset, .unset] [(.ref b)])) := pre7.trans (st8 _ (Steps.refl _))
      have pre9 : Steps p.tables e below _ (T8.setTop (mkF m 19 #[.val (.ref a1), .val (.int p2), .unset, .unset] [(.int (N * (2 : Int32)))])) := pre8.trans (by
        show Steps p.tables e below (T8.setTop (mkF m 16 #[.val (.ref a1), .val (.int p2), .unset, .unset] [(.ref b)])) _
        refine X8.arraylength hx (by rw [e8]; exact Ar.1) (State.isArrayOf_alike hZ.alike Ar.2.1) (g := (mkF m 16 #[.val (.ref a1), .val (.int p2), .unset, .unset] [(.ref b)])) rfl rfl (hb hby d4_16) _ ?_
        rw [len_of S M]
        show Steps p.tables e below (T8.setTop (mkF m 17 #[.val (.ref a1), .val (.int p2), .unset, .unset] [(.int N)])) _
        refine XS.iconst X8.here hx rfl (hb hby d4_17) ?_
        show Steps p.tables e below (T8.setTop (mkF m 18 #[.val (.ref a1), .val (.int p2), .unset, .unset] [(.int (2 : Int32)), (.int N)])) _
        refine XS.imul X8.here hx rfl (hb hby d4_18) rfl ?_
        exact Steps.refl _)
      have h82 : N * (2 : Int32) = 8 := by rw [h4]; decide
      rw [h82] at pre9
      obtain ⟨T10, h10, k10, X10, e10, E10, A10, st10⟩ := newP X8 hx hZ (hw _ (List.mem_of_getElem? (i := 10) rfl)) e8 (g := (mkF m 19 #[.val (.ref a1), .val (.int p2), .unset, .unset] [(.int (8 : Int32))])) rfl (hb hby d4_19) rfl (by decide) (cap := 8) (by decide) (by decide) (by decide) (by decide)
      obtain ⟨nb, g10⟩ : ∃ z, z = h0.size := ⟨_, rfl⟩
      rw [← g10] at A10 st10
      have g_nb : n0 ≤ nb := Nat.le_trans Z0 (Nat.le_of_eq g10.symm)
      have lt_nb : nb < h10.size := A10.lt
      have V10 : Arv Z h10 nb k10 .int (8 : Int32) [] (.int (0 : Int32)) := Arv.new A10 (by decide)
      have Z10 : n0 ≤ h10.size := Nat.le_trans Z0 E10.1
      have pre10 : Steps p.tables e below _ (T10.setTop (mkF m 21 #[.val (.ref a1), .val (.int p2), .unset, .unset] [(.ref nb)])) := pre9.trans (st10 _ (Steps.refl _))
      have FA : Far Z h10 nb .int (8 : Int32) (fun _ => 0) := Far.new A10 (by decide) rfl
      have RE : RQ Z h10 a1 b N hd szI g := RQ.ext R E10
      have nq : a1 ≠ nb := Nat.ne_of_lt (Nat.lt_of_lt_of_le r1.lt (Nat.le_of_eq g10.symm))
      have nb_ : b ≠ nb := Nat.ne_of_lt (Nat.lt_of_lt_of_le r5.lt (Nat.le_of_eq g10.symm))
      have pre11 : Steps p.tables e below _ (T10.setTop (mkF m 24 #[.val (.ref a1), .val (.int p2), .val (.ref nb), .val (.int (0 : Int32))] [])) := pre10.trans (by
        show Steps p.tables e below (T10.setTop (mkF m 21 #[.val (.ref a1), .val (.int p2), .unset, .unset] [(.ref nb)])) _
        refine XS.astoreN X10.here hx rfl (hb hby d4_21) rfl rfl (l' := #[.val (.ref a1), .val (.int p2), .val (.ref nb), .unset]) rfl ?_
        show Steps p.tables e below (T10.setTop (mkF m 22 #[.val (.ref a1), .val (.int p2), .val (.ref nb), .unset] [])) _
        refine XS.iconst X10.here hx rfl (hb hby d4_22) ?_
        show Steps p.tables e below (T10.setTop (mkF m 23 #[.val (.ref a1), .val (.int p2), .val (.ref nb), .unset] [(.int (0 : Int32))])) _
        refine XS.istoreN X10.here hx rfl (hb hby d4_23) rfl (l' := #[.val (.ref a1), .val (.int p2), .val (.ref nb), .val (.int (0 : Int32))]) rfl ?_
        exact Steps.refl _)
      have hs0 : szI.toInt = 4 := by rw [h9, h4]; rfl
      have loop : ∀ (k : Nat) (i : Int32) (T : State) (locs : List Loc) (gn : Nat → Int32), Stand p l e ({ frames := 1, cells := 1, slots := 8, locals := 15 } : Room) s m #[(.ref a1), (.int p2)] below meth c T locs 1 8 → Fr n0 locs → RQ Z T.heap a1 b N hd szI g → Far Z T.heap nb .int (8 : Int32) gn → 0 ≤ i.toInt → i.toInt + k = 4 → (∀ j : Nat, (j : Int) < i.toInt → gn j = el j) →
          ∃ (T' : State) (locs' : List Loc) (gn' : Nat → Int32), Stand p l e ({ frames := 1, cells := 1, slots := 8, locals := 15 } : Room) s m #[(.ref a1), (.int p2)] below meth c T' locs' 1 8 ∧ Fr n0 locs' ∧ RQ Z T'.heap a1 b N hd szI g ∧ Far Z T'.heap nb .int (8 : Int32) gn' ∧ (∀ j : Nat, (j : Int) < 4 → gn' j = el j) ∧ Steps p.tables e below (T.setTop (mkF m 24 #[.val (.ref a1), .val (.int p2), .val (.ref nb), .val (.int i)] [])) (T'.setTop (mkF m 46 #[.val (.ref a1), .val (.int p2), .val (.ref nb), .val (.int szI)] [])) := by
        intro k
        induction k with
        | zero =>
          intro i T locs gn X Nf R F i0 ik hg
          have hi : szI = i := Int32.toInt_inj.mp (by omega)
          subst hi
          have preL : Steps p.tables e below (T.setTop (mkF m 24 #[.val (.ref a1), .val (.int p2), .val (.ref nb), .val (.int szI)] [])) (T.setTop (mkF m 24 #[.val (.ref a1), .val (.int p2), .val (.ref nb), .val (.int szI)] [])) := Steps.refl _
          have pre12 : Steps p.tables e below _ (T.setTop (mkF m 26 #[.val (.ref a1), .val (.int p2), .val (.ref nb), .val (.int szI)] [(.ref a1), (.int szI)])) := preL.trans (by
            show Steps p.tables e below (T.setTop (mkF m 24 #[.val (.ref a1), .val (.int p2), .val (.ref nb), .val (.int szI)] [])) _
            refine XS.iloadN X.here hx rfl (hb hby d4_24) rfl ?_
            show Steps p.tables e below (T.setTop (mkF m 25 #[.val (.ref a1), .val (.int p2), .val (.ref nb), .val (.int szI)] [(.int szI)])) _
            refine XS.aloadN X.here hx rfl (hb hby d4_25) rfl rfl ?_
            exact Steps.refl _)
          obtain ⟨T13, X13, e13, st13⟩ := getF X hx hZ hown (host := "") (Or.inl (hw _ (List.mem_of_getElem? (i := 18) rfl))) Via.refl (rfl : T.heap = T.heap) R.2.2.2.1 (g := (mkF m 26 #[.val (.ref a1), .val (.int p2), .val (.ref nb), .val (.int szI)] [(.ref a1), (.int szI)])) rfl rfl (hb hby d4_26)
          have pre13 : Steps p.tables e below _ (T13.setTop (mkF m 29 #[.val (.ref a1), .val (.int p2), .val (.ref nb), .val (.int szI)] [(.int szI), (.int szI)])) := pre12.trans (st13 _ (Steps.refl _))
          have pre14 : Steps p.tables e below _ (T13.setTop (mkF m 46 #[.val (.ref a1), .val (.int p2), .val (.ref nb), .val (.int szI)] [])) := pre13.trans (by
            show Steps p.tables e below (T13.setTop (mkF m 29 #[.val (.ref a1), .val (.int p2), .val (.ref nb), .val (.int szI)] [(.int szI), (.int szI)])) _
            refine XS.icmpYes X13.here hx rfl (pc0 := 29) (pc' := 46) rfl (hb hby d4_29) rfl (flt (own_irr szI)).2.1 (by decide) (by decide) ?_
            exact Steps.refl _)
          exact ⟨T13, locs, gn, X13, Nf, by rw [e13]; exact R, by rw [e13]; exact F, fun j hj => hg j (by omega), pre14⟩
        | succ k ih =>
          intro i T locs gn X Nf R F i0 ik hg
          have preL : Steps p.tables e below (T.setTop (mkF m 24 #[.val (.ref a1), .val (.int p2), .val (.ref nb), .val (.int i)] [])) (T.setTop (mkF m 24 #[.val (.ref a1), .val (.int p2), .val (.ref nb), .val (.int i)] [])) := Steps.refl _
          have hlt : i < szI := by rw [own_lt]; omega
          have ZT : n0 ≤ T.heap.size := Nat.le_trans g_a1 (Nat.le_of_lt R.1.lt)
          have pre15 : Steps p.tables e below _ (T.setTop (mkF m 26 #[.val (.ref a1), .val (.int p2), .val (.ref nb), .val (.int i)] [(.ref a1), (.int i)])) := preL.trans (by
            show Steps p.tables e below (T.setTop (mkF m 24 #[.val (.ref a1), .val (.int p2), .val (.ref nb), .val (.int i)] [])) _
            refine XS.iloadN X.here hx rfl (hb hby d4_24) rfl ?_
            show Steps p.tables e below (T.setTop (mkF m 25 #[.val (.ref a1), .val (.int p2), .val (.ref nb), .val (.int i)] [(.int i)])) _
            refine XS.aloadN X.here hx rfl (hb hby d4_25) rfl rfl ?_
            exact Steps.refl _)
          obtain ⟨T16, X16, e16, st16⟩ := getF X hx hZ hown (host := "") (Or.inl (hw _ (List.mem_of_getElem? (i := 18) rfl))) Via.refl (rfl : T.heap = T.heap) R.2.2.2.1 (g := (mkF m 26 #[.val (.ref a1), .val (.int p2), .val (.ref nb), .val (.int i)] [(.ref a1), (.int i)])) rfl rfl (hb hby d4_26)
          have pre16 : Steps p.tables e below _ (T16.setTop (mkF m 29 #[.val (.ref a1), .val (.int p2), .val (.ref nb), .val (.int i)] [(.int szI), (.int i)])) := pre15.trans (st16 _ (Steps.refl _))
          have pre17 : Steps p.tables e below _ (T16.setTop (mkF m 36 #[.val (.ref a1), .val (.int p2), .val (.ref nb), .val (.int i)] [(.int i), (.ref a1), (.int i), (.ref nb)])) := pre16.trans (by
            show Steps p.tables e below (T16.setTop (mkF m 29 #[.val (.ref a1), .val (.int p2), .val (.ref nb), .val (.int i)] [(.int szI), (.int i)])) _
            refine XS.icmpNo X16.here hx rfl (hb hby d4_29) rfl (tlt hlt).2.1 ?_
            show Steps p.tables e below (T16.setTop (mkF m 32 #[.val (.ref a1), .val (.int p2), .val (.ref nb), .val (.int i)] [])) _
            refine XS.aloadN X16.here hx rfl (hb hby d4_32) rfl rfl ?_
            show Steps p.tables e below (T16.setTop (mkF m 33 #[.val (.ref a1), .val (.int p2), .val (.ref nb), .val (.int i)] [(.ref nb)])) _
            refine XS.iloadN X16.here hx rfl (hb hby d4_33) rfl ?_
            show Steps p.tables e below (T16.setTop (mkF m 34 #[.val (.ref a1), .val (.int p2), .val (.ref nb), .val (.int i)] [(.int i), (.ref nb)])) _
            refine XS.aloadN X16.here hx rfl (hb hby d4_34) rfl rfl ?_
            show Steps p.tables e below (T16.setTop (mkF m 35 #[.val (.ref a1), .val (.int p2), .val (.ref nb), .val (.int i)] [(.ref a1), (.int i), (.ref nb)])) _
            refine XS.iloadN X16.here hx rfl (hb hby d4_35) rfl ?_
            exact Steps.refl _)
          obtain ⟨cq18, kq18, q18a, q18b, q18c⟩ := isOf hZ e16 R.1
          obtain ⟨_, _, ⟨T18, L18, k18, n18⟩, -, X18, ⟨Lc18, hQ18, l18, y18, z18⟩, st18⟩ := X16.virtualBack hx (y := (⟨"com/example/trips_into_trajectories/tripsintotrajectories/simulation/IntQueue", "get", "(I)I"⟩ : MethodName)) (z := (⟨"com/example/trips_into_trajectories/tripsintotrajectories/simulation/IntQueue", "get", "(I)I"⟩ : MethodName)) hown (mvT hZ (hw _ (List.mem_of_getElem? (i := 32) rfl))) (mvT hZ (hw _ (List.mem_of_getElem? (i := 33) rfl))) (notFace_of_selects (args := #[]) (mvT hZ (hw _ (List.mem_of_getElem? (i := 35) rfl)))) (mvT hZ (hw _ (List.mem_of_getElem? (i := 35) rfl))) (mvT hZ (hw _ (List.mem_of_getElem? (i := 34) rfl))) (by decide) (backOf (W := 2) (rmG l Z a0 hw [] a1 i b N hd szI g T.heap n0 ZT R hN hd0 hd1 ⟨i0, by omega⟩) hZ (hw _ (List.mem_of_getElem? (i := 36) rfl)) (hw _ (List.mem_of_getElem? (i := 3) rfl)) (by decide) (by decide)) q18a q18c (g := (mkF m 36 #[.val (.ref a1), .val (.int p2), .val (.ref nb), .val (.int i)] [(.int i), (.ref a1), (.int i), (.ref nb)])) rfl (by rw [hml]; rfl) (Steps.refl _) (argsL := [(.int i)]) (rest := [(.int i), (.ref nb)]) (lenOf pd_rmD_0 rfl) rfl (by show 2 * 0 + _ ≤ _; exact Nat.le_of_eq rfl) (hb hby d4_36) (fun _ _ => ⟨rfl, e16, (by decide : 1 + 0 ≤ _), (by decide : 8 + 0 ≤ _)⟩)
          dsimp only [Pt.U, Pt.locs, Pt.cells, Pt.slots] at X18 l18 y18 z18 st18 hQ18
          subst l18 y18 z18
          obtain ⟨rfl, N18q, hh18⟩ := hQ18
          have N18 := Fr.app Nf N18q
          have pre18 : Steps p.tables e below _ (T18.setTop (mkF m 39 #[.val (.ref a1), .val (.int p2), .val (.ref nb), .val (.int i)] [(.int (g ((hd.toInt + i.toInt) % N.toInt).toNat)), (.int i), (.ref nb)])) := pre17.trans (st18)
          have hgi : g ((hd.toInt + i.toInt) % N.toInt).toNat = el i.toNatClampNeg := by
            have q := h8 i.toNatClampNeg (by have w := own_nat i i0; omega)
            rw [own_nat i i0] at q; exact q
          rw [hgi] at pre18
          obtain ⟨cn, An, Sn, Mn, Hn⟩ := id F
          have hin : ¬ (i < 0 ∨ cn.slots.size ≤ i.toNatClampNeg) := inb_of Sn ⟨by rw [own_lt]; omega, by rw [own_lt]; have e8 : (8 : Int32).toInt = 8 := rfl; omega⟩
          obtain ⟨T19, h19, X19, e19, W19, st19⟩ := stI X18 hx hZ hh18 An (j := i) hin (g := (mkF m 39 #[.val (.ref a1), .val (.int p2), .val (.ref nb), .val (.int i)] [(.int (el i.toNatClampNeg)), (.int i), (.ref nb)])) rfl rfl (hb hby d4_39)
          have N19 := Fr.snoc X19 N18 g_nb
          have F19n := F.put W19
          have R19n := R.other W19 nq nb_
          have pre19 : Steps p.tables e below _ (T19.setTop (mkF m 40 #[.val (.ref a1), .val (.int p2), .val (.ref nb), .val (.int i)] [])) := pre18.trans (st19 _ (Steps.refl _))
          have pre20 : Steps p.tables e below _ (T19.setTop (mkF m 24 #[.val (.ref a1), .val (.int p2), .val (.ref nb), .val (.int (i + (1 : Int32)))] [])) := pre19.trans (by
            show Steps p.tables e below (T19.setTop (mkF m 40 #[.val (.ref a1), .val (.int p2), .val (.ref nb), .val (.int i)] [])) _
            refine XS.iinc X19.here hx rfl (hb hby d4_40) rfl (l' := #[.val (.ref a1), .val (.int p2), .val (.ref nb), .val (.int (i + (1 : Int32)))]) rfl ?_
            show Steps p.tables e below (T19.setTop (mkF m 43 #[.val (.ref a1), .val (.int p2), .val (.ref nb), .val (.int (i + (1 : Int32)))] [])) _
            refine XS.goto X19.here hx rfl (pc0 := 43) (pc' := 24) rfl (hb hby d4_43) (by decide) (by decide) ?_
            exact Steps.refl _)
          have ei : (i + (1 : Int32)).toInt = i.toInt + 1 := by rw [own_add i0 (by omega) (by omega) (by omega), e1]
          obtain ⟨T', locs', gn', X', N', R', F', hg', st'⟩ := ih (i + (1 : Int32)) T19 _ _ X19 N19 (by rw [e19]; exact R19n) (by rw [e19]; exact F19n) (by omega) (by omega) (fun j hj => by
              have w1 := own_nat i i0
              show (if j = i.toNatClampNeg then el i.toNatClampNeg else gn j) = el j
              by_cases q1 : j = i.toNatClampNeg
              · rw [if_pos q1, q1]
              · rw [if_neg q1]; exact hg j (by omega))
          exact ⟨T', locs', gn', X', N', R', F', hg', pre20.trans st'⟩
      obtain ⟨T8, l8, g8, X8, N8, R8, F8, hg8, st8⟩ := loop 4 (0 : Int32) T10 [] (fun _ => 0) X10 N0 (by rw [e10]; exact RE) (by rw [e10]; exact FA) (by decide) (by decide) (fun j hj => by rw [e00] at hj; omega)
      have pre8 : Steps p.tables e below _ (T8.setTop (mkF m 46 #[.val (.ref a1), .val (.int p2), .val (.ref nb), .val (.int szI)] [])) := pre11.trans st8
      have Z8 : n0 ≤ T8.heap.size := Nat.le_trans g_a1 (Nat.le_of_lt R8.1.lt)
      have pre101 : Steps p.tables e below _ (T8.setTop (mkF m 48 #[.val (.ref a1), .val (.int p2), .val (.ref nb), .val (.int szI)] [(.ref nb), (.ref a1)])) := pre8.trans (by
        show Steps p.tables e below (T8.setTop (mkF m 46 #[.val (.ref a1), .val (.int p2), .val (.ref nb), .val (.int szI)] [])) _
        refine XS.aloadN X8.here hx rfl (hb hby d4_46) rfl rfl ?_
        show Steps p.tables e below (T8.setTop (mkF m 47 #[.val (.ref a1), .val (.int p2), .val (.ref nb), .val (.int szI)] [(.ref a1)])) _
        refine XS.aloadN X8.here hx rfl (hb hby d4_47) rfl rfl ?_
        exact Steps.refl _)
      obtain ⟨T102, h102, X102, e102, W102, st102⟩ := putF X8 hx hZ hown (host := "") (Or.inl (hw _ (List.mem_of_getElem? (i := 11) rfl))) Via.refl (rfl : T8.heap = T8.heap) R8.2.1 R8.1 (Or.inl (hw _ (List.mem_of_getElem? (i := 12) rfl))) (hw _ (List.mem_of_getElem? (i := 2) rfl)) (ty := (.array .int)) (by decide) rfl rfl (g := (mkF m 48 #[.val (.ref a1), .val (.int p2), .val (.ref nb), .val (.int szI)] [(.ref nb), (.ref a1)])) rfl rfl (hb hby d4_48)
      have N102 := Fr.snoc X102 N8 g_a1
      have Z102 : n0 ≤ h102.size := Nat.le_trans Z8 (Keep.of_wr W102).1
      have pre102 : Steps p.tables e below _ (T102.setTop (mkF m 51 #[.val (.ref a1), .val (.int p2), .val (.ref nb), .val (.int szI)] [])) := pre101.trans (st102 _ (Steps.refl _))
      have R9 : RQ Z h102 a1 nb (8 : Int32) hd szI g8 := RQ.items R8 W102 F8 nq (ne_head_items hw) (ne_size_items hw)
      have pre103 : Steps p.tables e below _ (T102.setTop (mkF m 53 #[.val (.ref a1), .val (.int p2), .val (.ref nb), .val (.int szI)] [(.int (0 : Int32)), (.ref a1)])) := pre102.trans (by
        show Steps p.tables e below (T102.setTop (mkF m 51 #[.val (.ref a1), .val (.int p2), .val (.ref nb), .val (.int szI)] [])) _
        refine XS.aloadN X102.here hx rfl (hb hby d4_51) rfl rfl ?_
        show Steps p.tables e below (T102.setTop (mkF m 52 #[.val (.ref a1), .val (.int p2), .val (.ref nb), .val (.int szI)] [(.ref a1)])) _
        refine XS.iconst X102.here hx rfl (hb hby d4_52) ?_
        exact Steps.refl _)
      obtain ⟨T104, h104, X104, e104, W104, st104⟩ := putF X102 hx hZ hown (host := "") (Or.inl (hw _ (List.mem_of_getElem? (i := 25) rfl))) Via.refl e102 R9.2.2.1 R9.1 (Or.inl (hw _ (List.mem_of_getElem? (i := 26) rfl))) (hw _ (List.mem_of_getElem? (i := 2) rfl)) (ty := .int) (by decide) rfl rfl (g := (mkF m 53 #[.val (.ref a1), .val (.int p2), .val (.ref nb), .val (.int szI)] [(.int (0 : Int32)), (.ref a1)])) rfl rfl (hb hby d4_53)
      have N104 := Fr.snoc X104 N102 g_a1
      have Z104 : n0 ≤ h104.size := Nat.le_trans Z102 (Keep.of_wr W104).1
      have pre104 : Steps p.tables e below _ (T104.setTop (mkF m 56 #[.val (.ref a1), .val (.int p2), .val (.ref nb), .val (.int szI)] [])) := pre103.trans (st104 _ (Steps.refl _))
      have R10 : RQ Z h104 a1 nb (8 : Int32) (0 : Int32) szI g8 := RQ.head R9 W104 (ne_items_head hw) (ne_size_head hw)
      exact ⟨T104, _, _, _, nb, 8, 0, g8, X104, N104, by rw [e104]; exact R10, g_nb, Or.inr rfl, by decide, by decide, by rw [hs0]; decide, fun i hi => by
          have hi4 : (i : Int) < 4 := by omega
          have e8 : (8 : Int32).toInt = 8 := rfl
          have q1 : ((0 : Int32).toInt + (i : Int)) % (8 : Int32).toInt = i := by rw [e00, e8]; omega
          rw [q1, Int.toNat_natCast]; exact hg8 i hi4, pre104⟩
  obtain ⟨q1, q2, q3, q4, q5, q6⟩ := id R5
  obtain ⟨cl5, Ar5, S5, M5, H5⟩ := id q5
  obtain ⟨mm1, mm2, mm3⟩ := own_N hN5
  have Z5 : n0 ≤ T5.heap.size := Nat.le_trans g_a1 (Nat.le_of_lt q1.lt)
  have pre201 : Steps p.tables e below _ (T5.setTop (mkF m 57 #[.val (.ref a1), .val (.int p2), sa, sb] [(.ref a1)])) := pre5.trans (by
    show Steps p.tables e below (T5.setTop (mkF m 56 #[.val (.ref a1), .val (.int p2), sa, sb] [])) _
    refine XS.aloadN X5.here hx rfl (hb hby d4_56) rfl rfl ?_
    exact Steps.refl _)
  obtain ⟨T202, X202, e202, st202⟩ := getF X5 hx hZ hown (host := "") (Or.inl (hw _ (List.mem_of_getElem? (i := 11) rfl))) Via.refl (rfl : T5.heap = T5.heap) q2 (g := (mkF m 57 #[.val (.ref a1), .val (.int p2), sa, sb] [(.ref a1)])) rfl rfl (hb hby d4_57)
  have pre202 : Steps p.tables e below _ (T202.setTop (mkF m 60 #[.val (.ref a1), .val (.int p2), sa, sb] [(.ref b')])) := pre201.trans (st202 _ (Steps.refl _))
  have pre203 : Steps p.tables e below _ (T202.setTop (mkF m 61 #[.val (.ref a1), .val (.int p2), sa, sb] [(.ref a1), (.ref b')])) := pre202.trans (by
    show Steps p.tables e below (T202.setTop (mkF m 60 #[.val (.ref a1), .val (.int p2), sa, sb] [(.ref b')])) _
    refine XS.aloadN X202.here hx rfl (hb hby d4_60) rfl rfl ?_
    exact Steps.refl _)
  obtain ⟨T204, X204, e204, st204⟩ := getF X202 hx hZ hown (host := "") (Or.inl (hw _ (List.mem_of_getElem? (i := 25) rfl))) Via.refl e202 q3 (g := (mkF m 61 #[.val (.ref a1), .val (.int p2), sa, sb] [(.ref a1), (.ref b')])) rfl rfl (hb hby d4_61)
  have pre204 : Steps p.tables e below _ (T204.setTop (mkF m 64 #[.val (.ref a1), .val (.int p2), sa, sb] [(.int hd'), (.ref b')])) := pre203.trans (st204 _ (Steps.refl _))
  have pre205 : Steps p.tables e below _ (T204.setTop (mkF m 65 #[.val (.ref a1), .val (.int p2), sa, sb] [(.ref a1), (.int hd'), (.ref b')])) := pre204.trans (by
    show Steps p.tables e below (T204.setTop (mkF m 64 #[.val (.ref a1), .val (.int p2), sa, sb] [(.int hd'), (.ref b')])) _
    refine XS.aloadN X204.here hx rfl (hb hby d4_64) rfl rfl ?_
    exact Steps.refl _)
  obtain ⟨T206, X206, e206, st206⟩ := getF X204 hx hZ hown (host := "") (Or.inl (hw _ (List.mem_of_getElem? (i := 18) rfl))) Via.refl e204 q4 (g := (mkF m 65 #[.val (.ref a1), .val (.int p2), sa, sb] [(.ref a1), (.int hd'), (.ref b')])) rfl rfl (hb hby d4_65)
  have pre206 : Steps p.tables e below _ (T206.setTop (mkF m 68 #[.val (.ref a1), .val (.int p2), sa, sb] [(.int szI), (.int hd'), (.ref b')])) := pre205.trans (st206 _ (Steps.refl _))
  have pre207 : Steps p.tables e below _ (T206.setTop (mkF m 70 #[.val (.ref a1), .val (.int p2), sa, sb] [(.ref a1), (.int (hd' + szI)), (.ref b')])) := pre206.trans (by
    show Steps p.tables e below (T206.setTop (mkF m 68 #[.val (.ref a1), .val (.int p2), sa, sb] [(.int szI), (.int hd'), (.ref b')])) _
    refine XS.iadd X206.here hx rfl (hb hby d4_68) rfl ?_
    show Steps p.tables e below (T206.setTop (mkF m 69 #[.val (.ref a1), .val (.int p2), sa, sb] [(.int (hd' + szI)), (.ref b')])) _
    refine XS.aloadN X206.here hx rfl (hb hby d4_69) rfl rfl ?_
    exact Steps.refl _)
  obtain ⟨T208, X208, e208, st208⟩ := getF X206 hx hZ hown (host := "") (Or.inl (hw _ (List.mem_of_getElem? (i := 11) rfl))) Via.refl e206 q2 (g := (mkF m 70 #[.val (.ref a1), .val (.int p2), sa, sb] [(.ref a1), (.int (hd' + szI)), (.ref b')])) rfl rfl (hb hby d4_70)
  have pre208 : Steps p.tables e below _ (T208.setTop (mkF m 73 #[.val (.ref a1), .val (.int p2), sa, sb] [(.ref b'), (.int (hd' + szI)), (.ref b')])) := pre207.trans (st208 _ (Steps.refl _))
  have pre209 : Steps p.tables e below _ (T208.setTop (mkF m 75 #[.val (.ref a1), .val (.int p2), sa, sb] [(.int ((hd' + szI) % N')), (.ref b')])) := pre208.trans (by
    show Steps p.tables e below (T208.setTop (mkF m 73 #[.val (.ref a1), .val (.int p2), sa, sb] [(.ref b'), (.int (hd' + szI)), (.ref b')])) _
    refine X208.arraylength hx (by rw [e208]; exact Ar5.1) (State.isArrayOf_alike hZ.alike Ar5.2.1) (g := (mkF m 73 #[.val (.ref a1), .val (.int p2), sa, sb] [(.ref b'), (.int (hd' + szI)), (.ref b')])) rfl rfl (hb hby d4_73) _ ?_
    rw [len_of S5 M5]
    show Steps p.tables e below (T208.setTop (mkF m 74 #[.val (.ref a1), .val (.int p2), sa, sb] [(.int N'), (.int (hd' + szI)), (.ref b')])) _
    refine iremM X208 hx rfl (hb hby d4_74) rfl mm3 ?_
    exact Steps.refl _)
  obtain ⟨j, h_j⟩ : ∃ z, z = ((hd' + szI) % N') := ⟨_, rfl⟩
  rw [← h_j] at pre209
  have hj : j.toInt = (hd'.toInt + sz) % N'.toInt := by rw [h_j, own_mod hN5 (by rw [own_add hd50 (by omega) (by omega) (by omega)]; omega), own_add hd50 (by omega) (by omega) (by omega), h6]
  have hj2 := own_mods hN5 (hd'.toInt + sz)
  have pre210 : Steps p.tables e below _ (T208.setTop (mkF m 76 #[.val (.ref a1), .val (.int p2), sa, sb] [(.int p2), (.int j), (.ref b')])) := pre209.trans (by
    show Steps p.tables e below (T208.setTop (mkF m 75 #[.val (.ref a1), .val (.int p2), sa, sb] [(.int j), (.ref b')])) _
    refine XS.iloadN X208.here hx rfl (hb hby d4_75) rfl ?_
    exact Steps.refl _)
  have hin : ¬ (j < 0 ∨ cl5.slots.size ≤ j.toNatClampNeg) := inb_of S5 ⟨by rw [own_lt]; omega, by rw [own_lt]; omega⟩
  obtain ⟨T211, h211, X211, e211, W211, st211⟩ := stI X208 hx hZ e208 Ar5 (j := j) hin (g := (mkF m 76 #[.val (.ref a1), .val (.int p2), sa, sb] [(.int p2), (.int j), (.ref b')])) rfl rfl (hb hby d4_76)
  have N211 := Fr.snoc X211 N5 gb5
  have Z211 : n0 ≤ h211.size := Nat.le_trans Z5 (Keep.of_wr W211).1
  have R211n : RQ Z h211 a1 b' N' hd' szI (fun k => if k = j.toNatClampNeg then p2 else g' k) := RQ.elem R5 W211
  have pre211 : Steps p.tables e below _ (T211.setTop (mkF m 77 #[.val (.ref a1), .val (.int p2), sa, sb] [])) := pre210.trans (st211 _ (Steps.refl _))
  have pre212 : Steps p.tables e below _ (T211.setTop (mkF m 79 #[.val (.ref a1), .val (.int p2), sa, sb] [(.ref a1), (.ref a1)])) := pre211.trans (by
    show Steps p.tables e below (T211.setTop (mkF m 77 #[.val (.ref a1), .val (.int p2), sa, sb] [])) _
    refine XS.aloadN X211.here hx rfl (hb hby d4_77) rfl rfl ?_
    show Steps p.tables e below (T211.setTop (mkF m 78 #[.val (.ref a1), .val (.int p2), sa, sb] [(.ref a1)])) _
    refine XS.dup X211.here hx rfl (hb hby d4_78) rfl rfl ?_
    exact Steps.refl _)
  obtain ⟨T213, X213, e213, st213⟩ := getF X211 hx hZ hown (host := "") (Or.inl (hw _ (List.mem_of_getElem? (i := 18) rfl))) Via.refl e211 R211n.2.2.2.1 (g := (mkF m 79 #[.val (.ref a1), .val (.int p2), sa, sb] [(.ref a1), (.ref a1)])) rfl rfl (hb hby d4_79)
  have pre213 : Steps p.tables e below _ (T213.setTop (mkF m 82 #[.val (.ref a1), .val (.int p2), sa, sb] [(.int szI), (.ref a1)])) := pre212.trans (st213 _ (Steps.refl _))
  have pre214 : Steps p.tables e below _ (T213.setTop (mkF m 84 #[.val (.ref a1), .val (.int p2), sa, sb] [(.int (szI + (1 : Int32))), (.ref a1)])) := pre213.trans (by
    show Steps p.tables e below (T213.setTop (mkF m 82 #[.val (.ref a1), .val (.int p2), sa, sb] [(.int szI), (.ref a1)])) _
    refine XS.iconst X213.here hx rfl (hb hby d4_82) ?_
    show Steps p.tables e below (T213.setTop (mkF m 83 #[.val (.ref a1), .val (.int p2), sa, sb] [(.int (1 : Int32)), (.int szI), (.ref a1)])) _
    refine XS.iadd X213.here hx rfl (hb hby d4_83) rfl ?_
    exact Steps.refl _)
  obtain ⟨z, h_z⟩ : ∃ z, z = (szI + (1 : Int32)) := ⟨_, rfl⟩
  rw [← h_z] at pre214
  have hz : z.toInt = sz + 1 := by rw [h_z, own_add (by omega) (by omega) (by omega) (by omega), e1, h6]
  obtain ⟨T215, h215, X215, e215, W215, st215⟩ := putF X213 hx hZ hown (host := "") (Or.inl (hw _ (List.mem_of_getElem? (i := 18) rfl))) Via.refl e213 R211n.2.2.2.1 R211n.1 (Or.inl (hw _ (List.mem_of_getElem? (i := 19) rfl))) (hw _ (List.mem_of_getElem? (i := 2) rfl)) (ty := .int) (by decide) rfl rfl (g := (mkF m 84 #[.val (.ref a1), .val (.int p2), sa, sb] [(.int z), (.ref a1)])) rfl rfl (hb hby d4_84)
  have N215 := Fr.snoc X215 N211 g_a1
  have Z215 : n0 ≤ h215.size := Nat.le_trans Z211 (Keep.of_wr W215).1
  have pre215 : Steps p.tables e below _ (T215.setTop (mkF m 87 #[.val (.ref a1), .val (.int p2), sa, sb] [])) := pre214.trans (st215 _ (Steps.refl _))
  have R215n : RQ Z h215 a1 b' N' hd' z (fun k => if k = j.toNatClampNeg then p2 else g' k) := RQ.size R211n W215 (ne_items_size hw) (ne_head_size hw)
  have I9 : IQ Z n0 h215 a1 (sz + 1) (fun i => if i = sz then p2 else el i) := ⟨b', N', hd', z, _, R215n, g_a1, gb5, hN5, hd50, hd51, by omega, by omega, fun i hi => by
    show (if ((hd'.toInt + (i : Int)) % N'.toInt).toNat = j.toNatClampNeg then p2 else g' ((hd'.toInt + (i : Int)) % N'.toInt).toNat) = if i = sz then p2 else el i
    have m1 := own_mods hN5 (hd'.toInt + (i : Int))
    have wj := own_nat j (by omega)
    by_cases qi : i = sz
    · rw [if_pos qi, if_pos (by rw [qi]; omega)]
    · rw [if_neg qi, if_neg (fun q => own_inj (a := hd'.toInt) (s := (sz : Int)) (i := (i : Int)) mm1 (by omega) (by omega) (by omega) (by omega))]; exact hel5 i (by omega)⟩
  obtain ⟨fs, hr, hrun, hended, hW, hsame⟩ := X215.leave (v := none) (fun h => by rfl)
  refine ⟨_, _, pre215.trans ?_, hrun, hended, _, _, rfl, ?_, ⟨_, rfl⟩, hW, hsame.mono (by decide) (by decide)⟩
  · exact X215.returnOut hx Bd.returns (hb hby d4_87) hr
  · exact ⟨rfl, N215, by show IQ Z n0 T215.heap a1 (sz + 1) _; rw [e215]; exact I9⟩
def own_gr_0_1 (mo : Int32) : Int32 := (0 : Int32)
def own_gr_0_2 (mo : Int32) : Int32 := (1 : Int32)
def own_gr_0_3 (mo : Int32) : Int32 := if (mo &&& (4 : Int32)) = (0 : Int32) then own_gr_0_1 mo else own_gr_0_2 mo
theorem own_gr01 (mo : Int32) : own_gr_0_3 mo = 0 ∨ own_gr_0_3 mo = 1 := by
  by_cases h : (mo &&& (4 : Int32)) = (0 : Int32)
  · exact Or.inl (if_pos h)
  · exact Or.inr (if_neg h)
def own_md (l : List Int32) : Nat → Int32 := fun i => l.getD i 0
theorem pn_rm0 : plainName "com/example/trips_into_trajectories/tripsintotrajectories/simulation/IntQueuePollPinLaw" = true := by first | (simp [plainName, overriddenIn]; done) | decide +kernel
theorem pd_rm0_0 : parseMethodDescriptor "()V" = some ⟨[], none⟩ := by decide +kernel
theorem pd_rm0_1 : parseMethodDescriptor "(I)V" = some ⟨[.int], none⟩ := by decide +kernel
theorem pd_rm0_2 : parseMethodDescriptor "()I" = some ⟨[], some .int⟩ := by decide +kernel
theorem ef_rm0 (m : MethodId) (p1 : Int32) (p2 : Int32) (p3 : Int32) (p4 : Int32) (p5 : Int32) (p6 : Int64) : entryFrame m #[(.int p1), (.int p2), (.int p3), (.int p4), (.int p5), (.long p6)] maxLocals = (mkF m 0 #[.val (.int p1), .val (.int p2), .val (.int p3), .val (.int p4), .val (.int p5), .val (.long p6), .second, .unset, .unset, .unset, .unset, .unset, .unset, .unset] []) := by first | (simp [entryFrame, mkF, argsToLocals, Value.category, maxLocals]; done) | rfl
def Q_rm0 (Z : State) (p1 : Int32) (p2 : Int32) (p3 : Int32) (p4 : Int32) (p5 : Int32) (p6 : Int64)  (h0 : Heap) (n0 : Nat) (v : Option Value) (h : Heap) (L : List Loc) : Prop := v = some (.int (1 : Int32)) ∧ Fr n0 L
set_option maxRecDepth 65536 in
set_option maxHeartbeats 40000000 in
theorem rm0 (l : Launch) (Z : State) (a0 : Array Value) (hw : ∀ d ∈ tables_1, d.before a0 Z = true) (ws : List Jvm.Cond) (p1 : Int32) (p2 : Int32) (p3 : Int32) (p4 : Int32) (p5 : Int32) (p6 : Int64)  (h0 : Heap) (n0 : Nat) (Z0 : n0 ≤ h0.size)  :
    MetFree l x (head1 (Jvm.Cond.code x code maxLocals ret :: ws) room_1) (fun a U => a = #[(.int p1), (.int p2), (.int p3), (.int p4), (.int p5), (.long p6)] ∧ Z.Warmed39 U.vm ∧ U.heap = h0) (fun _ _ _ _ _ => True) (fun _ U o U' => ∃ v L, o = .returned v ∧ Q_rm0 Z p1 p2 p3 p4 p5 p6 h0 n0 v U'.heap L ∧ FrameEnd U o U' L 11 79) := by
  refine MetFree.of_bodySF (plainFor_of_name pn_rm0) hisR ?_
  intro p e s m args below meth c s₁ Bd hml0 hP hK
  obtain ⟨rfl, hZ, hh⟩ := hP
  have hx := Bd.exec
  have hby := Bd.bytes
  have hml : c.maxLocals = 14 := hml0
  have hown : s.vm.findClass "com/example/trips_into_trajectories/tripsintotrajectories/simulation/IntQueuePollPinLaw" = some m.cls := findClass_of_methodNamed Bd.named
  have hnm := (name_of_methodNamed Bd.named Bd.method).1
  have X0 : Stand p l e room_1 s m #[(.int p1), (.int p2), (.int p3), (.int p4), (.int p5), (.long p6)] below meth c s₁ [] 0 0 := Stand.of_body Bd
  have e0 : s₁.heap = h0 := by rw [← hh, Bd.state]; rfl
  have N0 := Fr.nil n0
  have pre0 : Steps p.tables e below (s₁.setTop (entryFrame m #[(.int p1), (.int p2), (.int p3), (.int p4), (.int p5), (.long p6)] maxLocals)) (s₁.setTop (mkF m 0 #[.val (.int p1), .val (.int p2), .val (.int p3), .val (.int p4), .val (.int p5), .val (.long p6), .second, .unset, .unset, .unset, .unset, .unset, .unset, .unset] [])) := castTop (ef_rm0 m p1 p2 p3 p4 p5 p6) (Steps.refl _)
  have pre1 : Steps p.tables e below _ (s₁.setTop (mkF m 9 #[.val (.int p1), .val (.int p2), .val (.int p3), .val (.int p4), .val (.int p5), .val (.long p6), .second, .val (.int ((p6 &&& (7 : Int64)).toInt32)), .unset, .unset, .unset, .unset, .unset, .unset] [])) := pre0.trans (by
    show Steps p.tables e below (s₁.setTop (mkF m 0 #[.val (.int p1), .val (.int p2), .val (.int p3), .val (.int p4), .val (.int p5), .val (.long p6), .second, .unset, .unset, .unset, .unset, .unset, .unset, .unset] [])) _
    refine XS.lload X0.here hx rfl (hb hby at_0) rfl ?_
    show Steps p.tables e below (s₁.setTop (mkF m 2 #[.val (.int p1), .val (.int p2), .val (.int p3), .val (.int p4), .val (.int p5), .val (.long p6), .second, .unset, .unset, .unset, .unset, .unset, .unset, .unset] [(.long p6)])) _
    refine X0.ldc2Long hx hown (mvT hZ (hw _ (List.mem_of_getElem? (i := 0) rfl))) (g := (mkF m 2 #[.val (.int p1), .val (.int p2), .val (.int p3), .val (.int p4), .val (.int p5), .val (.long p6), .second, .unset, .unset, .unset, .unset, .unset, .unset, .unset] [(.long p6)])) rfl (hb hby at_2) _ ?_
    show Steps p.tables e below (s₁.setTop (mkF m 5 #[.val (.int p1), .val (.int p2), .val (.int p3), .val (.int p4), .val (.int p5), .val (.long p6), .second, .unset, .unset, .unset, .unset, .unset, .unset, .unset] [(.long (7 : Int64)), (.long p6)])) _
    refine XS.land X0.here hx rfl (hb hby at_5) rfl ?_
    show Steps p.tables e below (s₁.setTop (mkF m 6 #[.val (.int p1), .val (.int p2), .val (.int p3), .val (.int p4), .val (.int p5), .val (.long p6), .second, .unset, .unset, .unset, .unset, .unset, .unset, .unset] [(.long (p6 &&& (7 : Int64)))])) _
    refine XS.l2i X0.here hx rfl (hb hby at_6) rfl ?_
    show Steps p.tables e below (s₁.setTop (mkF m 7 #[.val (.int p1), .val (.int p2), .val (.int p3), .val (.int p4), .val (.int p5), .val (.long p6), .second, .unset, .unset, .unset, .unset, .unset, .unset, .unset] [(.int ((p6 &&& (7 : Int64)).toInt32))])) _
    refine XS.istore X0.here hx rfl (hb hby at_7) rfl (l' := #[.val (.int p1), .val (.int p2), .val (.int p3), .val (.int p4), .val (.int p5), .val (.long p6), .second, .val (.int ((p6 &&& (7 : Int64)).toInt32)), .unset, .unset, .unset, .unset, .unset, .unset]) rfl ?_
    exact Steps.refl _)
  obtain ⟨mo, h_mo⟩ : ∃ z, z = ((p6 &&& (7 : Int64)).toInt32) := ⟨_, rfl⟩
  rw [← h_mo] at pre1
  have pre2 : Steps p.tables e below _ (s₁.setTop (mkF m 15 #[.val (.int p1), .val (.int p2), .val (.int p3), .val (.int p4), .val (.int p5), .val (.long p6), .second, .val (.int mo), .val (.int (mo &&& (3 : Int32))), .unset, .unset, .unset, .unset, .unset] [])) := pre1.trans (by
    show Steps p.tables e below (s₁.setTop (mkF m 9 #[.val (.int p1), .val (.int p2), .val (.int p3), .val (.int p4), .val (.int p5), .val (.long p6), .second, .val (.int mo), .unset, .unset, .unset, .unset, .unset, .unset] [])) _
    refine XS.iload X0.here hx rfl (hb hby at_9) rfl ?_
    show Steps p.tables e below (s₁.setTop (mkF m 11 #[.val (.int p1), .val (.int p2), .val (.int p3), .val (.int p4), .val (.int p5), .val (.long p6), .second, .val (.int mo), .unset, .unset, .unset, .unset, .unset, .unset] [(.int mo)])) _
    refine XS.iconst X0.here hx rfl (hb hby at_11) ?_
    show Steps p.tables e below (s₁.setTop (mkF m 12 #[.val (.int p1), .val (.int p2), .val (.int p3), .val (.int p4), .val (.int p5), .val (.long p6), .second, .val (.int mo), .unset, .unset, .unset, .unset, .unset, .unset] [(.int (3 : Int32)), (.int mo)])) _
    refine XS.iand X0.here hx rfl (hb hby at_12) rfl ?_
    show Steps p.tables e below (s₁.setTop (mkF m 13 #[.val (.int p1), .val (.int p2), .val (.int p3), .val (.int p4), .val (.int p5), .val (.long p6), .second, .val (.int mo), .unset, .unset, .unset, .unset, .unset, .unset] [(.int (mo &&& (3 : Int32)))])) _
    refine XS.istore X0.here hx rfl (hb hby at_13) rfl (l' := #[.val (.int p1), .val (.int p2), .val (.int p3), .val (.int p4), .val (.int p5), .val (.long p6), .second, .val (.int mo), .val (.int (mo &&& (3 : Int32))), .unset, .unset, .unset, .unset, .unset]) rfl ?_
    exact Steps.refl _)
  obtain ⟨ss, h_ss⟩ : ∃ z, z = (mo &&& (3 : Int32)) := ⟨_, rfl⟩
  rw [← h_ss] at pre2
  obtain ⟨gw, h_gw⟩ : ∃ z, z = own_gr_0_3 mo := ⟨_, rfl⟩
  have Bgr_1 (hv0 : gw = own_gr_0_1 mo) : Steps p.tables e below (s₁.setTop (mkF m 26 #[.val (.int p1), .val (.int p2), .val (.int p3), .val (.int p4), .val (.int p5), .val (.long p6), .second, .val (.int mo), .val (.int ss), .unset, .unset, .unset, .unset, .unset] [])) (s₁.setTop (mkF m 27 #[.val (.int p1), .val (.int p2), .val (.int p3), .val (.int p4), .val (.int p5), .val (.long p6), .second, .val (.int mo), .val (.int ss), .unset, .unset, .unset, .unset, .unset] [(.int gw)])) := by
    have hw0 : gw = (0 : Int32) := hv0
    rw [hw0]
    show Steps p.tables e below (s₁.setTop (mkF m 26 #[.val (.int p1), .val (.int p2), .val (.int p3), .val (.int p4), .val (.int p5), .val (.long p6), .second, .val (.int mo), .val (.int ss), .unset, .unset, .unset, .unset, .unset] [])) _
    refine XS.iconst X0.here hx rfl (hb hby at_26) ?_
    exact Steps.refl _
  have Bgr_2 (hv0 : gw = own_gr_0_2 mo) : Steps p.tables e below (s₁.setTop (mkF m 22 #[.val (.int p1), .val (.int p2), .val (.int p3), .val (.int p4), .val (.int p5), .val (.long p6), .second, .val (.int mo), .val (.int ss), .unset, .unset, .unset, .unset, .unset] [])) (s₁.setTop (mkF m 27 #[.val (.int p1), .val (.int p2), .val (.int p3), .val (.int p4), .val (.int p5), .val (.long p6), .second, .val (.int mo), .val (.int ss), .unset, .unset, .unset, .unset, .unset] [(.int gw)])) := by
    have hw0 : gw = (1 : Int32) := hv0
    rw [hw0]
    show Steps p.tables e below (s₁.setTop (mkF m 22 #[.val (.int p1), .val (.int p2), .val (.int p3), .val (.int p4), .val (.int p5), .val (.long p6), .second, .val (.int mo), .val (.int ss), .unset, .unset, .unset, .unset, .unset] [])) _
    refine XS.iconst X0.here hx rfl (hb hby at_22) ?_
    show Steps p.tables e below (s₁.setTop (mkF m 23 #[.val (.int p1), .val (.int p2), .val (.int p3), .val (.int p4), .val (.int p5), .val (.long p6), .second, .val (.int mo), .val (.int ss), .unset, .unset, .unset, .unset, .unset] [(.int (1 : Int32))])) _
    refine XS.goto X0.here hx rfl (pc0 := 23) (pc' := 27) rfl (hb hby at_23) (by decide) (by decide) ?_
    exact Steps.refl _
  have Bgr_3 (hv0 : gw = own_gr_0_3 mo) : Steps p.tables e below (s₁.setTop (mkF m 15 #[.val (.int p1), .val (.int p2), .val (.int p3), .val (.int p4), .val (.int p5), .val (.long p6), .second, .val (.int mo), .val (.int ss), .unset, .unset, .unset, .unset, .unset] [])) (s₁.setTop (mkF m 27 #[.val (.int p1), .val (.int p2), .val (.int p3), .val (.int p4), .val (.int p5), .val (.long p6), .second, .val (.int mo), .val (.int ss), .unset, .unset, .unset, .unset, .unset] [(.int gw)])) := by
    show Steps p.tables e below (s₁.setTop (mkF m 15 #[.val (.int p1), .val (.int p2), .val (.int p3), .val (.int p4), .val (.int p5), .val (.long p6), .second, .val (.int mo), .val (.int ss), .unset, .unset, .unset, .unset, .unset] [])) _
    refine XS.iload X0.here hx rfl (hb hby at_15) rfl ?_
    show Steps p.tables e below (s₁.setTop (mkF m 17 #[.val (.int p1), .val (.int p2), .val (.int p3), .val (.int p4), .val (.int p5), .val (.long p6), .second, .val (.int mo), .val (.int ss), .unset, .unset, .unset, .unset, .unset] [(.int mo)])) _
    refine XS.iconst X0.here hx rfl (hb hby at_17) ?_
    show Steps p.tables e below (s₁.setTop (mkF m 18 #[.val (.int p1), .val (.int p2), .val (.int p3), .val (.int p4), .val (.int p5), .val (.long p6), .second, .val (.int mo), .val (.int ss), .unset, .unset, .unset, .unset, .unset] [(.int (4 : Int32)), (.int mo)])) _
    refine XS.iand X0.here hx rfl (hb hby at_18) rfl ?_
    show Steps p.tables e below (s₁.setTop (mkF m 19 #[.val (.int p1), .val (.int p2), .val (.int p3), .val (.int p4), .val (.int p5), .val (.long p6), .second, .val (.int mo), .val (.int ss), .unset, .unset, .unset, .unset, .unset] [(.int (mo &&& (4 : Int32)))])) _
    by_cases h19 : (mo &&& (4 : Int32)) = (0 : Int32)
    · refine XS.ifYes X0.here hx rfl (pc0 := 19) (pc' := 26) rfl (hb hby at_19) rfl ((if0 _ _).trans (teq h19).1) (by decide) (by decide) ?_
      exact Bgr_1 (hv0.trans (if_pos h19))
    · refine XS.ifNo X0.here hx rfl (hb hby at_19) rfl ((if0 _ _).trans (feq h19).1) ?_
      exact Bgr_2 (hv0.trans (if_neg h19))
  have pre3 : Steps p.tables e below _ (s₁.setTop (mkF m 27 #[.val (.int p1), .val (.int p2), .val (.int p3), .val (.int p4), .val (.int p5), .val (.long p6), .second, .val (.int mo), .val (.int ss), .unset, .unset, .unset, .unset, .unset] [(.int gw)])) := pre2.trans (Bgr_3 h_gw)
  have bg : gw = 0 ∨ gw = 1 := by rw [h_gw]; exact own_gr01 mo
  have pre4 : Steps p.tables e below _ (s₁.setTop (mkF m 37 #[.val (.int p1), .val (.int p2), .val (.int p3), .val (.int p4), .val (.int p5), .val (.long p6), .second, .val (.int mo), .val (.int ss), .val (.int gw), .val (.int (((p6.toUInt64 >>> ((32 : Int32) &&& 0x3f).toInt64.toUInt64).toInt64).toInt32)), .unset, .unset, .unset] [])) := pre3.trans (by
    show Steps p.tables e below (s₁.setTop (mkF m 27 #[.val (.int p1), .val (.int p2), .val (.int p3), .val (.int p4), .val (.int p5), .val (.long p6), .second, .val (.int mo), .val (.int ss), .unset, .unset, .unset, .unset, .unset] [(.int gw)])) _
    refine XS.istore X0.here hx rfl (hb hby at_27) rfl (l' := #[.val (.int p1), .val (.int p2), .val (.int p3), .val (.int p4), .val (.int p5), .val (.long p6), .second, .val (.int mo), .val (.int ss), .val (.int gw), .unset, .unset, .unset, .unset]) rfl ?_
    show Steps p.tables e below (s₁.setTop (mkF m 29 #[.val (.int p1), .val (.int p2), .val (.int p3), .val (.int p4), .val (.int p5), .val (.long p6), .second, .val (.int mo), .val (.int ss), .val (.int gw), .unset, .unset, .unset, .unset] [])) _
    refine XS.lload X0.here hx rfl (hb hby at_29) rfl ?_
    show Steps p.tables e below (s₁.setTop (mkF m 31 #[.val (.int p1), .val (.int p2), .val (.int p3), .val (.int p4), .val (.int p5), .val (.long p6), .second, .val (.int mo), .val (.int ss), .val (.int gw), .unset, .unset, .unset, .unset] [(.long p6)])) _
    refine XS.bipush X0.here hx rfl (hb hby at_31) ?_
    show Steps p.tables e below (s₁.setTop (mkF m 33 #[.val (.int p1), .val (.int p2), .val (.int p3), .val (.int p4), .val (.int p5), .val (.long p6), .second, .val (.int mo), .val (.int ss), .val (.int gw), .unset, .unset, .unset, .unset] [(.int (32 : Int32)), (.long p6)])) _
    refine XS.lushr X0.here hx rfl (hb hby at_33) rfl ?_
    show Steps p.tables e below (s₁.setTop (mkF m 34 #[.val (.int p1), .val (.int p2), .val (.int p3), .val (.int p4), .val (.int p5), .val (.long p6), .second, .val (.int mo), .val (.int ss), .val (.int gw), .unset, .unset, .unset, .unset] [(.long ((p6.toUInt64 >>> ((32 : Int32) &&& 0x3f).toInt64.toUInt64).toInt64))])) _
    refine XS.l2i X0.here hx rfl (hb hby at_34) rfl ?_
    show Steps p.tables e below (s₁.setTop (mkF m 35 #[.val (.int p1), .val (.int p2), .val (.int p3), .val (.int p4), .val (.int p5), .val (.long p6), .second, .val (.int mo), .val (.int ss), .val (.int gw), .unset, .unset, .unset, .unset] [(.int (((p6.toUInt64 >>> ((32 : Int32) &&& 0x3f).toInt64.toUInt64).toInt64).toInt32))])) _
    refine XS.istore X0.here hx rfl (hb hby at_35) rfl (l' := #[.val (.int p1), .val (.int p2), .val (.int p3), .val (.int p4), .val (.int p5), .val (.long p6), .second, .val (.int mo), .val (.int ss), .val (.int gw), .val (.int (((p6.toUInt64 >>> ((32 : Int32) &&& 0x3f).toInt64.toUInt64).toInt64).toInt32)), .unset, .unset, .unset]) rfl ?_
    exact Steps.refl _)
  obtain ⟨ff, h_ff⟩ : ∃ z, z = (((p6.toUInt64 >>> ((32 : Int32) &&& 0x3f).toInt64.toUInt64).toInt64).toInt32) := ⟨_, rfl⟩
  rw [← h_ff] at pre4
  obtain ⟨T5, h5, X5, e5, E5, A5, D5, -, st5⟩ := newO X0 hx hZ hown (hw _ (List.mem_of_getElem? (i := 1) rfl)) (hw _ (List.mem_of_getElem? (i := 2) rfl)) (hw _ (List.mem_of_getElem? (i := 3) rfl)) e0 (g := (mkF m 37 #[.val (.int p1), .val (.int p2), .val (.int p3), .val (.int p4), .val (.int p5), .val (.long p6), .second, .val (.int mo), .val (.int ss), .val (.int gw), .val (.int ff), .unset, .unset, .unset] [])) rfl (hb hby at_37) (by decide) (by decide)
  obtain ⟨q, g5⟩ : ∃ z, z = h0.size := ⟨_, rfl⟩
  rw [← g5] at A5 D5 st5
  have g_q : n0 ≤ q := Nat.le_trans Z0 (Nat.le_of_eq g5.symm)
  have Z5 : n0 ≤ h5.size := Nat.le_trans Z0 E5.1
  have pre5 : Steps p.tables e below _ (T5.setTop (mkF m 40 #[.val (.int p1), .val (.int p2), .val (.int p3), .val (.int p4), .val (.int p5), .val (.long p6), .second, .val (.int mo), .val (.int ss), .val (.int gw), .val (.int ff), .unset, .unset, .unset] [(.ref q)])) := pre4.trans (st5 _ (Steps.refl _))
  have F_items_q : Fld Z h5 q "com/example/trips_into_trajectories/tripsintotrajectories/simulation/IntQueue" "items" "[I" .null := D5 (Or.inl (hw _ (List.mem_of_getElem? (i := 12) rfl))) (ty := (.array .int)) (by decide)
  have F_head_q : Fld Z h5 q "com/example/trips_into_trajectories/tripsintotrajectories/simulation/IntQueue" "head" "I" (.int (0 : Int32)) := D5 (Or.inl (hw _ (List.mem_of_getElem? (i := 26) rfl))) (ty := .int) (by decide)
  have F_size_q : Fld Z h5 q "com/example/trips_into_trajectories/tripsintotrajectories/simulation/IntQueue" "size" "I" (.int (0 : Int32)) := D5 (Or.inl (hw _ (List.mem_of_getElem? (i := 19) rfl))) (ty := .int) (by decide)
  have pre6 : Steps p.tables e below _ (T5.setTop (mkF m 41 #[.val (.int p1), .val (.int p2), .val (.int p3), .val (.int p4), .val (.int p5), .val (.long p6), .second, .val (.int mo), .val (.int ss), .val (.int gw), .val (.int ff), .unset, .unset, .unset] [(.ref q), (.ref q)])) := pre5.trans (by
    show Steps p.tables e below (T5.setTop (mkF m 40 #[.val (.int p1), .val (.int p2), .val (.int p3), .val (.int p4), .val (.int p5), .val (.long p6), .second, .val (.int mo), .val (.int ss), .val (.int gw), .val (.int ff), .unset, .unset, .unset] [(.ref q)])) _
    refine XS.dup X5.here hx rfl (hb hby at_40) rfl rfl ?_
    exact Steps.refl _)
  obtain ⟨_, _, ⟨T7, L7, k7, n7⟩, -, X7, ⟨Lc7, hQ7, l7, y7, z7⟩, st7⟩ := X5.specialBack hx (y := (⟨"com/example/trips_into_trajectories/tripsintotrajectories/simulation/IntQueue", "<init>", "()V"⟩ : MethodName)) rfl hown (mvT hZ (hw _ (List.mem_of_getElem? (i := 4) rfl))) (mvT hZ (hw _ (List.mem_of_getElem? (i := 5) rfl))) (mvT hZ (hw _ (List.mem_of_getElem? (i := 6) rfl))) (by decide) (backOf (W := 1) (rmN l Z a0 hw [] q h5 n0 Z5 A5 F_items_q F_head_q F_size_q g_q) hZ (hw _ (List.mem_of_getElem? (i := 6) rfl)) (hw _ (List.mem_of_getElem? (i := 3) rfl)) (by decide) (by decide)) (g := (mkF m 41 #[.val (.int p1), .val (.int p2), .val (.int p3), .val (.int p4), .val (.int p5), .val (.long p6), .second, .val (.int mo), .val (.int ss), .val (.int gw), .val (.int ff), .unset, .unset, .unset] [(.ref q), (.ref q)])) rfl (by rw [hml]; rfl) (Steps.refl _) (a := q) (argsL := []) (rest := [(.ref q)]) (lenOf pd_rm0_0 rfl) rfl (by show 2 * 0 + _ ≤ _; exact Nat.le_of_eq rfl) (hb hby at_41) (fun _ _ => ⟨rfl, e5, (by decide : 1 + 1 ≤ _), (by decide : 3 + 4 ≤ _)⟩)
  dsimp only [Pt.U, Pt.locs, Pt.cells, Pt.slots] at X7 l7 y7 z7 st7 hQ7
  subst l7 y7 z7
  obtain ⟨rfl, N7q, I7⟩ := hQ7
  have N7 := Fr.app N0 N7q
  have pre7 : Steps p.tables e below _ (T7.setTop (mkF m 44 #[.val (.int p1), .val (.int p2), .val (.int p3), .val (.int p4), .val (.int p5), .val (.long p6), .second, .val (.int mo), .val (.int ss), .val (.int gw), .val (.int ff), .unset, .unset, .unset] [(.ref q)])) := pre6.trans (st7)
  have pre8 : Steps p.tables e below _ (T7.setTop (mkF m 49 #[.val (.int p1), .val (.int p2), .val (.int p3), .val (.int p4), .val (.int p5), .val (.long p6), .second, .val (.int mo), .val (.int ss), .val (.int gw), .val (.int ff), .val (.ref q), .val (.int (1 : Int32)), .unset] [])) := pre7.trans (by
    show Steps p.tables e below (T7.setTop (mkF m 44 #[.val (.int p1), .val (.int p2), .val (.int p3), .val (.int p4), .val (.int p5), .val (.long p6), .second, .val (.int mo), .val (.int ss), .val (.int gw), .val (.int ff), .unset, .unset, .unset] [(.ref q)])) _
    refine XS.astore X7.here hx rfl (hb hby at_44) rfl rfl (l' := #[.val (.int p1), .val (.int p2), .val (.int p3), .val (.int p4), .val (.int p5), .val (.long p6), .second, .val (.int mo), .val (.int ss), .val (.int gw), .val (.int ff), .val (.ref q), .unset, .unset]) rfl ?_
    show Steps p.tables e below (T7.setTop (mkF m 46 #[.val (.int p1), .val (.int p2), .val (.int p3), .val (.int p4), .val (.int p5), .val (.long p6), .second, .val (.int mo), .val (.int ss), .val (.int gw), .val (.int ff), .val (.ref q), .unset, .unset] [])) _
    refine XS.iconst X7.here hx rfl (hb hby at_46) ?_
    show Steps p.tables e below (T7.setTop (mkF m 47 #[.val (.int p1), .val (.int p2), .val (.int p3), .val (.int p4), .val (.int p5), .val (.long p6), .second, .val (.int mo), .val (.int ss), .val (.int gw), .val (.int ff), .val (.ref q), .unset, .unset] [(.int (1 : Int32))])) _
    refine XS.istore X7.here hx rfl (hb hby at_47) rfl (l' := #[.val (.int p1), .val (.int p2), .val (.int p3), .val (.int p4), .val (.int p5), .val (.long p6), .second, .val (.int mo), .val (.int ss), .val (.int gw), .val (.int ff), .val (.ref q), .val (.int (1 : Int32)), .unset]) rfl ?_
    exact Steps.refl _)
  have e111 : ((1 : Int32) &&& (1 : Int32)) = 1 := by decide
  obtain ⟨P1, lp1, XP1, NP1, JP1, preP1⟩ : ∃ (T' : State) (l' : List Loc), Stand p l e room_1 s m #[(.int p1), (.int p2), (.int p3), (.int p4), (.int p5), (.long p6)] below meth c T' l' 3 15 ∧ Fr n0 l' ∧ (∀ el, IQ Z n0 T'.heap q 0 el) ∧ Steps p.tables e below (s₁.setTop (entryFrame m #[(.int p1), (.int p2), (.int p3), (.int p4), (.int p5), (.long p6)] maxLocals)) (T'.setTop (mkF m 80 #[.val (.int p1), .val (.int p2), .val (.int p3), .val (.int p4), .val (.int p5), .val (.long p6), .second, .val (.int mo), .val (.int ss), .val (.int gw), .val (.int ff), .val (.ref q), .val (.int (1 : Int32)), .unset] [])) := by
    rcases Decidable.em (ss < (1 : Int32)) with h | h
    · have hbr := h
      have pre9 : Steps p.tables e below _ (T7.setTop (mkF m 80 #[.val (.int p1), .val (.int p2), .val (.int p3), .val (.int p4), .val (.int p5), .val (.long p6), .second, .val (.int mo), .val (.int ss), .val (.int gw), .val (.int ff), .val (.ref q), .val (.int (1 : Int32)), .unset] [])) := pre8.trans (by
        show Steps p.tables e below (T7.setTop (mkF m 49 #[.val (.int p1), .val (.int p2), .val (.int p3), .val (.int p4), .val (.int p5), .val (.long p6), .second, .val (.int mo), .val (.int ss), .val (.int gw), .val (.int ff), .val (.ref q), .val (.int (1 : Int32)), .unset] [])) _
        refine XS.iload X7.here hx rfl (hb hby at_49) rfl ?_
        show Steps p.tables e below (T7.setTop (mkF m 51 #[.val (.int p1), .val (.int p2), .val (.int p3), .val (.int p4), .val (.int p5), .val (.long p6), .second, .val (.int mo), .val (.int ss), .val (.int gw), .val (.int ff), .val (.ref q), .val (.int (1 : Int32)), .unset] [(.int ss)])) _
        refine XS.iconst X7.here hx rfl (hb hby at_51) ?_
        show Steps p.tables e below (T7.setTop (mkF m 52 #[.val (.int p1), .val (.int p2), .val (.int p3), .val (.int p4), .val (.int p5), .val (.long p6), .second, .val (.int mo), .val (.int ss), .val (.int gw), .val (.int ff), .val (.ref q), .val (.int (1 : Int32)), .unset] [(.int (1 : Int32)), (.int ss)])) _
        refine XS.icmpYes X7.here hx rfl (pc0 := 52) (pc' := 80) rfl (hb hby at_52) rfl (tlt h).1 (by decide) (by decide) ?_
        exact Steps.refl _)
      exact ⟨_, _, X7.more (by decide) (by decide), N7, I7, pre9⟩
    · have hbr := h
      have pre10 : Steps p.tables e below _ (T7.setTop (mkF m 58 #[.val (.int p1), .val (.int p2), .val (.int p3), .val (.int p4), .val (.int p5), .val (.long p6), .second, .val (.int mo), .val (.int ss), .val (.int gw), .val (.int ff), .val (.ref q), .val (.int (1 : Int32)), .unset] [(.int p4), (.ref q)])) := pre8.trans (by
        show Steps p.tables e below (T7.setTop (mkF m 49 #[.val (.int p1), .val (.int p2), .val (.int p3), .val (.int p4), .val (.int p5), .val (.long p6), .second, .val (.int mo), .val (.int ss), .val (.int gw), .val (.int ff), .val (.ref q), .val (.int (1 : Int32)), .unset] [])) _
        refine XS.iload X7.here hx rfl (hb hby at_49) rfl ?_
        show Steps p.tables e below (T7.setTop (mkF m 51 #[.val (.int p1), .val (.int p2), .val (.int p3), .val (.int p4), .val (.int p5), .val (.long p6), .second, .val (.int mo), .val (.int ss), .val (.int gw), .val (.int ff), .val (.ref q), .val (.int (1 : Int32)), .unset] [(.int ss)])) _
        refine XS.iconst X7.here hx rfl (hb hby at_51) ?_
        show Steps p.tables e below (T7.setTop (mkF m 52 #[.val (.int p1), .val (.int p2), .val (.int p3), .val (.int p4), .val (.int p5), .val (.long p6), .second, .val (.int mo), .val (.int ss), .val (.int gw), .val (.int ff), .val (.ref q), .val (.int (1 : Int32)), .unset] [(.int (1 : Int32)), (.int ss)])) _
        refine XS.icmpNo X7.here hx rfl (hb hby at_52) rfl (flt h).1 ?_
        show Steps p.tables e below (T7.setTop (mkF m 55 #[.val (.int p1), .val (.int p2), .val (.int p3), .val (.int p4), .val (.int p5), .val (.long p6), .second, .val (.int mo), .val (.int ss), .val (.int gw), .val (.int ff), .val (.ref q), .val (.int (1 : Int32)), .unset] [])) _
        refine XS.aload X7.here hx rfl (hb hby at_55) rfl rfl ?_
        show Steps p.tables e below (T7.setTop (mkF m 57 #[.val (.int p1), .val (.int p2), .val (.int p3), .val (.int p4), .val (.int p5), .val (.long p6), .second, .val (.int mo), .val (.int ss), .val (.int gw), .val (.int ff), .val (.ref q), .val (.int (1 : Int32)), .unset] [(.ref q)])) _
        refine XS.iloadN X7.here hx rfl (hb hby at_57) rfl ?_
        exact Steps.refl _)
      obtain ⟨cq11, kq11, q11a, q11b, q11c⟩ := isOf hZ (rfl : T7.heap = T7.heap) (I7 (fun _ => 0)).exa
      obtain ⟨_, _, ⟨T11, L11, k11, n11⟩, -, X11, ⟨Lc11, hQ11, l11, y11, z11⟩, st11⟩ := X7.virtualBack hx (y := (⟨"com/example/trips_into_trajectories/tripsintotrajectories/simulation/IntQueue", "add", "(I)V"⟩ : MethodName)) (z := (⟨"com/example/trips_into_trajectories/tripsintotrajectories/simulation/IntQueue", "add", "(I)V"⟩ : MethodName)) hown (mvT hZ (hw _ (List.mem_of_getElem? (i := 20) rfl))) (mvT hZ (hw _ (List.mem_of_getElem? (i := 21) rfl))) (notFace_of_selects (args := #[]) (mvT hZ (hw _ (List.mem_of_getElem? (i := 23) rfl)))) (mvT hZ (hw _ (List.mem_of_getElem? (i := 23) rfl))) (mvT hZ (hw _ (List.mem_of_getElem? (i := 22) rfl))) (by decide) (backOf (W := 0) (rmD l Z a0 hw [] q p4 0 (fun _ => p4) T7.heap n0 (I7 (fun _ => 0)).le (I7 _) (by decide)) hZ (hw _ (List.mem_of_getElem? (i := 24) rfl)) (hw _ (List.mem_of_getElem? (i := 3) rfl)) (by decide) (by decide)) q11a q11c (g := (mkF m 58 #[.val (.int p1), .val (.int p2), .val (.int p3), .val (.int p4), .val (.int p5), .val (.long p6), .second, .val (.int mo), .val (.int ss), .val (.int gw), .val (.int ff), .val (.ref q), .val (.int (1 : Int32)), .unset] [(.int p4), (.ref q)])) rfl (by rw [hml]; rfl) (Steps.refl _) (argsL := [(.int p4)]) (rest := []) (lenOf pd_rm0_1 rfl) rfl (by show 2 * 0 + _ ≤ _; exact Nat.le_of_eq rfl) (hb hby at_58) (fun _ _ => ⟨rfl, (rfl : T7.heap = T7.heap), (by decide : 2 + 1 ≤ _), (by decide : 7 + 8 ≤ _)⟩)
      dsimp only [Pt.U, Pt.locs, Pt.cells, Pt.slots] at X11 l11 y11 z11 st11 hQ11
      subst l11 y11 z11
      obtain ⟨rfl, N11q, I11⟩ := hQ11
      have N11 := Fr.app N7 N11q
      have pre11 : Steps p.tables e below _ (T11.setTop (mkF m 61 #[.val (.int p1), .val (.int p2), .val (.int p3), .val (.int p4), .val (.int p5), .val (.long p6), .second, .val (.int mo), .val (.int ss), .val (.int gw), .val (.int ff), .val (.ref q), .val (.int (1 : Int32)), .unset] [])) := pre10.trans (st11)
      have JA : IQ Z n0 T11.heap q (0 + 1) (fun _ => p4) := I11.congr (fun i hi => by show (if i = 0 then p4 else p4) = p4; rw [ite_self])
      have pre12 : Steps p.tables e below _ (T11.setTop (mkF m 65 #[.val (.int p1), .val (.int p2), .val (.int p3), .val (.int p4), .val (.int p5), .val (.long p6), .second, .val (.int mo), .val (.int ss), .val (.int gw), .val (.int ff), .val (.ref q), .val (.int (1 : Int32)), .unset] [(.ref q), (.int (1 : Int32))])) := pre11.trans (by
        show Steps p.tables e below (T11.setTop (mkF m 61 #[.val (.int p1), .val (.int p2), .val (.int p3), .val (.int p4), .val (.int p5), .val (.long p6), .second, .val (.int mo), .val (.int ss), .val (.int gw), .val (.int ff), .val (.ref q), .val (.int (1 : Int32)), .unset] [])) _
        refine XS.iload X11.here hx rfl (hb hby at_61) rfl ?_
        show Steps p.tables e below (T11.setTop (mkF m 63 #[.val (.int p1), .val (.int p2), .val (.int p3), .val (.int p4), .val (.int p5), .val (.long p6), .second, .val (.int mo), .val (.int ss), .val (.int gw), .val (.int ff), .val (.ref q), .val (.int (1 : Int32)), .unset] [(.int (1 : Int32))])) _
        refine XS.aload X11.here hx rfl (hb hby at_63) rfl rfl ?_
        exact Steps.refl _)
      obtain ⟨cq13, kq13, q13a, q13b, q13c⟩ := isOf hZ (rfl : T11.heap = T11.heap) JA.exa
      obtain ⟨_, _, ⟨T13, L13, k13, n13⟩, -, X13, ⟨Lc13, hQ13, l13, y13, z13⟩, st13⟩ := X11.virtualBack hx (y := (⟨"com/example/trips_into_trajectories/tripsintotrajectories/simulation/IntQueue", "poll", "()I"⟩ : MethodName)) (z := (⟨"com/example/trips_into_trajectories/tripsintotrajectories/simulation/IntQueue", "poll", "()I"⟩ : MethodName)) hown (mvT hZ (hw _ (List.mem_of_getElem? (i := 27) rfl))) (mvT hZ (hw _ (List.mem_of_getElem? (i := 28) rfl))) (notFace_of_selects (args := #[]) (mvT hZ (hw _ (List.mem_of_getElem? (i := 30) rfl)))) (mvT hZ (hw _ (List.mem_of_getElem? (i := 30) rfl))) (mvT hZ (hw _ (List.mem_of_getElem? (i := 29) rfl))) (by decide) (backOf (W := 1) (rmP l Z a0 hw [] q 0 (fun _ => p4) T11.heap n0 JA.le JA) hZ (hw _ (List.mem_of_getElem? (i := 31) rfl)) (hw _ (List.mem_of_getElem? (i := 3) rfl)) (by decide) (by decide)) q13a q13c (g := (mkF m 65 #[.val (.int p1), .val (.int p2), .val (.int p3), .val (.int p4), .val (.int p5), .val (.long p6), .second, .val (.int mo), .val (.int ss), .val (.int gw), .val (.int ff), .val (.ref q), .val (.int (1 : Int32)), .unset] [(.ref q), (.int (1 : Int32))])) rfl (by rw [hml]; rfl) (Steps.refl _) (argsL := []) (rest := [(.int (1 : Int32))]) (lenOf pd_rm0_2 rfl) rfl (by show 2 * 0 + _ ≤ _; exact Nat.le_of_eq rfl) (hb hby at_65) (fun _ _ => ⟨rfl, (rfl : T11.heap = T11.heap), (by decide : 3 + 0 ≤ _), (by decide : 15 + 0 ≤ _)⟩)
      dsimp only [Pt.U, Pt.locs, Pt.cells, Pt.slots] at X13 l13 y13 z13 st13 hQ13
      subst l13 y13 z13
      obtain ⟨rfl, N13q, I13⟩ := hQ13
      have N13 := Fr.app N11 N13q
      have pre13 : Steps p.tables e below _ (T13.setTop (mkF m 68 #[.val (.int p1), .val (.int p2), .val (.int p3), .val (.int p4), .val (.int p5), .val (.long p6), .second, .val (.int mo), .val (.int ss), .val (.int gw), .val (.int ff), .val (.ref q), .val (.int (1 : Int32)), .unset] [(.int p4), (.int (1 : Int32))])) := pre12.trans (st13)
      have pre14 : Steps p.tables e below _ (T13.setTop (mkF m 78 #[.val (.int p1), .val (.int p2), .val (.int p3), .val (.int p4), .val (.int p5), .val (.long p6), .second, .val (.int mo), .val (.int ss), .val (.int gw), .val (.int ff), .val (.ref q), .val (.int (1 : Int32)), .unset] [(.int ((1 : Int32) &&& (1 : Int32)))])) := pre13.trans (by
        show Steps p.tables e below (T13.setTop (mkF m 68 #[.val (.int p1), .val (.int p2), .val (.int p3), .val (.int p4), .val (.int p5), .val (.long p6), .second, .val (.int mo), .val (.int ss), .val (.int gw), .val (.int ff), .val (.ref q), .val (.int (1 : Int32)), .unset] [(.int p4), (.int (1 : Int32))])) _
        refine XS.iloadN X13.here hx rfl (hb hby at_68) rfl ?_
        show Steps p.tables e below (T13.setTop (mkF m 69 #[.val (.int p1), .val (.int p2), .val (.int p3), .val (.int p4), .val (.int p5), .val (.long p6), .second, .val (.int mo), .val (.int ss), .val (.int gw), .val (.int ff), .val (.ref q), .val (.int (1 : Int32)), .unset] [(.int p4), (.int p4), (.int (1 : Int32))])) _
        refine XS.icmpNo X13.here hx rfl (hb hby at_69) rfl (teq (rfl : p4 = p4)).2 ?_
        show Steps p.tables e below (T13.setTop (mkF m 72 #[.val (.int p1), .val (.int p2), .val (.int p3), .val (.int p4), .val (.int p5), .val (.long p6), .second, .val (.int mo), .val (.int ss), .val (.int gw), .val (.int ff), .val (.ref q), .val (.int (1 : Int32)), .unset] [(.int (1 : Int32))])) _
        refine XS.iconst X13.here hx rfl (hb hby at_72) ?_
        show Steps p.tables e below (T13.setTop (mkF m 73 #[.val (.int p1), .val (.int p2), .val (.int p3), .val (.int p4), .val (.int p5), .val (.long p6), .second, .val (.int mo), .val (.int ss), .val (.int gw), .val (.int ff), .val (.ref q), .val (.int (1 : Int32)), .unset] [(.int (1 : Int32)), (.int (1 : Int32))])) _
        refine XS.goto X13.here hx rfl (pc0 := 73) (pc' := 77) rfl (hb hby at_73) (by decide) (by decide) ?_
        show Steps p.tables e below (T13.setTop (mkF m 77 #[.val (.int p1), .val (.int p2), .val (.int p3), .val (.int p4), .val (.int p5), .val (.long p6), .second, .val (.int mo), .val (.int ss), .val (.int gw), .val (.int ff), .val (.ref q), .val (.int (1 : Int32)), .unset] [(.int (1 : Int32)), (.int (1 : Int32))])) _
        refine XS.iand X13.here hx rfl (hb hby at_77) rfl ?_
        exact Steps.refl _)
      rw [e111] at pre14
      have pre15 : Steps p.tables e below _ (T13.setTop (mkF m 80 #[.val (.int p1), .val (.int p2), .val (.int p3), .val (.int p4), .val (.int p5), .val (.long p6), .second, .val (.int mo), .val (.int ss), .val (.int gw), .val (.int ff), .val (.ref q), .val (.int (1 : Int32)), .unset] [])) := pre14.trans (by
        show Steps p.tables e below (T13.setTop (mkF m 78 #[.val (.int p1), .val (.int p2), .val (.int p3), .val (.int p4), .val (.int p5), .val (.long p6), .second, .val (.int mo), .val (.int ss), .val (.int gw), .val (.int ff), .val (.ref q), .val (.int (1 : Int32)), .unset] [(.int (1 : Int32))])) _
        refine XS.istore X13.here hx rfl (hb hby at_78) rfl (l' := #[.val (.int p1), .val (.int p2), .val (.int p3), .val (.int p4), .val (.int p5), .val (.long p6), .second, .val (.int mo), .val (.int ss), .val (.int gw), .val (.int ff), .val (.ref q), .val (.int (1 : Int32)), .unset]) rfl ?_
        exact Steps.refl _)
      exact ⟨_, _, X13, N13, fun el => I13.congr (fun i hi => absurd hi (Nat.not_lt_zero i)), pre15⟩
  obtain ⟨P2, lp2, XP2, NP2, JP2, preP2⟩ : ∃ (T' : State) (l' : List Loc), Stand p l e room_1 s m #[(.int p1), (.int p2), (.int p3), (.int p4), (.int p5), (.long p6)] below meth c T' l' 4 23 ∧ Fr n0 l' ∧ (∀ el, IQ Z n0 T'.heap q 0 el) ∧ Steps p.tables e below (s₁.setTop (entryFrame m #[(.int p1), (.int p2), (.int p3), (.int p4), (.int p5), (.long p6)] maxLocals)) (T'.setTop (mkF m 111 #[.val (.int p1), .val (.int p2), .val (.int p3), .val (.int p4), .val (.int p5), .val (.long p6), .second, .val (.int mo), .val (.int ss), .val (.int gw), .val (.int ff), .val (.ref q), .val (.int (1 : Int32)), .unset] [])) := by
    rcases Decidable.em (ss < (2 : Int32)) with h | h
    · have hbr := h
      have pre16 : Steps p.tables e below _ (P1.setTop (mkF m 111 #[.val (.int p1), .val (.int p2), .val (.int p3), .val (.int p4), .val (.int p5), .val (.long p6), .second, .val (.int mo), .val (.int ss), .val (.int gw), .val (.int ff), .val (.ref q), .val (.int (1 : Int32)), .unset] [])) := preP1.trans (by
        show Steps p.tables e below (P1.setTop (mkF m 80 #[.val (.int p1), .val (.int p2), .val (.int p3), .val (.int p4), .val (.int p5), .val (.long p6), .second, .val (.int mo), .val (.int ss), .val (.int gw), .val (.int ff), .val (.ref q), .val (.int (1 : Int32)), .unset] [])) _
        refine XS.iload XP1.here hx rfl (hb hby at_80) rfl ?_
        show Steps p.tables e below (P1.setTop (mkF m 82 #[.val (.int p1), .val (.int p2), .val (.int p3), .val (.int p4), .val (.int p5), .val (.long p6), .second, .val (.int mo), .val (.int ss), .val (.int gw), .val (.int ff), .val (.ref q), .val (.int (1 : Int32)), .unset] [(.int ss)])) _
        refine XS.iconst XP1.here hx rfl (hb hby at_82) ?_
        show Steps p.tables e below (P1.setTop (mkF m 83 #[.val (.int p1), .val (.int p2), .val (.int p3), .val (.int p4), .val (.int p5), .val (.long p6), .second, .val (.int mo), .val (.int ss), .val (.int gw), .val (.int ff), .val (.ref q), .val (.int (1 : Int32)), .unset] [(.int (2 : Int32)), (.int ss)])) _
        refine XS.icmpYes XP1.here hx rfl (pc0 := 83) (pc' := 111) rfl (hb hby at_83) rfl (tlt h).1 (by decide) (by decide) ?_
        exact Steps.refl _)
      exact ⟨_, _, XP1.more (by decide) (by decide), NP1, JP1, pre16⟩
    · have hbr := h
      have pre17 : Steps p.tables e below _ (P1.setTop (mkF m 89 #[.val (.int p1), .val (.int p2), .val (.int p3), .val (.int p4), .val (.int p5), .val (.long p6), .second, .val (.int mo), .val (.int ss), .val (.int gw), .val (.int ff), .val (.ref q), .val (.int (1 : Int32)), .unset] [(.int p3), (.ref q)])) := preP1.trans (by
        show Steps p.tables e below (P1.setTop (mkF m 80 #[.val (.int p1), .val (.int p2), .val (.int p3), .val (.int p4), .val (.int p5), .val (.long p6), .second, .val (.int mo), .val (.int ss), .val (.int gw), .val (.int ff), .val (.ref q), .val (.int (1 : Int32)), .unset] [])) _
        refine XS.iload XP1.here hx rfl (hb hby at_80) rfl ?_
        show Steps p.tables e below (P1.setTop (mkF m 82 #[.val (.int p1), .val (.int p2), .val (.int p3), .val (.int p4), .val (.int p5), .val (.long p6), .second, .val (.int mo), .val (.int ss), .val (.int gw), .val (.int ff), .val (.ref q), .val (.int (1 : Int32)), .unset] [(.int ss)])) _
        refine XS.iconst XP1.here hx rfl (hb hby at_82) ?_
        show Steps p.tables e below (P1.setTop (mkF m 83 #[.val (.int p1), .val (.int p2), .val (.int p3), .val (.int p4), .val (.int p5), .val (.long p6), .second, .val (.int mo), .val (.int ss), .val (.int gw), .val (.int ff), .val (.ref q), .val (.int (1 : Int32)), .unset] [(.int (2 : Int32)), (.int ss)])) _
        refine XS.icmpNo XP1.here hx rfl (hb hby at_83) rfl (flt h).1 ?_
        show Steps p.tables e below (P1.setTop (mkF m 86 #[.val (.int p1), .val (.int p2), .val (.int p3), .val (.int p4), .val (.int p5), .val (.long p6), .second, .val (.int mo), .val (.int ss), .val (.int gw), .val (.int ff), .val (.ref q), .val (.int (1 : Int32)), .unset] [])) _
        refine XS.aload XP1.here hx rfl (hb hby at_86) rfl rfl ?_
        show Steps p.tables e below (P1.setTop (mkF m 88 #[.val (.int p1), .val (.int p2), .val (.int p3), .val (.int p4), .val (.int p5), .val (.long p6), .second, .val (.int mo), .val (.int ss), .val (.int gw), .val (.int ff), .val (.ref q), .val (.int (1 : Int32)), .unset] [(.ref q)])) _
        refine XS.iloadN XP1.here hx rfl (hb hby at_88) rfl ?_
        exact Steps.refl _)
      obtain ⟨cq18, kq18, q18a, q18b, q18c⟩ := isOf hZ (rfl : P1.heap = P1.heap) (JP1 (fun _ => 0)).exa
      obtain ⟨_, _, ⟨T18, L18, k18, n18⟩, -, X18, ⟨Lc18, hQ18, l18, y18, z18⟩, st18⟩ := XP1.virtualBack hx (y := (⟨"com/example/trips_into_trajectories/tripsintotrajectories/simulation/IntQueue", "add", "(I)V"⟩ : MethodName)) (z := (⟨"com/example/trips_into_trajectories/tripsintotrajectories/simulation/IntQueue", "add", "(I)V"⟩ : MethodName)) hown (mvT hZ (hw _ (List.mem_of_getElem? (i := 20) rfl))) (mvT hZ (hw _ (List.mem_of_getElem? (i := 21) rfl))) (notFace_of_selects (args := #[]) (mvT hZ (hw _ (List.mem_of_getElem? (i := 23) rfl)))) (mvT hZ (hw _ (List.mem_of_getElem? (i := 23) rfl))) (mvT hZ (hw _ (List.mem_of_getElem? (i := 22) rfl))) (by decide) (backOf (W := 0) (rmD l Z a0 hw [] q p3 0 (fun _ => p3) P1.heap n0 (JP1 (fun _ => 0)).le (JP1 _) (by decide)) hZ (hw _ (List.mem_of_getElem? (i := 24) rfl)) (hw _ (List.mem_of_getElem? (i := 3) rfl)) (by decide) (by decide)) q18a q18c (g := (mkF m 89 #[.val (.int p1), .val (.int p2), .val (.int p3), .val (.int p4), .val (.int p5), .val (.long p6), .second, .val (.int mo), .val (.int ss), .val (.int gw), .val (.int ff), .val (.ref q), .val (.int (1 : Int32)), .unset] [(.int p3), (.ref q)])) rfl (by rw [hml]; rfl) (Steps.refl _) (argsL := [(.int p3)]) (rest := []) (lenOf pd_rm0_1 rfl) rfl (by show 2 * 0 + _ ≤ _; exact Nat.le_of_eq rfl) (hb hby at_89) (fun _ _ => ⟨rfl, (rfl : P1.heap = P1.heap), (by decide : 3 + 1 ≤ _), (by decide : 15 + 8 ≤ _)⟩)
      dsimp only [Pt.U, Pt.locs, Pt.cells, Pt.slots] at X18 l18 y18 z18 st18 hQ18
      subst l18 y18 z18
      obtain ⟨rfl, N18q, I18⟩ := hQ18
      have N18 := Fr.app NP1 N18q
      have pre18 : Steps p.tables e below _ (T18.setTop (mkF m 92 #[.val (.int p1), .val (.int p2), .val (.int p3), .val (.int p4), .val (.int p5), .val (.long p6), .second, .val (.int mo), .val (.int ss), .val (.int gw), .val (.int ff), .val (.ref q), .val (.int (1 : Int32)), .unset] [])) := pre17.trans (st18)
      have JA : IQ Z n0 T18.heap q (0 + 1) (fun _ => p3) := I18.congr (fun i hi => by show (if i = 0 then p3 else p3) = p3; rw [ite_self])
      have pre19 : Steps p.tables e below _ (T18.setTop (mkF m 96 #[.val (.int p1), .val (.int p2), .val (.int p3), .val (.int p4), .val (.int p5), .val (.long p6), .second, .val (.int mo), .val (.int ss), .val (.int gw), .val (.int ff), .val (.ref q), .val (.int (1 : Int32)), .unset] [(.ref q), (.int (1 : Int32))])) := pre18.trans (by
        show Steps p.tables e below (T18.setTop (mkF m 92 #[.val (.int p1), .val (.int p2), .val (.int p3), .val (.int p4), .val (.int p5), .val (.long p6), .second, .val (.int mo), .val (.int ss), .val (.int gw), .val (.int ff), .val (.ref q), .val (.int (1 : Int32)), .unset] [])) _
        refine XS.iload X18.here hx rfl (hb hby at_92) rfl ?_
        show Steps p.tables e below (T18.setTop (mkF m 94 #[.val (.int p1), .val (.int p2), .val (.int p3), .val (.int p4), .val (.int p5), .val (.long p6), .second, .val (.int mo), .val (.int ss), .val (.int gw), .val (.int ff), .val (.ref q), .val (.int (1 : Int32)), .unset] [(.int (1 : Int32))])) _
        refine XS.aload X18.here hx rfl (hb hby at_94) rfl rfl ?_
        exact Steps.refl _)
      obtain ⟨cq20, kq20, q20a, q20b, q20c⟩ := isOf hZ (rfl : T18.heap = T18.heap) JA.exa
      obtain ⟨_, _, ⟨T20, L20, k20, n20⟩, -, X20, ⟨Lc20, hQ20, l20, y20, z20⟩, st20⟩ := X18.virtualBack hx (y := (⟨"com/example/trips_into_trajectories/tripsintotrajectories/simulation/IntQueue", "poll", "()I"⟩ : MethodName)) (z := (⟨"com/example/trips_into_trajectories/tripsintotrajectories/simulation/IntQueue", "poll", "()I"⟩ : MethodName)) hown (mvT hZ (hw _ (List.mem_of_getElem? (i := 27) rfl))) (mvT hZ (hw _ (List.mem_of_getElem? (i := 28) rfl))) (notFace_of_selects (args := #[]) (mvT hZ (hw _ (List.mem_of_getElem? (i := 30) rfl)))) (mvT hZ (hw _ (List.mem_of_getElem? (i := 30) rfl))) (mvT hZ (hw _ (List.mem_of_getElem? (i := 29) rfl))) (by decide) (backOf (W := 1) (rmP l Z a0 hw [] q 0 (fun _ => p3) T18.heap n0 JA.le JA) hZ (hw _ (List.mem_of_getElem? (i := 31) rfl)) (hw _ (List.mem_of_getElem? (i := 3) rfl)) (by decide) (by decide)) q20a q20c (g := (mkF m 96 #[.val (.int p1), .val (.int p2), .val (.int p3), .val (.int p4), .val (.int p5), .val (.long p6), .second, .val (.int mo), .val (.int ss), .val (.int gw), .val (.int ff), .val (.ref q), .val (.int (1 : Int32)), .unset] [(.ref q), (.int (1 : Int32))])) rfl (by rw [hml]; rfl) (Steps.refl _) (argsL := []) (rest := [(.int (1 : Int32))]) (lenOf pd_rm0_2 rfl) rfl (by show 2 * 0 + _ ≤ _; exact Nat.le_of_eq rfl) (hb hby at_96) (fun _ _ => ⟨rfl, (rfl : T18.heap = T18.heap), (by decide : 4 + 0 ≤ _), (by decide : 23 + 0 ≤ _)⟩)
      dsimp only [Pt.U, Pt.locs, Pt.cells, Pt.slots] at X20 l20 y20 z20 st20 hQ20
      subst l20 y20 z20
      obtain ⟨rfl, N20q, I20⟩ := hQ20
      have N20 := Fr.app N18 N20q
      have pre20 : Steps p.tables e below _ (T20.setTop (mkF m 99 #[.val (.int p1), .val (.int p2), .val (.int p3), .val (.int p4), .val (.int p5), .val (.long p6), .second, .val (.int mo), .val (.int ss), .val (.int gw), .val (.int ff), .val (.ref q), .val (.int (1 : Int32)), .unset] [(.int p3), (.int (1 : Int32))])) := pre19.trans (st20)
      have pre21 : Steps p.tables e below _ (T20.setTop (mkF m 109 #[.val (.int p1), .val (.int p2), .val (.int p3), .val (.int p4), .val (.int p5), .val (.long p6), .second, .val (.int mo), .val (.int ss), .val (.int gw), .val (.int ff), .val (.ref q), .val (.int (1 : Int32)), .unset] [(.int ((1 : Int32) &&& (1 : Int32)))])) := pre20.trans (by
        show Steps p.tables e below (T20.setTop (mkF m 99 #[.val (.int p1), .val (.int p2), .val (.int p3), .val (.int p4), .val (.int p5), .val (.long p6), .second, .val (.int mo), .val (.int ss), .val (.int gw), .val (.int ff), .val (.ref q), .val (.int (1 : Int32)), .unset] [(.int p3), (.int (1 : Int32))])) _
        refine XS.iloadN X20.here hx rfl (hb hby at_99) rfl ?_
        show Steps p.tables e below (T20.setTop (mkF m 100 #[.val (.int p1), .val (.int p2), .val (.int p3), .val (.int p4), .val (.int p5), .val (.long p6), .second, .val (.int mo), .val (.int ss), .val (.int gw), .val (.int ff), .val (.ref q), .val (.int (1 : Int32)), .unset] [(.int p3), (.int p3), (.int (1 : Int32))])) _
        refine XS.icmpNo X20.here hx rfl (hb hby at_100) rfl (teq (rfl : p3 = p3)).2 ?_
        show Steps p.tables e below (T20.setTop (mkF m 103 #[.val (.int p1), .val (.int p2), .val (.int p3), .val (.int p4), .val (.int p5), .val (.long p6), .second, .val (.int mo), .val (.int ss), .val (.int gw), .val (.int ff), .val (.ref q), .val (.int (1 : Int32)), .unset] [(.int (1 : Int32))])) _
        refine XS.iconst X20.here hx rfl (hb hby at_103) ?_
        show Steps p.tables e below (T20.setTop (mkF m 104 #[.val (.int p1), .val (.int p2), .val (.int p3), .val (.int p4), .val (.int p5), .val (.long p6), .second, .val (.int mo), .val (.int ss), .val (.int gw), .val (.int ff), .val (.ref q), .val (.int (1 : Int32)), .unset] [(.int (1 : Int32)), (.int (1 : Int32))])) _
        refine XS.goto X20.here hx rfl (pc0 := 104) (pc' := 108) rfl (hb hby at_104) (by decide) (by decide) ?_
        show Steps p.tables e below (T20.setTop (mkF m 108 #[.val (.int p1), .val (.int p2), .val (.int p3), .val (.int p4), .val (.int p5), .val (.long p6), .second, .val (.int mo), .val (.int ss), .val (.int gw), .val (.int ff), .val (.ref q), .val (.int (1 : Int32)), .unset] [(.int (1 : Int32)), (.int (1 : Int32))])) _
        refine XS.iand X20.here hx rfl (hb hby at_108) rfl ?_
        exact Steps.refl _)
      rw [e111] at pre21
      have pre22 : Steps p.tables e below _ (T20.setTop (mkF m 111 #[.val (.int p1), .val (.int p2), .val (.int p3), .val (.int p4), .val (.int p5), .val (.long p6), .second, .val (.int mo), .val (.int ss), .val (.int gw), .val (.int ff), .val (.ref q), .val (.int (1 : Int32)), .unset] [])) := pre21.trans (by
        show Steps p.tables e below (T20.setTop (mkF m 109 #[.val (.int p1), .val (.int p2), .val (.int p3), .val (.int p4), .val (.int p5), .val (.long p6), .second, .val (.int mo), .val (.int ss), .val (.int gw), .val (.int ff), .val (.ref q), .val (.int (1 : Int32)), .unset] [(.int (1 : Int32))])) _
        refine XS.istore X20.here hx rfl (hb hby at_109) rfl (l' := #[.val (.int p1), .val (.int p2), .val (.int p3), .val (.int p4), .val (.int p5), .val (.long p6), .second, .val (.int mo), .val (.int ss), .val (.int gw), .val (.int ff), .val (.ref q), .val (.int (1 : Int32)), .unset]) rfl ?_
        exact Steps.refl _)
      exact ⟨_, _, X20, N20, fun el => I20.congr (fun i hi => absurd hi (Nat.not_lt_zero i)), pre22⟩
  obtain ⟨P3, lp3, XP3, NP3, JP3, preP3⟩ : ∃ (T' : State) (l' : List Loc), Stand p l e room_1 s m #[(.int p1), (.int p2), (.int p3), (.int p4), (.int p5), (.long p6)] below meth c T' l' 5 31 ∧ Fr n0 l' ∧ (∀ el, IQ Z n0 T'.heap q 0 el) ∧ Steps p.tables e below (s₁.setTop (entryFrame m #[(.int p1), (.int p2), (.int p3), (.int p4), (.int p5), (.long p6)] maxLocals)) (T'.setTop (mkF m 142 #[.val (.int p1), .val (.int p2), .val (.int p3), .val (.int p4), .val (.int p5), .val (.long p6), .second, .val (.int mo), .val (.int ss), .val (.int gw), .val (.int ff), .val (.ref q), .val (.int (1 : Int32)), .unset] [])) := by
    rcases Decidable.em (ss < (3 : Int32)) with h | h
    · have hbr := h
      have pre23 : Steps p.tables e below _ (P2.setTop (mkF m 142 #[.val (.int p1), .val (.int p2), .val (.int p3), .val (.int p4), .val (.int p5), .val (.long p6), .second, .val (.int mo), .val (.int ss), .val (.int gw), .val (.int ff), .val (.ref q), .val (.int (1 : Int32)), .unset] [])) := preP2.trans (by
        show Steps p.tables e below (P2.setTop (mkF m 111 #[.val (.int p1), .val (.int p2), .val (.int p3), .val (.int p4), .val (.int p5), .val (.long p6), .second, .val (.int mo), .val (.int ss), .val (.int gw), .val (.int ff), .val (.ref q), .val (.int (1 : Int32)), .unset] [])) _
        refine XS.iload XP2.here hx rfl (hb hby at_111) rfl ?_
        show Steps p.tables e below (P2.setTop (mkF m 113 #[.val (.int p1), .val (.int p2), .val (.int p3), .val (.int p4), .val (.int p5), .val (.long p6), .second, .val (.int mo), .val (.int ss), .val (.int gw), .val (.int ff), .val (.ref q), .val (.int (1 : Int32)), .unset] [(.int ss)])) _
        refine XS.iconst XP2.here hx rfl (hb hby at_113) ?_
        show Steps p.tables e below (P2.setTop (mkF m 114 #[.val (.int p1), .val (.int p2), .val (.int p3), .val (.int p4), .val (.int p5), .val (.long p6), .second, .val (.int mo), .val (.int ss), .val (.int gw), .val (.int ff), .val (.ref q), .val (.int (1 : Int32)), .unset] [(.int (3 : Int32)), (.int ss)])) _
        refine XS.icmpYes XP2.here hx rfl (pc0 := 114) (pc' := 142) rfl (hb hby at_114) rfl (tlt h).1 (by decide) (by decide) ?_
        exact Steps.refl _)
      exact ⟨_, _, XP2.more (by decide) (by decide), NP2, JP2, pre23⟩
    · have hbr := h
      have pre24 : Steps p.tables e below _ (P2.setTop (mkF m 120 #[.val (.int p1), .val (.int p2), .val (.int p3), .val (.int p4), .val (.int p5), .val (.long p6), .second, .val (.int mo), .val (.int ss), .val (.int gw), .val (.int ff), .val (.ref q), .val (.int (1 : Int32)), .unset] [(.int p2), (.ref q)])) := preP2.trans (by
        show Steps p.tables e below (P2.setTop (mkF m 111 #[.val (.int p1), .val (.int p2), .val (.int p3), .val (.int p4), .val (.int p5), .val (.long p6), .second, .val (.int mo), .val (.int ss), .val (.int gw), .val (.int ff), .val (.ref q), .val (.int (1 : Int32)), .unset] [])) _
        refine XS.iload XP2.here hx rfl (hb hby at_111) rfl ?_
        show Steps p.tables e below (P2.setTop (mkF m 113 #[.val (.int p1), .val (.int p2), .val (.int p3), .val (.int p4), .val (.int p5), .val (.long p6), .second, .val (.int mo), .val (.int ss), .val (.int gw), .val (.int ff), .val (.ref q), .val (.int (1 : Int32)), .unset] [(.int ss)])) _
        refine XS.iconst XP2.here hx rfl (hb hby at_113) ?_
        show Steps p.tables e below (P2.setTop (mkF m 114 #[.val (.int p1), .val (.int p2), .val (.int p3), .val (.int p4), .val (.int p5), .val (.long p6), .second, .val (.int mo), .val (.int ss), .val (.int gw), .val (.int ff), .val (.ref q), .val (.int (1 : Int32)), .unset] [(.int (3 : Int32)), (.int ss)])) _
        refine XS.icmpNo XP2.here hx rfl (hb hby at_114) rfl (flt h).1 ?_
        show Steps p.tables e below (P2.setTop (mkF m 117 #[.val (.int p1), .val (.int p2), .val (.int p3), .val (.int p4), .val (.int p5), .val (.long p6), .second, .val (.int mo), .val (.int ss), .val (.int gw), .val (.int ff), .val (.ref q), .val (.int (1 : Int32)), .unset] [])) _
        refine XS.aload XP2.here hx rfl (hb hby at_117) rfl rfl ?_
        show Steps p.tables e below (P2.setTop (mkF m 119 #[.val (.int p1), .val (.int p2), .val (.int p3), .val (.int p4), .val (.int p5), .val (.long p6), .second, .val (.int mo), .val (.int ss), .val (.int gw), .val (.int ff), .val (.ref q), .val (.int (1 : Int32)), .unset] [(.ref q)])) _
        refine XS.iloadN XP2.here hx rfl (hb hby at_119) rfl ?_
        exact Steps.refl _)
      obtain ⟨cq25, kq25, q25a, q25b, q25c⟩ := isOf hZ (rfl : P2.heap = P2.heap) (JP2 (fun _ => 0)).exa
      obtain ⟨_, _, ⟨T25, L25, k25, n25⟩, -, X25, ⟨Lc25, hQ25, l25, y25, z25⟩, st25⟩ := XP2.virtualBack hx (y := (⟨"com/example/trips_into_trajectories/tripsintotrajectories/simulation/IntQueue", "add", "(I)V"⟩ : MethodName)) (z := (⟨"com/example/trips_into_trajectories/tripsintotrajectories/simulation/IntQueue", "add", "(I)V"⟩ : MethodName)) hown (mvT hZ (hw _ (List.mem_of_getElem? (i := 20) rfl))) (mvT hZ (hw _ (List.mem_of_getElem? (i := 21) rfl))) (notFace_of_selects (args := #[]) (mvT hZ (hw _ (List.mem_of_getElem? (i := 23) rfl)))) (mvT hZ (hw _ (List.mem_of_getElem? (i := 23) rfl))) (mvT hZ (hw _ (List.mem_of_getElem? (i := 22) rfl))) (by decide) (backOf (W := 0) (rmD l Z a0 hw [] q p2 0 (fun _ => p2) P2.heap n0 (JP2 (fun _ => 0)).le (JP2 _) (by decide)) hZ (hw _ (List.mem_of_getElem? (i := 24) rfl)) (hw _ (List.mem_of_getElem? (i := 3) rfl)) (by decide) (by decide)) q25a q25c (g := (mkF m 120 #[.val (.int p1), .val (.int p2), .val (.int p3), .val (.int p4), .val (.int p5), .val (.long p6), .second, .val (.int mo), .val (.int ss), .val (.int gw), .val (.int ff), .val (.ref q), .val (.int (1 : Int32)), .unset] [(.int p2), (.ref q)])) rfl (by rw [hml]; rfl) (Steps.refl _) (argsL := [(.int p2)]) (rest := []) (lenOf pd_rm0_1 rfl) rfl (by show 2 * 0 + _ ≤ _; exact Nat.le_of_eq rfl) (hb hby at_120) (fun _ _ => ⟨rfl, (rfl : P2.heap = P2.heap), (by decide : 4 + 1 ≤ _), (by decide : 23 + 8 ≤ _)⟩)
      dsimp only [Pt.U, Pt.locs, Pt.cells, Pt.slots] at X25 l25 y25 z25 st25 hQ25
      subst l25 y25 z25
      obtain ⟨rfl, N25q, I25⟩ := hQ25
      have N25 := Fr.app NP2 N25q
      have pre25 : Steps p.tables e below _ (T25.setTop (mkF m 123 #[.val (.int p1), .val (.int p2), .val (.int p3), .val (.int p4), .val (.int p5), .val (.long p6), .second, .val (.int mo), .val (.int ss), .val (.int gw), .val (.int ff), .val (.ref q), .val (.int (1 : Int32)), .unset] [])) := pre24.trans (st25)
      have JA : IQ Z n0 T25.heap q (0 + 1) (fun _ => p2) := I25.congr (fun i hi => by show (if i = 0 then p2 else p2) = p2; rw [ite_self])
      have pre26 : Steps p.tables e below _ (T25.setTop (mkF m 127 #[.val (.int p1), .val (.int p2), .val (.int p3), .val (.int p4), .val (.int p5), .val (.long p6), .second, .val (.int mo), .val (.int ss), .val (.int gw), .val (.int ff), .val (.ref q), .val (.int (1 : Int32)), .unset] [(.ref q), (.int (1 : Int32))])) := pre25.trans (by
        show Steps p.tables e below (T25.setTop (mkF m 123 #[.val (.int p1), .val (.int p2), .val (.int p3), .val (.int p4), .val (.int p5), .val (.long p6), .second, .val (.int mo), .val (.int ss), .val (.int gw), .val (.int ff), .val (.ref q), .val (.int (1 : Int32)), .unset] [])) _
        refine XS.iload X25.here hx rfl (hb hby at_123) rfl ?_
        show Steps p.tables e below (T25.setTop (mkF m 125 #[.val (.int p1), .val (.int p2), .val (.int p3), .val (.int p4), .val (.int p5), .val (.long p6), .second, .val (.int mo), .val (.int ss), .val (.int gw), .val (.int ff), .val (.ref q), .val (.int (1 : Int32)), .unset] [(.int (1 : Int32))])) _
        refine XS.aload X25.here hx rfl (hb hby at_125) rfl rfl ?_
        exact Steps.refl _)
      obtain ⟨cq27, kq27, q27a, q27b, q27c⟩ := isOf hZ (rfl : T25.heap = T25.heap) JA.exa
      obtain ⟨_, _, ⟨T27, L27, k27, n27⟩, -, X27, ⟨Lc27, hQ27, l27, y27, z27⟩, st27⟩ := X25.virtualBack hx (y := (⟨"com/example/trips_into_trajectories/tripsintotrajectories/simulation/IntQueue", "poll", "()I"⟩ : MethodName)) (z := (⟨"com/example/trips_into_trajectories/tripsintotrajectories/simulation/IntQueue", "poll", "()I"⟩ : MethodName)) hown (mvT hZ (hw _ (List.mem_of_getElem? (i := 27) rfl))) (mvT hZ (hw _ (List.mem_of_getElem? (i := 28) rfl))) (notFace_of_selects (args := #[]) (mvT hZ (hw _ (List.mem_of_getElem? (i := 30) rfl)))) (mvT hZ (hw _ (List.mem_of_getElem? (i := 30) rfl))) (mvT hZ (hw _ (List.mem_of_getElem? (i := 29) rfl))) (by decide) (backOf (W := 1) (rmP l Z a0 hw [] q 0 (fun _ => p2) T25.heap n0 JA.le JA) hZ (hw _ (List.mem_of_getElem? (i := 31) rfl)) (hw _ (List.mem_of_getElem? (i := 3) rfl)) (by decide) (by decide)) q27a q27c (g := (mkF m 127 #[.val (.int p1), .val (.int p2), .val (.int p3), .val (.int p4), .val (.int p5), .val (.long p6), .second, .val (.int mo), .val (.int ss), .val (.int gw), .val (.int ff), .val (.ref q), .val (.int (1 : Int32)), .unset] [(.ref q), (.int (1 : Int32))])) rfl (by rw [hml]; rfl) (Steps.refl _) (argsL := []) (rest := [(.int (1 : Int32))]) (lenOf pd_rm0_2 rfl) rfl (by show 2 * 0 + _ ≤ _; exact Nat.le_of_eq rfl) (hb hby at_127) (fun _ _ => ⟨rfl, (rfl : T25.heap = T25.heap), (by decide : 5 + 0 ≤ _), (by decide : 31 + 0 ≤ _)⟩)
      dsimp only [Pt.U, Pt.locs, Pt.cells, Pt.slots] at X27 l27 y27 z27 st27 hQ27
      subst l27 y27 z27
      obtain ⟨rfl, N27q, I27⟩ := hQ27
      have N27 := Fr.app N25 N27q
      have pre27 : Steps p.tables e below _ (T27.setTop (mkF m 130 #[.val (.int p1), .val (.int p2), .val (.int p3), .val (.int p4), .val (.int p5), .val (.long p6), .second, .val (.int mo), .val (.int ss), .val (.int gw), .val (.int ff), .val (.ref q), .val (.int (1 : Int32)), .unset] [(.int p2), (.int (1 : Int32))])) := pre26.trans (st27)
      have pre28 : Steps p.tables e below _ (T27.setTop (mkF m 140 #[.val (.int p1), .val (.int p2), .val (.int p3), .val (.int p4), .val (.int p5), .val (.long p6), .second, .val (.int mo), .val (.int ss), .val (.int gw), .val (.int ff), .val (.ref q), .val (.int (1 : Int32)), .unset] [(.int ((1 : Int32) &&& (1 : Int32)))])) := pre27.trans (by
        show Steps p.tables e below (T27.setTop (mkF m 130 #[.val (.int p1), .val (.int p2), .val (.int p3), .val (.int p4), .val (.int p5), .val (.long p6), .second, .val (.int mo), .val (.int ss), .val (.int gw), .val (.int ff), .val (.ref q), .val (.int (1 : Int32)), .unset] [(.int p2), (.int (1 : Int32))])) _
        refine XS.iloadN X27.here hx rfl (hb hby at_130) rfl ?_
        show Steps p.tables e below (T27.setTop (mkF m 131 #[.val (.int p1), .val (.int p2), .val (.int p3), .val (.int p4), .val (.int p5), .val (.long p6), .second, .val (.int mo), .val (.int ss), .val (.int gw), .val (.int ff), .val (.ref q), .val (.int (1 : Int32)), .unset] [(.int p2), (.int p2), (.int (1 : Int32))])) _
        refine XS.icmpNo X27.here hx rfl (hb hby at_131) rfl (teq (rfl : p2 = p2)).2 ?_
        show Steps p.tables e below (T27.setTop (mkF m 134 #[.val (.int p1), .val (.int p2), .val (.int p3), .val (.int p4), .val (.int p5), .val (.long p6), .second, .val (.int mo), .val (.int ss), .val (.int gw), .val (.int ff), .val (.ref q), .val (.int (1 : Int32)), .unset] [(.int (1 : Int32))])) _
        refine XS.iconst X27.here hx rfl (hb hby at_134) ?_
        show Steps p.tables e below (T27.setTop (mkF m 135 #[.val (.int p1), .val (.int p2), .val (.int p3), .val (.int p4), .val (.int p5), .val (.long p6), .second, .val (.int mo), .val (.int ss), .val (.int gw), .val (.int ff), .val (.ref q), .val (.int (1 : Int32)), .unset] [(.int (1 : Int32)), (.int (1 : Int32))])) _
        refine XS.goto X27.here hx rfl (pc0 := 135) (pc' := 139) rfl (hb hby at_135) (by decide) (by decide) ?_
        show Steps p.tables e below (T27.setTop (mkF m 139 #[.val (.int p1), .val (.int p2), .val (.int p3), .val (.int p4), .val (.int p5), .val (.long p6), .second, .val (.int mo), .val (.int ss), .val (.int gw), .val (.int ff), .val (.ref q), .val (.int (1 : Int32)), .unset] [(.int (1 : Int32)), (.int (1 : Int32))])) _
        refine XS.iand X27.here hx rfl (hb hby at_139) rfl ?_
        exact Steps.refl _)
      rw [e111] at pre28
      have pre29 : Steps p.tables e below _ (T27.setTop (mkF m 142 #[.val (.int p1), .val (.int p2), .val (.int p3), .val (.int p4), .val (.int p5), .val (.long p6), .second, .val (.int mo), .val (.int ss), .val (.int gw), .val (.int ff), .val (.ref q), .val (.int (1 : Int32)), .unset] [])) := pre28.trans (by
        show Steps p.tables e below (T27.setTop (mkF m 140 #[.val (.int p1), .val (.int p2), .val (.int p3), .val (.int p4), .val (.int p5), .val (.long p6), .second, .val (.int mo), .val (.int ss), .val (.int gw), .val (.int ff), .val (.ref q), .val (.int (1 : Int32)), .unset] [(.int (1 : Int32))])) _
        refine XS.istore X27.here hx rfl (hb hby at_140) rfl (l' := #[.val (.int p1), .val (.int p2), .val (.int p3), .val (.int p4), .val (.int p5), .val (.long p6), .second, .val (.int mo), .val (.int ss), .val (.int gw), .val (.int ff), .val (.ref q), .val (.int (1 : Int32)), .unset]) rfl ?_
        exact Steps.refl _)
      exact ⟨_, _, X27, N27, fun el => I27.congr (fun i hi => absurd hi (Nat.not_lt_zero i)), pre29⟩
  have pre30 : Steps p.tables e below _ (P3.setTop (mkF m 146 #[.val (.int p1), .val (.int p2), .val (.int p3), .val (.int p4), .val (.int p5), .val (.long p6), .second, .val (.int mo), .val (.int ss), .val (.int gw), .val (.int ff), .val (.ref q), .val (.int (1 : Int32)), .unset] [(.ref q), (.int (1 : Int32))])) := preP3.trans (by
    show Steps p.tables e below (P3.setTop (mkF m 142 #[.val (.int p1), .val (.int p2), .val (.int p3), .val (.int p4), .val (.int p5), .val (.long p6), .second, .val (.int mo), .val (.int ss), .val (.int gw), .val (.int ff), .val (.ref q), .val (.int (1 : Int32)), .unset] [])) _
    refine XS.iload XP3.here hx rfl (hb hby at_142) rfl ?_
    show Steps p.tables e below (P3.setTop (mkF m 144 #[.val (.int p1), .val (.int p2), .val (.int p3), .val (.int p4), .val (.int p5), .val (.long p6), .second, .val (.int mo), .val (.int ss), .val (.int gw), .val (.int ff), .val (.ref q), .val (.int (1 : Int32)), .unset] [(.int (1 : Int32))])) _
    refine XS.aload XP3.here hx rfl (hb hby at_144) rfl rfl ?_
    exact Steps.refl _)
  obtain ⟨cq31, kq31, q31a, q31b, q31c⟩ := isOf hZ (rfl : P3.heap = P3.heap) (JP3 (fun _ => 0)).exa
  obtain ⟨_, _, ⟨T31, L31, k31, n31⟩, -, X31, ⟨Lc31, hQ31, l31, y31, z31⟩, st31⟩ := XP3.virtualBack hx (y := (⟨"com/example/trips_into_trajectories/tripsintotrajectories/simulation/IntQueue", "size", "()I"⟩ : MethodName)) (z := (⟨"com/example/trips_into_trajectories/tripsintotrajectories/simulation/IntQueue", "size", "()I"⟩ : MethodName)) hown (mvT hZ (hw _ (List.mem_of_getElem? (i := 13) rfl))) (mvT hZ (hw _ (List.mem_of_getElem? (i := 14) rfl))) (notFace_of_selects (args := #[]) (mvT hZ (hw _ (List.mem_of_getElem? (i := 16) rfl)))) (mvT hZ (hw _ (List.mem_of_getElem? (i := 16) rfl))) (mvT hZ (hw _ (List.mem_of_getElem? (i := 15) rfl))) (by decide) (backOf (W := 1) (rmS l Z a0 hw [] q 0 (fun _ => 0) P3.heap n0 (JP3 (fun _ => 0)).le (JP3 _)) hZ (hw _ (List.mem_of_getElem? (i := 17) rfl)) (hw _ (List.mem_of_getElem? (i := 3) rfl)) (by decide) (by decide)) q31a q31c (g := (mkF m 146 #[.val (.int p1), .val (.int p2), .val (.int p3), .val (.int p4), .val (.int p5), .val (.long p6), .second, .val (.int mo), .val (.int ss), .val (.int gw), .val (.int ff), .val (.ref q), .val (.int (1 : Int32)), .unset] [(.ref q), (.int (1 : Int32))])) rfl (by rw [hml]; rfl) (Steps.refl _) (argsL := []) (rest := [(.int (1 : Int32))]) (lenOf pd_rm0_2 rfl) rfl (by show 2 * 0 + _ ≤ _; exact Nat.le_of_eq rfl) (hb hby at_146) (fun _ _ => ⟨rfl, (rfl : P3.heap = P3.heap), (by decide : 5 + 0 ≤ _), (by decide : 31 + 0 ≤ _)⟩)
  dsimp only [Pt.U, Pt.locs, Pt.cells, Pt.slots] at X31 l31 y31 z31 st31 hQ31
  subst l31 y31 z31
  obtain ⟨rfl, N31q, hh31⟩ := hQ31
  have N31 := Fr.app NP3 N31q
  have pre31 : Steps p.tables e below _ (T31.setTop (mkF m 149 #[.val (.int p1), .val (.int p2), .val (.int p3), .val (.int p4), .val (.int p5), .val (.long p6), .second, .val (.int mo), .val (.int ss), .val (.int gw), .val (.int ff), .val (.ref q), .val (.int (1 : Int32)), .unset] [(.int (Int32.ofNat 0)), (.int (1 : Int32))])) := pre30.trans (st31)
  have JS : ∀ el, IQ Z n0 T31.heap q 0 el := fun el => by rw [hh31]; exact JP3 el
  have pre32 : Steps p.tables e below _ (T31.setTop (mkF m 158 #[.val (.int p1), .val (.int p2), .val (.int p3), .val (.int p4), .val (.int p5), .val (.long p6), .second, .val (.int mo), .val (.int ss), .val (.int gw), .val (.int ff), .val (.ref q), .val (.int (1 : Int32)), .unset] [(.int ((1 : Int32) &&& (1 : Int32)))])) := pre31.trans (by
    show Steps p.tables e below (T31.setTop (mkF m 149 #[.val (.int p1), .val (.int p2), .val (.int p3), .val (.int p4), .val (.int p5), .val (.long p6), .second, .val (.int mo), .val (.int ss), .val (.int gw), .val (.int ff), .val (.ref q), .val (.int (1 : Int32)), .unset] [(.int (Int32.ofNat 0)), (.int (1 : Int32))])) _
    refine XS.ifNo X31.here hx rfl (hb hby at_149) rfl ((if0 _ _).trans (teq (by decide : Int32.ofNat 0 = (0 : Int32))).2) ?_
    show Steps p.tables e below (T31.setTop (mkF m 152 #[.val (.int p1), .val (.int p2), .val (.int p3), .val (.int p4), .val (.int p5), .val (.long p6), .second, .val (.int mo), .val (.int ss), .val (.int gw), .val (.int ff), .val (.ref q), .val (.int (1 : Int32)), .unset] [(.int (1 : Int32))])) _
    refine XS.iconst X31.here hx rfl (hb hby at_152) ?_
    show Steps p.tables e below (T31.setTop (mkF m 153 #[.val (.int p1), .val (.int p2), .val (.int p3), .val (.int p4), .val (.int p5), .val (.long p6), .second, .val (.int mo), .val (.int ss), .val (.int gw), .val (.int ff), .val (.ref q), .val (.int (1 : Int32)), .unset] [(.int (1 : Int32)), (.int (1 : Int32))])) _
    refine XS.goto X31.here hx rfl (pc0 := 153) (pc' := 157) rfl (hb hby at_153) (by decide) (by decide) ?_
    show Steps p.tables e below (T31.setTop (mkF m 157 #[.val (.int p1), .val (.int p2), .val (.int p3), .val (.int p4), .val (.int p5), .val (.long p6), .second, .val (.int mo), .val (.int ss), .val (.int gw), .val (.int ff), .val (.ref q), .val (.int (1 : Int32)), .unset] [(.int (1 : Int32)), (.int (1 : Int32))])) _
    refine XS.iand X31.here hx rfl (hb hby at_157) rfl ?_
    exact Steps.refl _)
  rw [e111] at pre32
  have pre33 : Steps p.tables e below _ (T31.setTop (mkF m 160 #[.val (.int p1), .val (.int p2), .val (.int p3), .val (.int p4), .val (.int p5), .val (.long p6), .second, .val (.int mo), .val (.int ss), .val (.int gw), .val (.int ff), .val (.ref q), .val (.int (1 : Int32)), .unset] [])) := pre32.trans (by
    show Steps p.tables e below (T31.setTop (mkF m 158 #[.val (.int p1), .val (.int p2), .val (.int p3), .val (.int p4), .val (.int p5), .val (.long p6), .second, .val (.int mo), .val (.int ss), .val (.int gw), .val (.int ff), .val (.ref q), .val (.int (1 : Int32)), .unset] [(.int (1 : Int32))])) _
    refine XS.istore X31.here hx rfl (hb hby at_158) rfl (l' := #[.val (.int p1), .val (.int p2), .val (.int p3), .val (.int p4), .val (.int p5), .val (.long p6), .second, .val (.int mo), .val (.int ss), .val (.int gw), .val (.int ff), .val (.ref q), .val (.int (1 : Int32)), .unset]) rfl ?_
    exact Steps.refl _)
  rcases Decidable.em (gw = (0 : Int32)) with h | h
  · have hgw := h
    have J0 : IQ Z n0 T31.heap q 0 (fun i => own_md [p1, p2, p3, p4, ff] (i + 0)) := JS _
    have pre34 : Steps p.tables e below _ (T31.setTop (mkF m 163 #[.val (.int p1), .val (.int p2), .val (.int p3), .val (.int p4), .val (.int p5), .val (.long p6), .second, .val (.int mo), .val (.int ss), .val (.int gw), .val (.int ff), .val (.ref q), .val (.int (1 : Int32)), .unset] [(.int p1), (.ref q)])) := pre33.trans (by
      show Steps p.tables e below (T31.setTop (mkF m 160 #[.val (.int p1), .val (.int p2), .val (.int p3), .val (.int p4), .val (.int p5), .val (.long p6), .second, .val (.int mo), .val (.int ss), .val (.int gw), .val (.int ff), .val (.ref q), .val (.int (1 : Int32)), .unset] [])) _
      refine XS.aload X31.here hx rfl (hb hby at_160) rfl rfl ?_
      show Steps p.tables e below (T31.setTop (mkF m 162 #[.val (.int p1), .val (.int p2), .val (.int p3), .val (.int p4), .val (.int p5), .val (.long p6), .second, .val (.int mo), .val (.int ss), .val (.int gw), .val (.int ff), .val (.ref q), .val (.int (1 : Int32)), .unset] [(.ref q)])) _
      refine XS.iloadN X31.here hx rfl (hb hby at_162) rfl ?_
      exact Steps.refl _)
    obtain ⟨cq35, kq35, q35a, q35b, q35c⟩ := isOf hZ (rfl : T31.heap = T31.heap) J0.exa
    obtain ⟨_, _, ⟨T35, L35, k35, n35⟩, -, X35, ⟨Lc35, hQ35, l35, y35, z35⟩, st35⟩ := X31.virtualBack hx (y := (⟨"com/example/trips_into_trajectories/tripsintotrajectories/simulation/IntQueue", "add", "(I)V"⟩ : MethodName)) (z := (⟨"com/example/trips_into_trajectories/tripsintotrajectories/simulation/IntQueue", "add", "(I)V"⟩ : MethodName)) hown (mvT hZ (hw _ (List.mem_of_getElem? (i := 20) rfl))) (mvT hZ (hw _ (List.mem_of_getElem? (i := 21) rfl))) (notFace_of_selects (args := #[]) (mvT hZ (hw _ (List.mem_of_getElem? (i := 23) rfl)))) (mvT hZ (hw _ (List.mem_of_getElem? (i := 23) rfl))) (mvT hZ (hw _ (List.mem_of_getElem? (i := 22) rfl))) (by decide) (backOf (W := 0) (rmD l Z a0 hw [] q p1 0 (fun i => own_md [p1, p2, p3, p4, ff] (i + 0)) T31.heap n0 J0.le J0 (by decide)) hZ (hw _ (List.mem_of_getElem? (i := 24) rfl)) (hw _ (List.mem_of_getElem? (i := 3) rfl)) (by decide) (by decide)) q35a q35c (g := (mkF m 163 #[.val (.int p1), .val (.int p2), .val (.int p3), .val (.int p4), .val (.int p5), .val (.long p6), .second, .val (.int mo), .val (.int ss), .val (.int gw), .val (.int ff), .val (.ref q), .val (.int (1 : Int32)), .unset] [(.int p1), (.ref q)])) rfl (by rw [hml]; rfl) (Steps.refl _) (argsL := [(.int p1)]) (rest := []) (lenOf pd_rm0_1 rfl) rfl (by show 2 * 0 + _ ≤ _; exact Nat.le_of_eq rfl) (hb hby at_163) (fun _ _ => ⟨rfl, (rfl : T31.heap = T31.heap), (by decide : 5 + 1 ≤ _), (by decide : 31 + 8 ≤ _)⟩)
    dsimp only [Pt.U, Pt.locs, Pt.cells, Pt.slots] at X35 l35 y35 z35 st35 hQ35
    subst l35 y35 z35
    obtain ⟨rfl, N35q, I35⟩ := hQ35
    have N35 := Fr.app N31 N35q
    have pre35 : Steps p.tables e below _ (T35.setTop (mkF m 166 #[.val (.int p1), .val (.int p2), .val (.int p3), .val (.int p4), .val (.int p5), .val (.long p6), .second, .val (.int mo), .val (.int ss), .val (.int gw), .val (.int ff), .val (.ref q), .val (.int (1 : Int32)), .unset] [])) := pre34.trans (st35)
    have J35 : IQ Z n0 T35.heap q 1 (fun i => own_md [p1, p2, p3, p4, ff] (i + 0)) := IQ.next I35 rfl
    have pre36 : Steps p.tables e below _ (T35.setTop (mkF m 169 #[.val (.int p1), .val (.int p2), .val (.int p3), .val (.int p4), .val (.int p5), .val (.long p6), .second, .val (.int mo), .val (.int ss), .val (.int gw), .val (.int ff), .val (.ref q), .val (.int (1 : Int32)), .unset] [(.int p2), (.ref q)])) := pre35.trans (by
      show Steps p.tables e below (T35.setTop (mkF m 166 #[.val (.int p1), .val (.int p2), .val (.int p3), .val (.int p4), .val (.int p5), .val (.long p6), .second, .val (.int mo), .val (.int ss), .val (.int gw), .val (.int ff), .val (.ref q), .val (.int (1 : Int32)), .unset] [])) _
      refine XS.aload X35.here hx rfl (hb hby at_166) rfl rfl ?_
      show Steps p.tables e below (T35.setTop (mkF m 168 #[.val (.int p1), .val (.int p2), .val (.int p3), .val (.int p4), .val (.int p5), .val (.long p6), .second, .val (.int mo), .val (.int ss), .val (.int gw), .val (.int ff), .val (.ref q), .val (.int (1 : Int32)), .unset] [(.ref q)])) _
      refine XS.iloadN X35.here hx rfl (hb hby at_168) rfl ?_
      exact Steps.refl _)
    obtain ⟨cq37, kq37, q37a, q37b, q37c⟩ := isOf hZ (rfl : T35.heap = T35.heap) J35.exa
    obtain ⟨_, _, ⟨T37, L37, k37, n37⟩, -, X37, ⟨Lc37, hQ37, l37, y37, z37⟩, st37⟩ := X35.virtualBack hx (y := (⟨"com/example/trips_into_trajectories/tripsintotrajectories/simulation/IntQueue", "add", "(I)V"⟩ : MethodName)) (z := (⟨"com/example/trips_into_trajectories/tripsintotrajectories/simulation/IntQueue", "add", "(I)V"⟩ : MethodName)) hown (mvT hZ (hw _ (List.mem_of_getElem? (i := 20) rfl))) (mvT hZ (hw _ (List.mem_of_getElem? (i := 21) rfl))) (notFace_of_selects (args := #[]) (mvT hZ (hw _ (List.mem_of_getElem? (i := 23) rfl)))) (mvT hZ (hw _ (List.mem_of_getElem? (i := 23) rfl))) (mvT hZ (hw _ (List.mem_of_getElem? (i := 22) rfl))) (by decide) (backOf (W := 0) (rmD l Z a0 hw [] q p2 1 (fun i => own_md [p1, p2, p3, p4, ff] (i + 0)) T35.heap n0 J35.le J35 (by decide)) hZ (hw _ (List.mem_of_getElem? (i := 24) rfl)) (hw _ (List.mem_of_getElem? (i := 3) rfl)) (by decide) (by decide)) q37a q37c (g := (mkF m 169 #[.val (.int p1), .val (.int p2), .val (.int p3), .val (.int p4), .val (.int p5), .val (.long p6), .second, .val (.int mo), .val (.int ss), .val (.int gw), .val (.int ff), .val (.ref q), .val (.int (1 : Int32)), .unset] [(.int p2), (.ref q)])) rfl (by rw [hml]; rfl) (Steps.refl _) (argsL := [(.int p2)]) (rest := []) (lenOf pd_rm0_1 rfl) rfl (by show 2 * 0 + _ ≤ _; exact Nat.le_of_eq rfl) (hb hby at_169) (fun _ _ => ⟨rfl, (rfl : T35.heap = T35.heap), (by decide : 6 + 1 ≤ _), (by decide : 39 + 8 ≤ _)⟩)
    dsimp only [Pt.U, Pt.locs, Pt.cells, Pt.slots] at X37 l37 y37 z37 st37 hQ37
    subst l37 y37 z37
    obtain ⟨rfl, N37q, I37⟩ := hQ37
    have N37 := Fr.app N35 N37q
    have pre37 : Steps p.tables e below _ (T37.setTop (mkF m 172 #[.val (.int p1), .val (.int p2), .val (.int p3), .val (.int p4), .val (.int p5), .val (.long p6), .second, .val (.int mo), .val (.int ss), .val (.int gw), .val (.int ff), .val (.ref q), .val (.int (1 : Int32)), .unset] [])) := pre36.trans (st37)
    have J37 : IQ Z n0 T37.heap q 2 (fun i => own_md [p1, p2, p3, p4, ff] (i + 0)) := IQ.next I37 rfl
    have pre38 : Steps p.tables e below _ (T37.setTop (mkF m 175 #[.val (.int p1), .val (.int p2), .val (.int p3), .val (.int p4), .val (.int p5), .val (.long p6), .second, .val (.int mo), .val (.int ss), .val (.int gw), .val (.int ff), .val (.ref q), .val (.int (1 : Int32)), .unset] [(.int p3), (.ref q)])) := pre37.trans (by
      show Steps p.tables e below (T37.setTop (mkF m 172 #[.val (.int p1), .val (.int p2), .val (.int p3), .val (.int p4), .val (.int p5), .val (.long p6), .second, .val (.int mo), .val (.int ss), .val (.int gw), .val (.int ff), .val (.ref q), .val (.int (1 : Int32)), .unset] [])) _
      refine XS.aload X37.here hx rfl (hb hby at_172) rfl rfl ?_
      show Steps p.tables e below (T37.setTop (mkF m 174 #[.val (.int p1), .val (.int p2), .val (.int p3), .val (.int p4), .val (.int p5), .val (.long p6), .second, .val (.int mo), .val (.int ss), .val (.int gw), .val (.int ff), .val (.ref q), .val (.int (1 : Int32)), .unset] [(.ref q)])) _
      refine XS.iloadN X37.here hx rfl (hb hby at_174) rfl ?_
      exact Steps.refl _)
    obtain ⟨cq39, kq39, q39a, q39b, q39c⟩ := isOf hZ (rfl : T37.heap = T37.heap) J37.exa
    obtain ⟨_, _, ⟨T39, L39, k39, n39⟩, -, X39, ⟨Lc39, hQ39, l39, y39, z39⟩, st39⟩ := X37.virtualBack hx (y := (⟨"com/example/trips_into_trajectories/tripsintotrajectories/simulation/IntQueue", "add", "(I)V"⟩ : MethodName)) (z := (⟨"com/example/trips_into_trajectories/tripsintotrajectories/simulation/IntQueue", "add", "(I)V"⟩ : MethodName)) hown (mvT hZ (hw _ (List.mem_of_getElem? (i := 20) rfl))) (mvT hZ (hw _ (List.mem_of_getElem? (i := 21) rfl))) (notFace_of_selects (args := #[]) (mvT hZ (hw _ (List.mem_of_getElem? (i := 23) rfl)))) (mvT hZ (hw _ (List.mem_of_getElem? (i := 23) rfl))) (mvT hZ (hw _ (List.mem_of_getElem? (i := 22) rfl))) (by decide) (backOf (W := 0) (rmD l Z a0 hw [] q p3 2 (fun i => own_md [p1, p2, p3, p4, ff] (i + 0)) T37.heap n0 J37.le J37 (by decide)) hZ (hw _ (List.mem_of_getElem? (i := 24) rfl)) (hw _ (List.mem_of_getElem? (i := 3) rfl)) (by decide) (by decide)) q39a q39c (g := (mkF m 175 #[.val (.int p1), .val (.int p2), .val (.int p3), .val (.int p4), .val (.int p5), .val (.long p6), .second, .val (.int mo), .val (.int ss), .val (.int gw), .val (.int ff), .val (.ref q), .val (.int (1 : Int32)), .unset] [(.int p3), (.ref q)])) rfl (by rw [hml]; rfl) (Steps.refl _) (argsL := [(.int p3)]) (rest := []) (lenOf pd_rm0_1 rfl) rfl (by show 2 * 0 + _ ≤ _; exact Nat.le_of_eq rfl) (hb hby at_175) (fun _ _ => ⟨rfl, (rfl : T37.heap = T37.heap), (by decide : 7 + 1 ≤ _), (by decide : 47 + 8 ≤ _)⟩)
    dsimp only [Pt.U, Pt.locs, Pt.cells, Pt.slots] at X39 l39 y39 z39 st39 hQ39
    subst l39 y39 z39
    obtain ⟨rfl, N39q, I39⟩ := hQ39
    have N39 := Fr.app N37 N39q
    have pre39 : Steps p.tables e below _ (T39.setTop (mkF m 178 #[.val (.int p1), .val (.int p2), .val (.int p3), .val (.int p4), .val (.int p5), .val (.long p6), .second, .val (.int mo), .val (.int ss), .val (.int gw), .val (.int ff), .val (.ref q), .val (.int (1 : Int32)), .unset] [])) := pre38.trans (st39)
    have J39 : IQ Z n0 T39.heap q 3 (fun i => own_md [p1, p2, p3, p4, ff] (i + 0)) := IQ.next I39 rfl
    have pre40 : Steps p.tables e below _ (T39.setTop (mkF m 181 #[.val (.int p1), .val (.int p2), .val (.int p3), .val (.int p4), .val (.int p5), .val (.long p6), .second, .val (.int mo), .val (.int ss), .val (.int gw), .val (.int ff), .val (.ref q), .val (.int (1 : Int32)), .unset] [(.int p4), (.ref q)])) := pre39.trans (by
      show Steps p.tables e below (T39.setTop (mkF m 178 #[.val (.int p1), .val (.int p2), .val (.int p3), .val (.int p4), .val (.int p5), .val (.long p6), .second, .val (.int mo), .val (.int ss), .val (.int gw), .val (.int ff), .val (.ref q), .val (.int (1 : Int32)), .unset] [])) _
      refine XS.aload X39.here hx rfl (hb hby at_178) rfl rfl ?_
      show Steps p.tables e below (T39.setTop (mkF m 180 #[.val (.int p1), .val (.int p2), .val (.int p3), .val (.int p4), .val (.int p5), .val (.long p6), .second, .val (.int mo), .val (.int ss), .val (.int gw), .val (.int ff), .val (.ref q), .val (.int (1 : Int32)), .unset] [(.ref q)])) _
      refine XS.iloadN X39.here hx rfl (hb hby at_180) rfl ?_
      exact Steps.refl _)
    obtain ⟨cq41, kq41, q41a, q41b, q41c⟩ := isOf hZ (rfl : T39.heap = T39.heap) J39.exa
    obtain ⟨_, _, ⟨T41, L41, k41, n41⟩, -, X41, ⟨Lc41, hQ41, l41, y41, z41⟩, st41⟩ := X39.virtualBack hx (y := (⟨"com/example/trips_into_trajectories/tripsintotrajectories/simulation/IntQueue", "add", "(I)V"⟩ : MethodName)) (z := (⟨"com/example/trips_into_trajectories/tripsintotrajectories/simulation/IntQueue", "add", "(I)V"⟩ : MethodName)) hown (mvT hZ (hw _ (List.mem_of_getElem? (i := 20) rfl))) (mvT hZ (hw _ (List.mem_of_getElem? (i := 21) rfl))) (notFace_of_selects (args := #[]) (mvT hZ (hw _ (List.mem_of_getElem? (i := 23) rfl)))) (mvT hZ (hw _ (List.mem_of_getElem? (i := 23) rfl))) (mvT hZ (hw _ (List.mem_of_getElem? (i := 22) rfl))) (by decide) (backOf (W := 0) (rmD l Z a0 hw [] q p4 3 (fun i => own_md [p1, p2, p3, p4, ff] (i + 0)) T39.heap n0 J39.le J39 (by decide)) hZ (hw _ (List.mem_of_getElem? (i := 24) rfl)) (hw _ (List.mem_of_getElem? (i := 3) rfl)) (by decide) (by decide)) q41a q41c (g := (mkF m 181 #[.val (.int p1), .val (.int p2), .val (.int p3), .val (.int p4), .val (.int p5), .val (.long p6), .second, .val (.int mo), .val (.int ss), .val (.int gw), .val (.int ff), .val (.ref q), .val (.int (1 : Int32)), .unset] [(.int p4), (.ref q)])) rfl (by rw [hml]; rfl) (Steps.refl _) (argsL := [(.int p4)]) (rest := []) (lenOf pd_rm0_1 rfl) rfl (by show 2 * 0 + _ ≤ _; exact Nat.le_of_eq rfl) (hb hby at_181) (fun _ _ => ⟨rfl, (rfl : T39.heap = T39.heap), (by decide : 8 + 1 ≤ _), (by decide : 55 + 8 ≤ _)⟩)
    dsimp only [Pt.U, Pt.locs, Pt.cells, Pt.slots] at X41 l41 y41 z41 st41 hQ41
    subst l41 y41 z41
    obtain ⟨rfl, N41q, I41⟩ := hQ41
    have N41 := Fr.app N39 N41q
    have pre41 : Steps p.tables e below _ (T41.setTop (mkF m 184 #[.val (.int p1), .val (.int p2), .val (.int p3), .val (.int p4), .val (.int p5), .val (.long p6), .second, .val (.int mo), .val (.int ss), .val (.int gw), .val (.int ff), .val (.ref q), .val (.int (1 : Int32)), .unset] [])) := pre40.trans (st41)
    have J41 : IQ Z n0 T41.heap q 4 (fun i => own_md [p1, p2, p3, p4, ff] (i + 0)) := IQ.next I41 rfl
    have pre42 : Steps p.tables e below _ (T41.setTop (mkF m 212 #[.val (.int p1), .val (.int p2), .val (.int p3), .val (.int p4), .val (.int p5), .val (.long p6), .second, .val (.int mo), .val (.int ss), .val (.int gw), .val (.int ff), .val (.ref q), .val (.int (1 : Int32)), .val (.int (4 : Int32))] [(.ref q), (.int (1 : Int32))])) := pre41.trans (by
      show Steps p.tables e below (T41.setTop (mkF m 184 #[.val (.int p1), .val (.int p2), .val (.int p3), .val (.int p4), .val (.int p5), .val (.long p6), .second, .val (.int mo), .val (.int ss), .val (.int gw), .val (.int ff), .val (.ref q), .val (.int (1 : Int32)), .unset] [])) _
      refine XS.iload X41.here hx rfl (hb hby at_184) rfl ?_
      show Steps p.tables e below (T41.setTop (mkF m 186 #[.val (.int p1), .val (.int p2), .val (.int p3), .val (.int p4), .val (.int p5), .val (.long p6), .second, .val (.int mo), .val (.int ss), .val (.int gw), .val (.int ff), .val (.ref q), .val (.int (1 : Int32)), .unset] [(.int gw)])) _
      refine XS.ifYes X41.here hx rfl (pc0 := 186) (pc' := 196) rfl (hb hby at_186) rfl ((if0 _ _).trans (teq hgw).1) (by decide) (by decide) ?_
      show Steps p.tables e below (T41.setTop (mkF m 196 #[.val (.int p1), .val (.int p2), .val (.int p3), .val (.int p4), .val (.int p5), .val (.long p6), .second, .val (.int mo), .val (.int ss), .val (.int gw), .val (.int ff), .val (.ref q), .val (.int (1 : Int32)), .unset] [])) _
      refine XS.iload X41.here hx rfl (hb hby at_196) rfl ?_
      show Steps p.tables e below (T41.setTop (mkF m 198 #[.val (.int p1), .val (.int p2), .val (.int p3), .val (.int p4), .val (.int p5), .val (.long p6), .second, .val (.int mo), .val (.int ss), .val (.int gw), .val (.int ff), .val (.ref q), .val (.int (1 : Int32)), .unset] [(.int gw)])) _
      refine XS.ifYes X41.here hx rfl (pc0 := 198) (pc' := 205) rfl (hb hby at_198) rfl ((if0 _ _).trans (teq hgw).1) (by decide) (by decide) ?_
      show Steps p.tables e below (T41.setTop (mkF m 205 #[.val (.int p1), .val (.int p2), .val (.int p3), .val (.int p4), .val (.int p5), .val (.long p6), .second, .val (.int mo), .val (.int ss), .val (.int gw), .val (.int ff), .val (.ref q), .val (.int (1 : Int32)), .unset] [])) _
      refine XS.iconst X41.here hx rfl (hb hby at_205) ?_
      show Steps p.tables e below (T41.setTop (mkF m 206 #[.val (.int p1), .val (.int p2), .val (.int p3), .val (.int p4), .val (.int p5), .val (.long p6), .second, .val (.int mo), .val (.int ss), .val (.int gw), .val (.int ff), .val (.ref q), .val (.int (1 : Int32)), .unset] [(.int (4 : Int32))])) _
      refine XS.istore X41.here hx rfl (hb hby at_206) rfl (l' := #[.val (.int p1), .val (.int p2), .val (.int p3), .val (.int p4), .val (.int p5), .val (.long p6), .second, .val (.int mo), .val (.int ss), .val (.int gw), .val (.int ff), .val (.ref q), .val (.int (1 : Int32)), .val (.int (4 : Int32))]) rfl ?_
      show Steps p.tables e below (T41.setTop (mkF m 208 #[.val (.int p1), .val (.int p2), .val (.int p3), .val (.int p4), .val (.int p5), .val (.long p6), .second, .val (.int mo), .val (.int ss), .val (.int gw), .val (.int ff), .val (.ref q), .val (.int (1 : Int32)), .val (.int (4 : Int32))] [])) _
      refine XS.iload X41.here hx rfl (hb hby at_208) rfl ?_
      show Steps p.tables e below (T41.setTop (mkF m 210 #[.val (.int p1), .val (.int p2), .val (.int p3), .val (.int p4), .val (.int p5), .val (.long p6), .second, .val (.int mo), .val (.int ss), .val (.int gw), .val (.int ff), .val (.ref q), .val (.int (1 : Int32)), .val (.int (4 : Int32))] [(.int (1 : Int32))])) _
      refine XS.aload X41.here hx rfl (hb hby at_210) rfl rfl ?_
      exact Steps.refl _)
    obtain ⟨cq43, kq43, q43a, q43b, q43c⟩ := isOf hZ (rfl : T41.heap = T41.heap) J41.exa
    obtain ⟨_, _, ⟨T43, L43, k43, n43⟩, -, X43, ⟨Lc43, hQ43, l43, y43, z43⟩, st43⟩ := X41.virtualBack hx (y := (⟨"com/example/trips_into_trajectories/tripsintotrajectories/simulation/IntQueue", "poll", "()I"⟩ : MethodName)) (z := (⟨"com/example/trips_into_trajectories/tripsintotrajectories/simulation/IntQueue", "poll", "()I"⟩ : MethodName)) hown (mvT hZ (hw _ (List.mem_of_getElem? (i := 27) rfl))) (mvT hZ (hw _ (List.mem_of_getElem? (i := 28) rfl))) (notFace_of_selects (args := #[]) (mvT hZ (hw _ (List.mem_of_getElem? (i := 30) rfl)))) (mvT hZ (hw _ (List.mem_of_getElem? (i := 30) rfl))) (mvT hZ (hw _ (List.mem_of_getElem? (i := 29) rfl))) (by decide) (backOf (W := 1) (rmP l Z a0 hw [] q 3 (fun i => own_md [p1, p2, p3, p4, ff] (i + 0)) T41.heap n0 J41.le J41) hZ (hw _ (List.mem_of_getElem? (i := 31) rfl)) (hw _ (List.mem_of_getElem? (i := 3) rfl)) (by decide) (by decide)) q43a q43c (g := (mkF m 212 #[.val (.int p1), .val (.int p2), .val (.int p3), .val (.int p4), .val (.int p5), .val (.long p6), .second, .val (.int mo), .val (.int ss), .val (.int gw), .val (.int ff), .val (.ref q), .val (.int (1 : Int32)), .val (.int (4 : Int32))] [(.ref q), (.int (1 : Int32))])) rfl (by rw [hml]; rfl) (Steps.refl _) (argsL := []) (rest := [(.int (1 : Int32))]) (lenOf pd_rm0_2 rfl) rfl (by show 2 * 0 + _ ≤ _; exact Nat.le_of_eq rfl) (hb hby at_212) (fun _ _ => ⟨rfl, (rfl : T41.heap = T41.heap), (by decide : 9 + 0 ≤ _), (by decide : 63 + 0 ≤ _)⟩)
    dsimp only [Pt.U, Pt.locs, Pt.cells, Pt.slots] at X43 l43 y43 z43 st43 hQ43
    subst l43 y43 z43
    obtain ⟨rfl, N43q, I43⟩ := hQ43
    have N43 := Fr.app N41 N43q
    have pre43 : Steps p.tables e below _ (T43.setTop (mkF m 215 #[.val (.int p1), .val (.int p2), .val (.int p3), .val (.int p4), .val (.int p5), .val (.long p6), .second, .val (.int mo), .val (.int ss), .val (.int gw), .val (.int ff), .val (.ref q), .val (.int (1 : Int32)), .val (.int (4 : Int32))] [(.int p1), (.int (1 : Int32))])) := pre42.trans (st43)
    have J43 : IQ Z n0 T43.heap q 3 (fun i => own_md [p1, p2, p3, p4, ff] (i + 1)) := IQ.less I43
    have pre44 : Steps p.tables e below _ (T43.setTop (mkF m 225 #[.val (.int p1), .val (.int p2), .val (.int p3), .val (.int p4), .val (.int p5), .val (.long p6), .second, .val (.int mo), .val (.int ss), .val (.int gw), .val (.int ff), .val (.ref q), .val (.int (1 : Int32)), .val (.int (4 : Int32))] [(.int ((1 : Int32) &&& (1 : Int32)))])) := pre43.trans (by
      show Steps p.tables e below (T43.setTop (mkF m 215 #[.val (.int p1), .val (.int p2), .val (.int p3), .val (.int p4), .val (.int p5), .val (.long p6), .second, .val (.int mo), .val (.int ss), .val (.int gw), .val (.int ff), .val (.ref q), .val (.int (1 : Int32)), .val (.int (4 : Int32))] [(.int p1), (.int (1 : Int32))])) _
      refine XS.iloadN X43.here hx rfl (hb hby at_215) rfl ?_
      show Steps p.tables e below (T43.setTop (mkF m 216 #[.val (.int p1), .val (.int p2), .val (.int p3), .val (.int p4), .val (.int p5), .val (.long p6), .second, .val (.int mo), .val (.int ss), .val (.int gw), .val (.int ff), .val (.ref q), .val (.int (1 : Int32)), .val (.int (4 : Int32))] [(.int p1), (.int p1), (.int (1 : Int32))])) _
      refine XS.icmpNo X43.here hx rfl (hb hby at_216) rfl (teq (rfl : p1 = p1)).2 ?_
      show Steps p.tables e below (T43.setTop (mkF m 219 #[.val (.int p1), .val (.int p2), .val (.int p3), .val (.int p4), .val (.int p5), .val (.long p6), .second, .val (.int mo), .val (.int ss), .val (.int gw), .val (.int ff), .val (.ref q), .val (.int (1 : Int32)), .val (.int (4 : Int32))] [(.int (1 : Int32))])) _
      refine XS.iconst X43.here hx rfl (hb hby at_219) ?_
      show Steps p.tables e below (T43.setTop (mkF m 220 #[.val (.int p1), .val (.int p2), .val (.int p3), .val (.int p4), .val (.int p5), .val (.long p6), .second, .val (.int mo), .val (.int ss), .val (.int gw), .val (.int ff), .val (.ref q), .val (.int (1 : Int32)), .val (.int (4 : Int32))] [(.int (1 : Int32)), (.int (1 : Int32))])) _
      refine XS.goto X43.here hx rfl (pc0 := 220) (pc' := 224) rfl (hb hby at_220) (by decide) (by decide) ?_
      show Steps p.tables e below (T43.setTop (mkF m 224 #[.val (.int p1), .val (.int p2), .val (.int p3), .val (.int p4), .val (.int p5), .val (.long p6), .second, .val (.int mo), .val (.int ss), .val (.int gw), .val (.int ff), .val (.ref q), .val (.int (1 : Int32)), .val (.int (4 : Int32))] [(.int (1 : Int32)), (.int (1 : Int32))])) _
      refine XS.iand X43.here hx rfl (hb hby at_224) rfl ?_
      exact Steps.refl _)
    rw [e111] at pre44
    have pre45 : Steps p.tables e below _ (T43.setTop (mkF m 231 #[.val (.int p1), .val (.int p2), .val (.int p3), .val (.int p4), .val (.int p5), .val (.long p6), .second, .val (.int mo), .val (.int ss), .val (.int gw), .val (.int ff), .val (.ref q), .val (.int (1 : Int32)), .val (.int (4 : Int32))] [(.ref q), (.int (1 : Int32))])) := pre44.trans (by
      show Steps p.tables e below (T43.setTop (mkF m 225 #[.val (.int p1), .val (.int p2), .val (.int p3), .val (.int p4), .val (.int p5), .val (.long p6), .second, .val (.int mo), .val (.int ss), .val (.int gw), .val (.int ff), .val (.ref q), .val (.int (1 : Int32)), .val (.int (4 : Int32))] [(.int (1 : Int32))])) _
      refine XS.istore X43.here hx rfl (hb hby at_225) rfl (l' := #[.val (.int p1), .val (.int p2), .val (.int p3), .val (.int p4), .val (.int p5), .val (.long p6), .second, .val (.int mo), .val (.int ss), .val (.int gw), .val (.int ff), .val (.ref q), .val (.int (1 : Int32)), .val (.int (4 : Int32))]) rfl ?_
      show Steps p.tables e below (T43.setTop (mkF m 227 #[.val (.int p1), .val (.int p2), .val (.int p3), .val (.int p4), .val (.int p5), .val (.long p6), .second, .val (.int mo), .val (.int ss), .val (.int gw), .val (.int ff), .val (.ref q), .val (.int (1 : Int32)), .val (.int (4 : Int32))] [])) _
      refine XS.iload X43.here hx rfl (hb hby at_227) rfl ?_
      show Steps p.tables e below (T43.setTop (mkF m 229 #[.val (.int p1), .val (.int p2), .val (.int p3), .val (.int p4), .val (.int p5), .val (.long p6), .second, .val (.int mo), .val (.int ss), .val (.int gw), .val (.int ff), .val (.ref q), .val (.int (1 : Int32)), .val (.int (4 : Int32))] [(.int (1 : Int32))])) _
      refine XS.aload X43.here hx rfl (hb hby at_229) rfl rfl ?_
      exact Steps.refl _)
    obtain ⟨cq46, kq46, q46a, q46b, q46c⟩ := isOf hZ (rfl : T43.heap = T43.heap) J43.exa
    obtain ⟨_, _, ⟨T46, L46, k46, n46⟩, -, X46, ⟨Lc46, hQ46, l46, y46, z46⟩, st46⟩ := X43.virtualBack hx (y := (⟨"com/example/trips_into_trajectories/tripsintotrajectories/simulation/IntQueue", "size", "()I"⟩ : MethodName)) (z := (⟨"com/example/trips_into_trajectories/tripsintotrajectories/simulation/IntQueue", "size", "()I"⟩ : MethodName)) hown (mvT hZ (hw _ (List.mem_of_getElem? (i := 13) rfl))) (mvT hZ (hw _ (List.mem_of_getElem? (i := 14) rfl))) (notFace_of_selects (args := #[]) (mvT hZ (hw _ (List.mem_of_getElem? (i := 16) rfl)))) (mvT hZ (hw _ (List.mem_of_getElem? (i := 16) rfl))) (mvT hZ (hw _ (List.mem_of_getElem? (i := 15) rfl))) (by decide) (backOf (W := 1) (rmS l Z a0 hw [] q 3 (fun i => own_md [p1, p2, p3, p4, ff] (i + 1)) T43.heap n0 J43.le J43) hZ (hw _ (List.mem_of_getElem? (i := 17) rfl)) (hw _ (List.mem_of_getElem? (i := 3) rfl)) (by decide) (by decide)) q46a q46c (g := (mkF m 231 #[.val (.int p1), .val (.int p2), .val (.int p3), .val (.int p4), .val (.int p5), .val (.long p6), .second, .val (.int mo), .val (.int ss), .val (.int gw), .val (.int ff), .val (.ref q), .val (.int (1 : Int32)), .val (.int (4 : Int32))] [(.ref q), (.int (1 : Int32))])) rfl (by rw [hml]; rfl) (Steps.refl _) (argsL := []) (rest := [(.int (1 : Int32))]) (lenOf pd_rm0_2 rfl) rfl (by show 2 * 0 + _ ≤ _; exact Nat.le_of_eq rfl) (hb hby at_231) (fun _ _ => ⟨rfl, (rfl : T43.heap = T43.heap), (by decide : 9 + 0 ≤ _), (by decide : 63 + 0 ≤ _)⟩)
    dsimp only [Pt.U, Pt.locs, Pt.cells, Pt.slots] at X46 l46 y46 z46 st46 hQ46
    subst l46 y46 z46
    obtain ⟨rfl, N46q, hh46⟩ := hQ46
    have N46 := Fr.app N43 N46q
    have pre46 : Steps p.tables e below _ (T46.setTop (mkF m 234 #[.val (.int p1), .val (.int p2), .val (.int p3), .val (.int p4), .val (.int p5), .val (.long p6), .second, .val (.int mo), .val (.int ss), .val (.int gw), .val (.int ff), .val (.ref q), .val (.int (1 : Int32)), .val (.int (4 : Int32))] [(.int (Int32.ofNat 3)), (.int (1 : Int32))])) := pre45.trans (st46)
    have J46 : IQ Z n0 T46.heap q 3 (fun i => own_md [p1, p2, p3, p4, ff] (i + 1)) := by rw [hh46]; exact J43
    have pre47 : Steps p.tables e below _ (T46.setTop (mkF m 247 #[.val (.int p1), .val (.int p2), .val (.int p3), .val (.int p4), .val (.int p5), .val (.long p6), .second, .val (.int mo), .val (.int ss), .val (.int gw), .val (.int ff), .val (.ref q), .val (.int (1 : Int32)), .val (.int (4 : Int32))] [(.int ((1 : Int32) &&& (1 : Int32)))])) := pre46.trans (by
      show Steps p.tables e below (T46.setTop (mkF m 234 #[.val (.int p1), .val (.int p2), .val (.int p3), .val (.int p4), .val (.int p5), .val (.long p6), .second, .val (.int mo), .val (.int ss), .val (.int gw), .val (.int ff), .val (.ref q), .val (.int (1 : Int32)), .val (.int (4 : Int32))] [(.int (Int32.ofNat 3)), (.int (1 : Int32))])) _
      refine XS.iload X46.here hx rfl (hb hby at_234) rfl ?_
      show Steps p.tables e below (T46.setTop (mkF m 236 #[.val (.int p1), .val (.int p2), .val (.int p3), .val (.int p4), .val (.int p5), .val (.long p6), .second, .val (.int mo), .val (.int ss), .val (.int gw), .val (.int ff), .val (.ref q), .val (.int (1 : Int32)), .val (.int (4 : Int32))] [(.int (4 : Int32)), (.int (Int32.ofNat 3)), (.int (1 : Int32))])) _
      refine XS.iconst X46.here hx rfl (hb hby at_236) ?_
      show Steps p.tables e below (T46.setTop (mkF m 237 #[.val (.int p1), .val (.int p2), .val (.int p3), .val (.int p4), .val (.int p5), .val (.long p6), .second, .val (.int mo), .val (.int ss), .val (.int gw), .val (.int ff), .val (.ref q), .val (.int (1 : Int32)), .val (.int (4 : Int32))] [(.int (1 : Int32)), (.int (4 : Int32)), (.int (Int32.ofNat 3)), (.int (1 : Int32))])) _
      refine XS.isub X46.here hx rfl (hb hby at_237) rfl ?_
      show Steps p.tables e below (T46.setTop (mkF m 238 #[.val (.int p1), .val (.int p2), .val (.int p3), .val (.int p4), .val (.int p5), .val (.long p6), .second, .val (.int mo), .val (.int ss), .val (.int gw), .val (.int ff), .val (.ref q), .val (.int (1 : Int32)), .val (.int (4 : Int32))] [(.int ((4 : Int32) - (1 : Int32))), (.int (Int32.ofNat 3)), (.int (1 : Int32))])) _
      refine XS.icmpNo X46.here hx rfl (hb hby at_238) rfl (teq (by decide : Int32.ofNat 3 = ((4 : Int32) - (1 : Int32)))).2 ?_
      show Steps p.tables e below (T46.setTop (mkF m 241 #[.val (.int p1), .val (.int p2), .val (.int p3), .val (.int p4), .val (.int p5), .val (.long p6), .second, .val (.int mo), .val (.int ss), .val (.int gw), .val (.int ff), .val (.ref q), .val (.int (1 : Int32)), .val (.int (4 : Int32))] [(.int (1 : Int32))])) _
      refine XS.iconst X46.here hx rfl (hb hby at_241) ?_
      show Steps p.tables e below (T46.setTop (mkF m 242 #[.val (.int p1), .val (.int p2), .val (.int p3), .val (.int p4), .val (.int p5), .val (.long p6), .second, .val (.int mo), .val (.int ss), .val (.int gw), .val (.int ff), .val (.ref q), .val (.int (1 : Int32)), .val (.int (4 : Int32))] [(.int (1 : Int32)), (.int (1 : Int32))])) _
      refine XS.goto X46.here hx rfl (pc0 := 242) (pc' := 246) rfl (hb hby at_242) (by decide) (by decide) ?_
      show Steps p.tables e below (T46.setTop (mkF m 246 #[.val (.int p1), .val (.int p2), .val (.int p3), .val (.int p4), .val (.int p5), .val (.long p6), .second, .val (.int mo), .val (.int ss), .val (.int gw), .val (.int ff), .val (.ref q), .val (.int (1 : Int32)), .val (.int (4 : Int32))] [(.int (1 : Int32)), (.int (1 : Int32))])) _
      refine XS.iand X46.here hx rfl (hb hby at_246) rfl ?_
      exact Steps.refl _)
    rw [e111] at pre47
    have pre48 : Steps p.tables e below _ (T46.setTop (mkF m 253 #[.val (.int p1), .val (.int p2), .val (.int p3), .val (.int p4), .val (.int p5), .val (.long p6), .second, .val (.int mo), .val (.int ss), .val (.int gw), .val (.int ff), .val (.ref q), .val (.int (1 : Int32)), .val (.int (4 : Int32))] [(.ref q), (.int (1 : Int32))])) := pre47.trans (by
      show Steps p.tables e below (T46.setTop (mkF m 247 #[.val (.int p1), .val (.int p2), .val (.int p3), .val (.int p4), .val (.int p5), .val (.long p6), .second, .val (.int mo), .val (.int ss), .val (.int gw), .val (.int ff), .val (.ref q), .val (.int (1 : Int32)), .val (.int (4 : Int32))] [(.int (1 : Int32))])) _
      refine XS.istore X46.here hx rfl (hb hby at_247) rfl (l' := #[.val (.int p1), .val (.int p2), .val (.int p3), .val (.int p4), .val (.int p5), .val (.long p6), .second, .val (.int mo), .val (.int ss), .val (.int gw), .val (.int ff), .val (.ref q), .val (.int (1 : Int32)), .val (.int (4 : Int32))]) rfl ?_
      show Steps p.tables e below (T46.setTop (mkF m 249 #[.val (.int p1), .val (.int p2), .val (.int p3), .val (.int p4), .val (.int p5), .val (.long p6), .second, .val (.int mo), .val (.int ss), .val (.int gw), .val (.int ff), .val (.ref q), .val (.int (1 : Int32)), .val (.int (4 : Int32))] [])) _
      refine XS.iload X46.here hx rfl (hb hby at_249) rfl ?_
      show Steps p.tables e below (T46.setTop (mkF m 251 #[.val (.int p1), .val (.int p2), .val (.int p3), .val (.int p4), .val (.int p5), .val (.long p6), .second, .val (.int mo), .val (.int ss), .val (.int gw), .val (.int ff), .val (.ref q), .val (.int (1 : Int32)), .val (.int (4 : Int32))] [(.int (1 : Int32))])) _
      refine XS.aload X46.here hx rfl (hb hby at_251) rfl rfl ?_
      exact Steps.refl _)
    obtain ⟨cq49, kq49, q49a, q49b, q49c⟩ := isOf hZ (rfl : T46.heap = T46.heap) J46.exa
    obtain ⟨_, _, ⟨T49, L49, k49, n49⟩, -, X49, ⟨Lc49, hQ49, l49, y49, z49⟩, st49⟩ := X46.virtualBack hx (y := (⟨"com/example/trips_into_trajectories/tripsintotrajectories/simulation/IntQueue", "poll", "()I"⟩ : MethodName)) (z := (⟨"com/example/trips_into_trajectories/tripsintotrajectories/simulation/IntQueue", "poll", "()I"⟩ : MethodName)) hown (mvT hZ (hw _ (List.mem_of_getElem? (i := 27) rfl))) (mvT hZ (hw _ (List.mem_of_getElem? (i := 28) rfl))) (notFace_of_selects (args := #[]) (mvT hZ (hw _ (List.mem_of_getElem? (i := 30) rfl)))) (mvT hZ (hw _ (List.mem_of_getElem? (i := 30) rfl))) (mvT hZ (hw _ (List.mem_of_getElem? (i := 29) rfl))) (by decide) (backOf (W := 1) (rmP l Z a0 hw [] q 2 (fun i => own_md [p1, p2, p3, p4, ff] (i + 1)) T46.heap n0 J46.le J46) hZ (hw _ (List.mem_of_getElem? (i := 31) rfl)) (hw _ (List.mem_of_getElem? (i := 3) rfl)) (by decide) (by decide)) q49a q49c (g := (mkF m 253 #[.val (.int p1), .val (.int p2), .val (.int p3), .val (.int p4), .val (.int p5), .val (.long p6), .second, .val (.int mo), .val (.int ss), .val (.int gw), .val (.int ff), .val (.ref q), .val (.int (1 : Int32)), .val (.int (4 : Int32))] [(.ref q), (.int (1 : Int32))])) rfl (by rw [hml]; rfl) (Steps.refl _) (argsL := []) (rest := [(.int (1 : Int32))]) (lenOf pd_rm0_2 rfl) rfl (by show 2 * 0 + _ ≤ _; exact Nat.le_of_eq rfl) (hb hby at_253) (fun _ _ => ⟨rfl, (rfl : T46.heap = T46.heap), (by decide : 9 + 0 ≤ _), (by decide : 63 + 0 ≤ _)⟩)
    dsimp only [Pt.U, Pt.locs, Pt.cells, Pt.slots] at X49 l49 y49 z49 st49 hQ49
    subst l49 y49 z49
    obtain ⟨rfl, N49q, I49⟩ := hQ49
    have N49 := Fr.app N46 N49q
    have pre49 : Steps p.tables e below _ (T49.setTop (mkF m 256 #[.val (.int p1), .val (.int p2), .val (.int p3), .val (.int p4), .val (.int p5), .val (.long p6), .second, .val (.int mo), .val (.int ss), .val (.int gw), .val (.int ff), .val (.ref q), .val (.int (1 : Int32)), .val (.int (4 : Int32))] [(.int p2), (.int (1 : Int32))])) := pre48.trans (st49)
    have J49 : IQ Z n0 T49.heap q 2 (fun i => own_md [p1, p2, p3, p4, ff] (i + 2)) := IQ.less I49
    have pre50 : Steps p.tables e below _ (T49.setTop (mkF m 266 #[.val (.int p1), .val (.int p2), .val (.int p3), .val (.int p4), .val (.int p5), .val (.long p6), .second, .val (.int mo), .val (.int ss), .val (.int gw), .val (.int ff), .val (.ref q), .val (.int (1 : Int32)), .val (.int (4 : Int32))] [(.int ((1 : Int32) &&& (1 : Int32)))])) := pre49.trans (by
      show Steps p.tables e below (T49.setTop (mkF m 256 #[.val (.int p1), .val (.int p2), .val (.int p3), .val (.int p4), .val (.int p5), .val (.long p6), .second, .val (.int mo), .val (.int ss), .val (.int gw), .val (.int ff), .val (.ref q), .val (.int (1 : Int32)), .val (.int (4 : Int32))] [(.int p2), (.int (1 : Int32))])) _
      refine XS.iloadN X49.here hx rfl (hb hby at_256) rfl ?_
      show Steps p.tables e below (T49.setTop (mkF m 257 #[.val (.int p1), .val (.int p2), .val (.int p3), .val (.int p4), .val (.int p5), .val (.long p6), .second, .val (.int mo), .val (.int ss), .val (.int gw), .val (.int ff), .val (.ref q), .val (.int (1 : Int32)), .val (.int (4 : Int32))] [(.int p2), (.int p2), (.int (1 : Int32))])) _
      refine XS.icmpNo X49.here hx rfl (hb hby at_257) rfl (teq (rfl : p2 = p2)).2 ?_
      show Steps p.tables e below (T49.setTop (mkF m 260 #[.val (.int p1), .val (.int p2), .val (.int p3), .val (.int p4), .val (.int p5), .val (.long p6), .second, .val (.int mo), .val (.int ss), .val (.int gw), .val (.int ff), .val (.ref q), .val (.int (1 : Int32)), .val (.int (4 : Int32))] [(.int (1 : Int32))])) _
      refine XS.iconst X49.here hx rfl (hb hby at_260) ?_
      show Steps p.tables e below (T49.setTop (mkF m 261 #[.val (.int p1), .val (.int p2), .val (.int p3), .val (.int p4), .val (.int p5), .val (.long p6), .second, .val (.int mo), .val (.int ss), .val (.int gw), .val (.int ff), .val (.ref q), .val (.int (1 : Int32)), .val (.int (4 : Int32))] [(.int (1 : Int32)), (.int (1 : Int32))])) _
      refine XS.goto X49.here hx rfl (pc0 := 261) (pc' := 265) rfl (hb hby at_261) (by decide) (by decide) ?_
      show Steps p.tables e below (T49.setTop (mkF m 265 #[.val (.int p1), .val (.int p2), .val (.int p3), .val (.int p4), .val (.int p5), .val (.long p6), .second, .val (.int mo), .val (.int ss), .val (.int gw), .val (.int ff), .val (.ref q), .val (.int (1 : Int32)), .val (.int (4 : Int32))] [(.int (1 : Int32)), (.int (1 : Int32))])) _
      refine XS.iand X49.here hx rfl (hb hby at_265) rfl ?_
      exact Steps.refl _)
    rw [e111] at pre50
    have pre51 : Steps p.tables e below _ (T49.setTop (mkF m 272 #[.val (.int p1), .val (.int p2), .val (.int p3), .val (.int p4), .val (.int p5), .val (.long p6), .second, .val (.int mo), .val (.int ss), .val (.int gw), .val (.int ff), .val (.ref q), .val (.int (1 : Int32)), .val (.int (4 : Int32))] [(.ref q), (.int (1 : Int32))])) := pre50.trans (by
      show Steps p.tables e below (T49.setTop (mkF m 266 #[.val (.int p1), .val (.int p2), .val (.int p3), .val (.int p4), .val (.int p5), .val (.long p6), .second, .val (.int mo), .val (.int ss), .val (.int gw), .val (.int ff), .val (.ref q), .val (.int (1 : Int32)), .val (.int (4 : Int32))] [(.int (1 : Int32))])) _
      refine XS.istore X49.here hx rfl (hb hby at_266) rfl (l' := #[.val (.int p1), .val (.int p2), .val (.int p3), .val (.int p4), .val (.int p5), .val (.long p6), .second, .val (.int mo), .val (.int ss), .val (.int gw), .val (.int ff), .val (.ref q), .val (.int (1 : Int32)), .val (.int (4 : Int32))]) rfl ?_
      show Steps p.tables e below (T49.setTop (mkF m 268 #[.val (.int p1), .val (.int p2), .val (.int p3), .val (.int p4), .val (.int p5), .val (.long p6), .second, .val (.int mo), .val (.int ss), .val (.int gw), .val (.int ff), .val (.ref q), .val (.int (1 : Int32)), .val (.int (4 : Int32))] [])) _
      refine XS.iload X49.here hx rfl (hb hby at_268) rfl ?_
      show Steps p.tables e below (T49.setTop (mkF m 270 #[.val (.int p1), .val (.int p2), .val (.int p3), .val (.int p4), .val (.int p5), .val (.long p6), .second, .val (.int mo), .val (.int ss), .val (.int gw), .val (.int ff), .val (.ref q), .val (.int (1 : Int32)), .val (.int (4 : Int32))] [(.int (1 : Int32))])) _
      refine XS.aload X49.here hx rfl (hb hby at_270) rfl rfl ?_
      exact Steps.refl _)
    obtain ⟨cq52, kq52, q52a, q52b, q52c⟩ := isOf hZ (rfl : T49.heap = T49.heap) J49.exa
    obtain ⟨_, _, ⟨T52, L52, k52, n52⟩, -, X52, ⟨Lc52, hQ52, l52, y52, z52⟩, st52⟩ := X49.virtualBack hx (y := (⟨"com/example/trips_into_trajectories/tripsintotrajectories/simulation/IntQueue", "size", "()I"⟩ : MethodName)) (z := (⟨"com/example/trips_into_trajectories/tripsintotrajectories/simulation/IntQueue", "size", "()I"⟩ : MethodName)) hown (mvT hZ (hw _ (List.mem_of_getElem? (i := 13) rfl))) (mvT hZ (hw _ (List.mem_of_getElem? (i := 14) rfl))) (notFace_of_selects (args := #[]) (mvT hZ (hw _ (List.mem_of_getElem? (i := 16) rfl)))) (mvT hZ (hw _ (List.mem_of_getElem? (i := 16) rfl))) (mvT hZ (hw _ (List.mem_of_getElem? (i := 15) rfl))) (by decide) (backOf (W := 1) (rmS l Z a0 hw [] q 2 (fun i => own_md [p1, p2, p3, p4, ff] (i + 2)) T49.heap n0 J49.le J49) hZ (hw _ (List.mem_of_getElem? (i := 17) rfl)) (hw _ (List.mem_of_getElem? (i := 3) rfl)) (by decide) (by decide)) q52a q52c (g := (mkF m 272 #[.val (.int p1), .val (.int p2), .val (.int p3), .val (.int p4), .val (.int p5), .val (.long p6), .second, .val (.int mo), .val (.int ss), .val (.int gw), .val (.int ff), .val (.ref q), .val (.int (1 : Int32)), .val (.int (4 : Int32))] [(.ref q), (.int (1 : Int32))])) rfl (by rw [hml]; rfl) (Steps.refl _) (argsL := []) (rest := [(.int (1 : Int32))]) (lenOf pd_rm0_2 rfl) rfl (by show 2 * 0 + _ ≤ _; exact Nat.le_of_eq rfl) (hb hby at_272) (fun _ _ => ⟨rfl, (rfl : T49.heap = T49.heap), (by decide : 9 + 0 ≤ _), (by decide : 63 + 0 ≤ _)⟩)
    dsimp only [Pt.U, Pt.locs, Pt.cells, Pt.slots] at X52 l52 y52 z52 st52 hQ52
    subst l52 y52 z52
    obtain ⟨rfl, N52q, hh52⟩ := hQ52
    have N52 := Fr.app N49 N52q
    have pre52 : Steps p.tables e below _ (T52.setTop (mkF m 275 #[.val (.int p1), .val (.int p2), .val (.int p3), .val (.int p4), .val (.int p5), .val (.long p6), .second, .val (.int mo), .val (.int ss), .val (.int gw), .val (.int ff), .val (.ref q), .val (.int (1 : Int32)), .val (.int (4 : Int32))] [(.int (Int32.ofNat 2)), (.int (1 : Int32))])) := pre51.trans (st52)
    have J52 : IQ Z n0 T52.heap q 2 (fun i => own_md [p1, p2, p3, p4, ff] (i + 2)) := by rw [hh52]; exact J49
    have pre53 : Steps p.tables e below _ (T52.setTop (mkF m 288 #[.val (.int p1), .val (.int p2), .val (.int p3), .val (.int p4), .val (.int p5), .val (.long p6), .second, .val (.int mo), .val (.int ss), .val (.int gw), .val (.int ff), .val (.ref q), .val (.int (1 : Int32)), .val (.int (4 : Int32))] [(.int ((1 : Int32) &&& (1 : Int32)))])) := pre52.trans (by
      show Steps p.tables e below (T52.setTop (mkF m 275 #[.val (.int p1), .val (.int p2), .val (.int p3), .val (.int p4), .val (.int p5), .val (.long p6), .second, .val (.int mo), .val (.int ss), .val (.int gw), .val (.int ff), .val (.ref q), .val (.int (1 : Int32)), .val (.int (4 : Int32))] [(.int (Int32.ofNat 2)), (.int (1 : Int32))])) _
      refine XS.iload X52.here hx rfl (hb hby at_275) rfl ?_
      show Steps p.tables e below (T52.setTop (mkF m 277 #[.val (.int p1), .val (.int p2), .val (.int p3), .val (.int p4), .val (.int p5), .val (.long p6), .second, .val (.int mo), .val (.int ss), .val (.int gw), .val (.int ff), .val (.ref q), .val (.int (1 : Int32)), .val (.int (4 : Int32))] [(.int (4 : Int32)), (.int (Int32.ofNat 2)), (.int (1 : Int32))])) _
      refine XS.iconst X52.here hx rfl (hb hby at_277) ?_
      show Steps p.tables e below (T52.setTop (mkF m 278 #[.val (.int p1), .val (.int p2), .val (.int p3), .val (.int p4), .val (.int p5), .val (.long p6), .second, .val (.int mo), .val (.int ss), .val (.int gw), .val (.int ff), .val (.ref q), .val (.int (1 : Int32)), .val (.int (4 : Int32))] [(.int (2 : Int32)), (.int (4 : Int32)), (.int (Int32.ofNat 2)), (.int (1 : Int32))])) _
      refine XS.isub X52.here hx rfl (hb hby at_278) rfl ?_
      show Steps p.tables e below (T52.setTop (mkF m 279 #[.val (.int p1), .val (.int p2), .val (.int p3), .val (.int p4), .val (.int p5), .val (.long p6), .second, .val (.int mo), .val (.int ss), .val (.int gw), .val (.int ff), .val (.ref q), .val (.int (1 : Int32)), .val (.int (4 : Int32))] [(.int ((4 : Int32) - (2 : Int32))), (.int (Int32.ofNat 2)), (.int (1 : Int32))])) _
      refine XS.icmpNo X52.here hx rfl (hb hby at_279) rfl (teq (by decide : Int32.ofNat 2 = ((4 : Int32) - (2 : Int32)))).2 ?_
      show Steps p.tables e below (T52.setTop (mkF m 282 #[.val (.int p1), .val (.int p2), .val (.int p3), .val (.int p4), .val (.int p5), .val (.long p6), .second, .val (.int mo), .val (.int ss), .val (.int gw), .val (.int ff), .val (.ref q), .val (.int (1 : Int32)), .val (.int (4 : Int32))] [(.int (1 : Int32))])) _
      refine XS.iconst X52.here hx rfl (hb hby at_282) ?_
      show Steps p.tables e below (T52.setTop (mkF m 283 #[.val (.int p1), .val (.int p2), .val (.int p3), .val (.int p4), .val (.int p5), .val (.long p6), .second, .val (.int mo), .val (.int ss), .val (.int gw), .val (.int ff), .val (.ref q), .val (.int (1 : Int32)), .val (.int (4 : Int32))] [(.int (1 : Int32)), (.int (1 : Int32))])) _
      refine XS.goto X52.here hx rfl (pc0 := 283) (pc' := 287) rfl (hb hby at_283) (by decide) (by decide) ?_
      show Steps p.tables e below (T52.setTop (mkF m 287 #[.val (.int p1), .val (.int p2), .val (.int p3), .val (.int p4), .val (.int p5), .val (.long p6), .second, .val (.int mo), .val (.int ss), .val (.int gw), .val (.int ff), .val (.ref q), .val (.int (1 : Int32)), .val (.int (4 : Int32))] [(.int (1 : Int32)), (.int (1 : Int32))])) _
      refine XS.iand X52.here hx rfl (hb hby at_287) rfl ?_
      exact Steps.refl _)
    rw [e111] at pre53
    have pre54 : Steps p.tables e below _ (T52.setTop (mkF m 294 #[.val (.int p1), .val (.int p2), .val (.int p3), .val (.int p4), .val (.int p5), .val (.long p6), .second, .val (.int mo), .val (.int ss), .val (.int gw), .val (.int ff), .val (.ref q), .val (.int (1 : Int32)), .val (.int (4 : Int32))] [(.int ff), (.ref q)])) := pre53.trans (by
      show Steps p.tables e below (T52.setTop (mkF m 288 #[.val (.int p1), .val (.int p2), .val (.int p3), .val (.int p4), .val (.int p5), .val (.long p6), .second, .val (.int mo), .val (.int ss), .val (.int gw), .val (.int ff), .val (.ref q), .val (.int (1 : Int32)), .val (.int (4 : Int32))] [(.int (1 : Int32))])) _
      refine XS.istore X52.here hx rfl (hb hby at_288) rfl (l' := #[.val (.int p1), .val (.int p2), .val (.int p3), .val (.int p4), .val (.int p5), .val (.long p6), .second, .val (.int mo), .val (.int ss), .val (.int gw), .val (.int ff), .val (.ref q), .val (.int (1 : Int32)), .val (.int (4 : Int32))]) rfl ?_
      show Steps p.tables e below (T52.setTop (mkF m 290 #[.val (.int p1), .val (.int p2), .val (.int p3), .val (.int p4), .val (.int p5), .val (.long p6), .second, .val (.int mo), .val (.int ss), .val (.int gw), .val (.int ff), .val (.ref q), .val (.int (1 : Int32)), .val (.int (4 : Int32))] [])) _
      refine XS.aload X52.here hx rfl (hb hby at_290) rfl rfl ?_
      show Steps p.tables e below (T52.setTop (mkF m 292 #[.val (.int p1), .val (.int p2), .val (.int p3), .val (.int p4), .val (.int p5), .val (.long p6), .second, .val (.int mo), .val (.int ss), .val (.int gw), .val (.int ff), .val (.ref q), .val (.int (1 : Int32)), .val (.int (4 : Int32))] [(.ref q)])) _
      refine XS.iload X52.here hx rfl (hb hby at_292) rfl ?_
      exact Steps.refl _)
    obtain ⟨cq55, kq55, q55a, q55b, q55c⟩ := isOf hZ (rfl : T52.heap = T52.heap) J52.exa
    obtain ⟨_, _, ⟨T55, L55, k55, n55⟩, -, X55, ⟨Lc55, hQ55, l55, y55, z55⟩, st55⟩ := X52.virtualBack hx (y := (⟨"com/example/trips_into_trajectories/tripsintotrajectories/simulation/IntQueue", "add", "(I)V"⟩ : MethodName)) (z := (⟨"com/example/trips_into_trajectories/tripsintotrajectories/simulation/IntQueue", "add", "(I)V"⟩ : MethodName)) hown (mvT hZ (hw _ (List.mem_of_getElem? (i := 20) rfl))) (mvT hZ (hw _ (List.mem_of_getElem? (i := 21) rfl))) (notFace_of_selects (args := #[]) (mvT hZ (hw _ (List.mem_of_getElem? (i := 23) rfl)))) (mvT hZ (hw _ (List.mem_of_getElem? (i := 23) rfl))) (mvT hZ (hw _ (List.mem_of_getElem? (i := 22) rfl))) (by decide) (backOf (W := 0) (rmD l Z a0 hw [] q ff 2 (fun i => own_md [p1, p2, p3, p4, ff] (i + 2)) T52.heap n0 J52.le J52 (by decide)) hZ (hw _ (List.mem_of_getElem? (i := 24) rfl)) (hw _ (List.mem_of_getElem? (i := 3) rfl)) (by decide) (by decide)) q55a q55c (g := (mkF m 294 #[.val (.int p1), .val (.int p2), .val (.int p3), .val (.int p4), .val (.int p5), .val (.long p6), .second, .val (.int mo), .val (.int ss), .val (.int gw), .val (.int ff), .val (.ref q), .val (.int (1 : Int32)), .val (.int (4 : Int32))] [(.int ff), (.ref q)])) rfl (by rw [hml]; rfl) (Steps.refl _) (argsL := [(.int ff)]) (rest := []) (lenOf pd_rm0_1 rfl) rfl (by show 2 * 0 + _ ≤ _; exact Nat.le_of_eq rfl) (hb hby at_294) (fun _ _ => ⟨rfl, (rfl : T52.heap = T52.heap), (by decide : 9 + 1 ≤ _), (by decide : 63 + 8 ≤ _)⟩)
    dsimp only [Pt.U, Pt.locs, Pt.cells, Pt.slots] at X55 l55 y55 z55 st55 hQ55
    subst l55 y55 z55
    obtain ⟨rfl, N55q, I55⟩ := hQ55
    have N55 := Fr.app N52 N55q
    have pre55 : Steps p.tables e below _ (T55.setTop (mkF m 297 #[.val (.int p1), .val (.int p2), .val (.int p3), .val (.int p4), .val (.int p5), .val (.long p6), .second, .val (.int mo), .val (.int ss), .val (.int gw), .val (.int ff), .val (.ref q), .val (.int (1 : Int32)), .val (.int (4 : Int32))] [])) := pre54.trans (st55)
    have J55 : IQ Z n0 T55.heap q 3 (fun i => own_md [p1, p2, p3, p4, ff] (i + 2)) := IQ.next I55 rfl
    have pre56 : Steps p.tables e below _ (T55.setTop (mkF m 301 #[.val (.int p1), .val (.int p2), .val (.int p3), .val (.int p4), .val (.int p5), .val (.long p6), .second, .val (.int mo), .val (.int ss), .val (.int gw), .val (.int ff), .val (.ref q), .val (.int (1 : Int32)), .val (.int (4 : Int32))] [(.ref q), (.int (1 : Int32))])) := pre55.trans (by
      show Steps p.tables e below (T55.setTop (mkF m 297 #[.val (.int p1), .val (.int p2), .val (.int p3), .val (.int p4), .val (.int p5), .val (.long p6), .second, .val (.int mo), .val (.int ss), .val (.int gw), .val (.int ff), .val (.ref q), .val (.int (1 : Int32)), .val (.int (4 : Int32))] [])) _
      refine XS.iload X55.here hx rfl (hb hby at_297) rfl ?_
      show Steps p.tables e below (T55.setTop (mkF m 299 #[.val (.int p1), .val (.int p2), .val (.int p3), .val (.int p4), .val (.int p5), .val (.long p6), .second, .val (.int mo), .val (.int ss), .val (.int gw), .val (.int ff), .val (.ref q), .val (.int (1 : Int32)), .val (.int (4 : Int32))] [(.int (1 : Int32))])) _
      refine XS.aload X55.here hx rfl (hb hby at_299) rfl rfl ?_
      exact Steps.refl _)
    obtain ⟨cq57, kq57, q57a, q57b, q57c⟩ := isOf hZ (rfl : T55.heap = T55.heap) J55.exa
    obtain ⟨_, _, ⟨T57, L57, k57, n57⟩, -, X57, ⟨Lc57, hQ57, l57, y57, z57⟩, st57⟩ := X55.virtualBack hx (y := (⟨"com/example/trips_into_trajectories/tripsintotrajectories/simulation/IntQueue", "poll", "()I"⟩ : MethodName)) (z := (⟨"com/example/trips_into_trajectories/tripsintotrajectories/simulation/IntQueue", "poll", "()I"⟩ : MethodName)) hown (mvT hZ (hw _ (List.mem_of_getElem? (i := 27) rfl))) (mvT hZ (hw _ (List.mem_of_getElem? (i := 28) rfl))) (notFace_of_selects (args := #[]) (mvT hZ (hw _ (List.mem_of_getElem? (i := 30) rfl)))) (mvT hZ (hw _ (List.mem_of_getElem? (i := 30) rfl))) (mvT hZ (hw _ (List.mem_of_getElem? (i := 29) rfl))) (by decide) (backOf (W := 1) (rmP l Z a0 hw [] q 2 (fun i => own_md [p1, p2, p3, p4, ff] (i + 2)) T55.heap n0 J55.le J55) hZ (hw _ (List.mem_of_getElem? (i := 31) rfl)) (hw _ (List.mem_of_getElem? (i := 3) rfl)) (by decide) (by decide)) q57a q57c (g := (mkF m 301 #[.val (.int p1), .val (.int p2), .val (.int p3), .val (.int p4), .val (.int p5), .val (.long p6), .second, .val (.int mo), .val (.int ss), .val (.int gw), .val (.int ff), .val (.ref q), .val (.int (1 : Int32)), .val (.int (4 : Int32))] [(.ref q), (.int (1 : Int32))])) rfl (by rw [hml]; rfl) (Steps.refl _) (argsL := []) (rest := [(.int (1 : Int32))]) (lenOf pd_rm0_2 rfl) rfl (by show 2 * 0 + _ ≤ _; exact Nat.le_of_eq rfl) (hb hby at_301) (fun _ _ => ⟨rfl, (rfl : T55.heap = T55.heap), (by decide : 10 + 0 ≤ _), (by decide : 71 + 0 ≤ _)⟩)
    dsimp only [Pt.U, Pt.locs, Pt.cells, Pt.slots] at X57 l57 y57 z57 st57 hQ57
    subst l57 y57 z57
    obtain ⟨rfl, N57q, I57⟩ := hQ57
    have N57 := Fr.app N55 N57q
    have pre57 : Steps p.tables e below _ (T57.setTop (mkF m 304 #[.val (.int p1), .val (.int p2), .val (.int p3), .val (.int p4), .val (.int p5), .val (.long p6), .second, .val (.int mo), .val (.int ss), .val (.int gw), .val (.int ff), .val (.ref q), .val (.int (1 : Int32)), .val (.int (4 : Int32))] [(.int p3), (.int (1 : Int32))])) := pre56.trans (st57)
    have J57 : IQ Z n0 T57.heap q 2 (fun i => own_md [p1, p2, p3, p4, ff] (i + 3)) := IQ.less I57
    have pre58 : Steps p.tables e below _ (T57.setTop (mkF m 314 #[.val (.int p1), .val (.int p2), .val (.int p3), .val (.int p4), .val (.int p5), .val (.long p6), .second, .val (.int mo), .val (.int ss), .val (.int gw), .val (.int ff), .val (.ref q), .val (.int (1 : Int32)), .val (.int (4 : Int32))] [(.int ((1 : Int32) &&& (1 : Int32)))])) := pre57.trans (by
      show Steps p.tables e below (T57.setTop (mkF m 304 #[.val (.int p1), .val (.int p2), .val (.int p3), .val (.int p4), .val (.int p5), .val (.long p6), .second, .val (.int mo), .val (.int ss), .val (.int gw), .val (.int ff), .val (.ref q), .val (.int (1 : Int32)), .val (.int (4 : Int32))] [(.int p3), (.int (1 : Int32))])) _
      refine XS.iloadN X57.here hx rfl (hb hby at_304) rfl ?_
      show Steps p.tables e below (T57.setTop (mkF m 305 #[.val (.int p1), .val (.int p2), .val (.int p3), .val (.int p4), .val (.int p5), .val (.long p6), .second, .val (.int mo), .val (.int ss), .val (.int gw), .val (.int ff), .val (.ref q), .val (.int (1 : Int32)), .val (.int (4 : Int32))] [(.int p3), (.int p3), (.int (1 : Int32))])) _
      refine XS.icmpNo X57.here hx rfl (hb hby at_305) rfl (teq (rfl : p3 = p3)).2 ?_
      show Steps p.tables e below (T57.setTop (mkF m 308 #[.val (.int p1), .val (.int p2), .val (.int p3), .val (.int p4), .val (.int p5), .val (.long p6), .second, .val (.int mo), .val (.int ss), .val (.int gw), .val (.int ff), .val (.ref q), .val (.int (1 : Int32)), .val (.int (4 : Int32))] [(.int (1 : Int32))])) _
      refine XS.iconst X57.here hx rfl (hb hby at_308) ?_
      show Steps p.tables e below (T57.setTop (mkF m 309 #[.val (.int p1), .val (.int p2), .val (.int p3), .val (.int p4), .val (.int p5), .val (.long p6), .second, .val (.int mo), .val (.int ss), .val (.int gw), .val (.int ff), .val (.ref q), .val (.int (1 : Int32)), .val (.int (4 : Int32))] [(.int (1 : Int32)), (.int (1 : Int32))])) _
      refine XS.goto X57.here hx rfl (pc0 := 309) (pc' := 313) rfl (hb hby at_309) (by decide) (by decide) ?_
      show Steps p.tables e below (T57.setTop (mkF m 313 #[.val (.int p1), .val (.int p2), .val (.int p3), .val (.int p4), .val (.int p5), .val (.long p6), .second, .val (.int mo), .val (.int ss), .val (.int gw), .val (.int ff), .val (.ref q), .val (.int (1 : Int32)), .val (.int (4 : Int32))] [(.int (1 : Int32)), (.int (1 : Int32))])) _
      refine XS.iand X57.here hx rfl (hb hby at_313) rfl ?_
      exact Steps.refl _)
    rw [e111] at pre58
    have pre59 : Steps p.tables e below _ (T57.setTop (mkF m 320 #[.val (.int p1), .val (.int p2), .val (.int p3), .val (.int p4), .val (.int p5), .val (.long p6), .second, .val (.int mo), .val (.int ss), .val (.int gw), .val (.int ff), .val (.ref q), .val (.int (1 : Int32)), .val (.int (4 : Int32))] [(.ref q), (.int (1 : Int32))])) := pre58.trans (by
      show Steps p.tables e below (T57.setTop (mkF m 314 #[.val (.int p1), .val (.int p2), .val (.int p3), .val (.int p4), .val (.int p5), .val (.long p6), .second, .val (.int mo), .val (.int ss), .val (.int gw), .val (.int ff), .val (.ref q), .val (.int (1 : Int32)), .val (.int (4 : Int32))] [(.int (1 : Int32))])) _
      refine XS.istore X57.here hx rfl (hb hby at_314) rfl (l' := #[.val (.int p1), .val (.int p2), .val (.int p3), .val (.int p4), .val (.int p5), .val (.long p6), .second, .val (.int mo), .val (.int ss), .val (.int gw), .val (.int ff), .val (.ref q), .val (.int (1 : Int32)), .val (.int (4 : Int32))]) rfl ?_
      show Steps p.tables e below (T57.setTop (mkF m 316 #[.val (.int p1), .val (.int p2), .val (.int p3), .val (.int p4), .val (.int p5), .val (.long p6), .second, .val (.int mo), .val (.int ss), .val (.int gw), .val (.int ff), .val (.ref q), .val (.int (1 : Int32)), .val (.int (4 : Int32))] [])) _
      refine XS.iload X57.here hx rfl (hb hby at_316) rfl ?_
      show Steps p.tables e below (T57.setTop (mkF m 318 #[.val (.int p1), .val (.int p2), .val (.int p3), .val (.int p4), .val (.int p5), .val (.long p6), .second, .val (.int mo), .val (.int ss), .val (.int gw), .val (.int ff), .val (.ref q), .val (.int (1 : Int32)), .val (.int (4 : Int32))] [(.int (1 : Int32))])) _
      refine XS.aload X57.here hx rfl (hb hby at_318) rfl rfl ?_
      exact Steps.refl _)
    obtain ⟨cq60, kq60, q60a, q60b, q60c⟩ := isOf hZ (rfl : T57.heap = T57.heap) J57.exa
    obtain ⟨_, _, ⟨T60, L60, k60, n60⟩, -, X60, ⟨Lc60, hQ60, l60, y60, z60⟩, st60⟩ := X57.virtualBack hx (y := (⟨"com/example/trips_into_trajectories/tripsintotrajectories/simulation/IntQueue", "size", "()I"⟩ : MethodName)) (z := (⟨"com/example/trips_into_trajectories/tripsintotrajectories/simulation/IntQueue", "size", "()I"⟩ : MethodName)) hown (mvT hZ (hw _ (List.mem_of_getElem? (i := 13) rfl))) (mvT hZ (hw _ (List.mem_of_getElem? (i := 14) rfl))) (notFace_of_selects (args := #[]) (mvT hZ (hw _ (List.mem_of_getElem? (i := 16) rfl)))) (mvT hZ (hw _ (List.mem_of_getElem? (i := 16) rfl))) (mvT hZ (hw _ (List.mem_of_getElem? (i := 15) rfl))) (by decide) (backOf (W := 1) (rmS l Z a0 hw [] q 2 (fun i => own_md [p1, p2, p3, p4, ff] (i + 3)) T57.heap n0 J57.le J57) hZ (hw _ (List.mem_of_getElem? (i := 17) rfl)) (hw _ (List.mem_of_getElem? (i := 3) rfl)) (by decide) (by decide)) q60a q60c (g := (mkF m 320 #[.val (.int p1), .val (.int p2), .val (.int p3), .val (.int p4), .val (.int p5), .val (.long p6), .second, .val (.int mo), .val (.int ss), .val (.int gw), .val (.int ff), .val (.ref q), .val (.int (1 : Int32)), .val (.int (4 : Int32))] [(.ref q), (.int (1 : Int32))])) rfl (by rw [hml]; rfl) (Steps.refl _) (argsL := []) (rest := [(.int (1 : Int32))]) (lenOf pd_rm0_2 rfl) rfl (by show 2 * 0 + _ ≤ _; exact Nat.le_of_eq rfl) (hb hby at_320) (fun _ _ => ⟨rfl, (rfl : T57.heap = T57.heap), (by decide : 10 + 0 ≤ _), (by decide : 71 + 0 ≤ _)⟩)
    dsimp only [Pt.U, Pt.locs, Pt.cells, Pt.slots] at X60 l60 y60 z60 st60 hQ60
    subst l60 y60 z60
    obtain ⟨rfl, N60q, hh60⟩ := hQ60
    have N60 := Fr.app N57 N60q
    have pre60 : Steps p.tables e below _ (T60.setTop (mkF m 323 #[.val (.int p1), .val (.int p2), .val (.int p3), .val (.int p4), .val (.int p5), .val (.long p6), .second, .val (.int mo), .val (.int ss), .val (.int gw), .val (.int ff), .val (.ref q), .val (.int (1 : Int32)), .val (.int (4 : Int32))] [(.int (Int32.ofNat 2)), (.int (1 : Int32))])) := pre59.trans (st60)
    have J60 : IQ Z n0 T60.heap q 2 (fun i => own_md [p1, p2, p3, p4, ff] (i + 3)) := by rw [hh60]; exact J57
    have pre61 : Steps p.tables e below _ (T60.setTop (mkF m 336 #[.val (.int p1), .val (.int p2), .val (.int p3), .val (.int p4), .val (.int p5), .val (.long p6), .second, .val (.int mo), .val (.int ss), .val (.int gw), .val (.int ff), .val (.ref q), .val (.int (1 : Int32)), .val (.int (4 : Int32))] [(.int ((1 : Int32) &&& (1 : Int32)))])) := pre60.trans (by
      show Steps p.tables e below (T60.setTop (mkF m 323 #[.val (.int p1), .val (.int p2), .val (.int p3), .val (.int p4), .val (.int p5), .val (.long p6), .second, .val (.int mo), .val (.int ss), .val (.int gw), .val (.int ff), .val (.ref q), .val (.int (1 : Int32)), .val (.int (4 : Int32))] [(.int (Int32.ofNat 2)), (.int (1 : Int32))])) _
      refine XS.iload X60.here hx rfl (hb hby at_323) rfl ?_
      show Steps p.tables e below (T60.setTop (mkF m 325 #[.val (.int p1), .val (.int p2), .val (.int p3), .val (.int p4), .val (.int p5), .val (.long p6), .second, .val (.int mo), .val (.int ss), .val (.int gw), .val (.int ff), .val (.ref q), .val (.int (1 : Int32)), .val (.int (4 : Int32))] [(.int (4 : Int32)), (.int (Int32.ofNat 2)), (.int (1 : Int32))])) _
      refine XS.iconst X60.here hx rfl (hb hby at_325) ?_
      show Steps p.tables e below (T60.setTop (mkF m 326 #[.val (.int p1), .val (.int p2), .val (.int p3), .val (.int p4), .val (.int p5), .val (.long p6), .second, .val (.int mo), .val (.int ss), .val (.int gw), .val (.int ff), .val (.ref q), .val (.int (1 : Int32)), .val (.int (4 : Int32))] [(.int (2 : Int32)), (.int (4 : Int32)), (.int (Int32.ofNat 2)), (.int (1 : Int32))])) _
      refine XS.isub X60.here hx rfl (hb hby at_326) rfl ?_
      show Steps p.tables e below (T60.setTop (mkF m 327 #[.val (.int p1), .val (.int p2), .val (.int p3), .val (.int p4), .val (.int p5), .val (.long p6), .second, .val (.int mo), .val (.int ss), .val (.int gw), .val (.int ff), .val (.ref q), .val (.int (1 : Int32)), .val (.int (4 : Int32))] [(.int ((4 : Int32) - (2 : Int32))), (.int (Int32.ofNat 2)), (.int (1 : Int32))])) _
      refine XS.icmpNo X60.here hx rfl (hb hby at_327) rfl (teq (by decide : Int32.ofNat 2 = ((4 : Int32) - (2 : Int32)))).2 ?_
      show Steps p.tables e below (T60.setTop (mkF m 330 #[.val (.int p1), .val (.int p2), .val (.int p3), .val (.int p4), .val (.int p5), .val (.long p6), .second, .val (.int mo), .val (.int ss), .val (.int gw), .val (.int ff), .val (.ref q), .val (.int (1 : Int32)), .val (.int (4 : Int32))] [(.int (1 : Int32))])) _
      refine XS.iconst X60.here hx rfl (hb hby at_330) ?_
      show Steps p.tables e below (T60.setTop (mkF m 331 #[.val (.int p1), .val (.int p2), .val (.int p3), .val (.int p4), .val (.int p5), .val (.long p6), .second, .val (.int mo), .val (.int ss), .val (.int gw), .val (.int ff), .val (.ref q), .val (.int (1 : Int32)), .val (.int (4 : Int32))] [(.int (1 : Int32)), (.int (1 : Int32))])) _
      refine XS.goto X60.here hx rfl (pc0 := 331) (pc' := 335) rfl (hb hby at_331) (by decide) (by decide) ?_
      show Steps p.tables e below (T60.setTop (mkF m 335 #[.val (.int p1), .val (.int p2), .val (.int p3), .val (.int p4), .val (.int p5), .val (.long p6), .second, .val (.int mo), .val (.int ss), .val (.int gw), .val (.int ff), .val (.ref q), .val (.int (1 : Int32)), .val (.int (4 : Int32))] [(.int (1 : Int32)), (.int (1 : Int32))])) _
      refine XS.iand X60.here hx rfl (hb hby at_335) rfl ?_
      exact Steps.refl _)
    rw [e111] at pre61
    have pre62 : Steps p.tables e below _ (T60.setTop (mkF m 342 #[.val (.int p1), .val (.int p2), .val (.int p3), .val (.int p4), .val (.int p5), .val (.long p6), .second, .val (.int mo), .val (.int ss), .val (.int gw), .val (.int ff), .val (.ref q), .val (.int (1 : Int32)), .val (.int (4 : Int32))] [(.ref q), (.int (1 : Int32))])) := pre61.trans (by
      show Steps p.tables e below (T60.setTop (mkF m 336 #[.val (.int p1), .val (.int p2), .val (.int p3), .val (.int p4), .val (.int p5), .val (.long p6), .second, .val (.int mo), .val (.int ss), .val (.int gw), .val (.int ff), .val (.ref q), .val (.int (1 : Int32)), .val (.int (4 : Int32))] [(.int (1 : Int32))])) _
      refine XS.istore X60.here hx rfl (hb hby at_336) rfl (l' := #[.val (.int p1), .val (.int p2), .val (.int p3), .val (.int p4), .val (.int p5), .val (.long p6), .second, .val (.int mo), .val (.int ss), .val (.int gw), .val (.int ff), .val (.ref q), .val (.int (1 : Int32)), .val (.int (4 : Int32))]) rfl ?_
      show Steps p.tables e below (T60.setTop (mkF m 338 #[.val (.int p1), .val (.int p2), .val (.int p3), .val (.int p4), .val (.int p5), .val (.long p6), .second, .val (.int mo), .val (.int ss), .val (.int gw), .val (.int ff), .val (.ref q), .val (.int (1 : Int32)), .val (.int (4 : Int32))] [])) _
      refine XS.iload X60.here hx rfl (hb hby at_338) rfl ?_
      show Steps p.tables e below (T60.setTop (mkF m 340 #[.val (.int p1), .val (.int p2), .val (.int p3), .val (.int p4), .val (.int p5), .val (.long p6), .second, .val (.int mo), .val (.int ss), .val (.int gw), .val (.int ff), .val (.ref q), .val (.int (1 : Int32)), .val (.int (4 : Int32))] [(.int (1 : Int32))])) _
      refine XS.aload X60.here hx rfl (hb hby at_340) rfl rfl ?_
      exact Steps.refl _)
    obtain ⟨cq63, kq63, q63a, q63b, q63c⟩ := isOf hZ (rfl : T60.heap = T60.heap) J60.exa
    obtain ⟨_, _, ⟨T63, L63, k63, n63⟩, -, X63, ⟨Lc63, hQ63, l63, y63, z63⟩, st63⟩ := X60.virtualBack hx (y := (⟨"com/example/trips_into_trajectories/tripsintotrajectories/simulation/IntQueue", "poll", "()I"⟩ : MethodName)) (z := (⟨"com/example/trips_into_trajectories/tripsintotrajectories/simulation/IntQueue", "poll", "()I"⟩ : MethodName)) hown (mvT hZ (hw _ (List.mem_of_getElem? (i := 27) rfl))) (mvT hZ (hw _ (List.mem_of_getElem? (i := 28) rfl))) (notFace_of_selects (args := #[]) (mvT hZ (hw _ (List.mem_of_getElem? (i := 30) rfl)))) (mvT hZ (hw _ (List.mem_of_getElem? (i := 30) rfl))) (mvT hZ (hw _ (List.mem_of_getElem? (i := 29) rfl))) (by decide) (backOf (W := 1) (rmP l Z a0 hw [] q 1 (fun i => own_md [p1, p2, p3, p4, ff] (i + 3)) T60.heap n0 J60.le J60) hZ (hw _ (List.mem_of_getElem? (i := 31) rfl)) (hw _ (List.mem_of_getElem? (i := 3) rfl)) (by decide) (by decide)) q63a q63c (g := (mkF m 342 #[.val (.int p1), .val (.int p2), .val (.int p3), .val (.int p4), .val (.int p5), .val (.long p6), .second, .val (.int mo), .val (.int ss), .val (.int gw), .val (.int ff), .val (.ref q), .val (.int (1 : Int32)), .val (.int (4 : Int32))] [(.ref q), (.int (1 : Int32))])) rfl (by rw [hml]; rfl) (Steps.refl _) (argsL := []) (rest := [(.int (1 : Int32))]) (lenOf pd_rm0_2 rfl) rfl (by show 2 * 0 + _ ≤ _; exact Nat.le_of_eq rfl) (hb hby at_342) (fun _ _ => ⟨rfl, (rfl : T60.heap = T60.heap), (by decide : 10 + 0 ≤ _), (by decide : 71 + 0 ≤ _)⟩)
    dsimp only [Pt.U, Pt.locs, Pt.cells, Pt.slots] at X63 l63 y63 z63 st63 hQ63
    subst l63 y63 z63
    obtain ⟨rfl, N63q, I63⟩ := hQ63
    have N63 := Fr.app N60 N63q
    have pre63 : Steps p.tables e below _ (T63.setTop (mkF m 345 #[.val (.int p1), .val (.int p2), .val (.int p3), .val (.int p4), .val (.int p5), .val (.long p6), .second, .val (.int mo), .val (.int ss), .val (.int gw), .val (.int ff), .val (.ref q), .val (.int (1 : Int32)), .val (.int (4 : Int32))] [(.int p4), (.int (1 : Int32))])) := pre62.trans (st63)
    have J63 : IQ Z n0 T63.heap q 1 (fun i => own_md [p1, p2, p3, p4, ff] (i + 4)) := IQ.less I63
    have pre64 : Steps p.tables e below _ (T63.setTop (mkF m 355 #[.val (.int p1), .val (.int p2), .val (.int p3), .val (.int p4), .val (.int p5), .val (.long p6), .second, .val (.int mo), .val (.int ss), .val (.int gw), .val (.int ff), .val (.ref q), .val (.int (1 : Int32)), .val (.int (4 : Int32))] [(.int ((1 : Int32) &&& (1 : Int32)))])) := pre63.trans (by
      show Steps p.tables e below (T63.setTop (mkF m 345 #[.val (.int p1), .val (.int p2), .val (.int p3), .val (.int p4), .val (.int p5), .val (.long p6), .second, .val (.int mo), .val (.int ss), .val (.int gw), .val (.int ff), .val (.ref q), .val (.int (1 : Int32)), .val (.int (4 : Int32))] [(.int p4), (.int (1 : Int32))])) _
      refine XS.iloadN X63.here hx rfl (hb hby at_345) rfl ?_
      show Steps p.tables e below (T63.setTop (mkF m 346 #[.val (.int p1), .val (.int p2), .val (.int p3), .val (.int p4), .val (.int p5), .val (.long p6), .second, .val (.int mo), .val (.int ss), .val (.int gw), .val (.int ff), .val (.ref q), .val (.int (1 : Int32)), .val (.int (4 : Int32))] [(.int p4), (.int p4), (.int (1 : Int32))])) _
      refine XS.icmpNo X63.here hx rfl (hb hby at_346) rfl (teq (rfl : p4 = p4)).2 ?_
      show Steps p.tables e below (T63.setTop (mkF m 349 #[.val (.int p1), .val (.int p2), .val (.int p3), .val (.int p4), .val (.int p5), .val (.long p6), .second, .val (.int mo), .val (.int ss), .val (.int gw), .val (.int ff), .val (.ref q), .val (.int (1 : Int32)), .val (.int (4 : Int32))] [(.int (1 : Int32))])) _
      refine XS.iconst X63.here hx rfl (hb hby at_349) ?_
      show Steps p.tables e below (T63.setTop (mkF m 350 #[.val (.int p1), .val (.int p2), .val (.int p3), .val (.int p4), .val (.int p5), .val (.long p6), .second, .val (.int mo), .val (.int ss), .val (.int gw), .val (.int ff), .val (.ref q), .val (.int (1 : Int32)), .val (.int (4 : Int32))] [(.int (1 : Int32)), (.int (1 : Int32))])) _
      refine XS.goto X63.here hx rfl (pc0 := 350) (pc' := 354) rfl (hb hby at_350) (by decide) (by decide) ?_
      show Steps p.tables e below (T63.setTop (mkF m 354 #[.val (.int p1), .val (.int p2), .val (.int p3), .val (.int p4), .val (.int p5), .val (.long p6), .second, .val (.int mo), .val (.int ss), .val (.int gw), .val (.int ff), .val (.ref q), .val (.int (1 : Int32)), .val (.int (4 : Int32))] [(.int (1 : Int32)), (.int (1 : Int32))])) _
      refine XS.iand X63.here hx rfl (hb hby at_354) rfl ?_
      exact Steps.refl _)
    rw [e111] at pre64
    have pre65 : Steps p.tables e below _ (T63.setTop (mkF m 361 #[.val (.int p1), .val (.int p2), .val (.int p3), .val (.int p4), .val (.int p5), .val (.long p6), .second, .val (.int mo), .val (.int ss), .val (.int gw), .val (.int ff), .val (.ref q), .val (.int (1 : Int32)), .val (.int (4 : Int32))] [(.ref q), (.int (1 : Int32))])) := pre64.trans (by
      show Steps p.tables e below (T63.setTop (mkF m 355 #[.val (.int p1), .val (.int p2), .val (.int p3), .val (.int p4), .val (.int p5), .val (.long p6), .second, .val (.int mo), .val (.int ss), .val (.int gw), .val (.int ff), .val (.ref q), .val (.int (1 : Int32)), .val (.int (4 : Int32))] [(.int (1 : Int32))])) _
      refine XS.istore X63.here hx rfl (hb hby at_355) rfl (l' := #[.val (.int p1), .val (.int p2), .val (.int p3), .val (.int p4), .val (.int p5), .val (.long p6), .second, .val (.int mo), .val (.int ss), .val (.int gw), .val (.int ff), .val (.ref q), .val (.int (1 : Int32)), .val (.int (4 : Int32))]) rfl ?_
      show Steps p.tables e below (T63.setTop (mkF m 357 #[.val (.int p1), .val (.int p2), .val (.int p3), .val (.int p4), .val (.int p5), .val (.long p6), .second, .val (.int mo), .val (.int ss), .val (.int gw), .val (.int ff), .val (.ref q), .val (.int (1 : Int32)), .val (.int (4 : Int32))] [])) _
      refine XS.iload X63.here hx rfl (hb hby at_357) rfl ?_
      show Steps p.tables e below (T63.setTop (mkF m 359 #[.val (.int p1), .val (.int p2), .val (.int p3), .val (.int p4), .val (.int p5), .val (.long p6), .second, .val (.int mo), .val (.int ss), .val (.int gw), .val (.int ff), .val (.ref q), .val (.int (1 : Int32)), .val (.int (4 : Int32))] [(.int (1 : Int32))])) _
      refine XS.aload X63.here hx rfl (hb hby at_359) rfl rfl ?_
      exact Steps.refl _)
    obtain ⟨cq66, kq66, q66a, q66b, q66c⟩ := isOf hZ (rfl : T63.heap = T63.heap) J63.exa
    obtain ⟨_, _, ⟨T66, L66, k66, n66⟩, -, X66, ⟨Lc66, hQ66, l66, y66, z66⟩, st66⟩ := X63.virtualBack hx (y := (⟨"com/example/trips_into_trajectories/tripsintotrajectories/simulation/IntQueue", "size", "()I"⟩ : MethodName)) (z := (⟨"com/example/trips_into_trajectories/tripsintotrajectories/simulation/IntQueue", "size", "()I"⟩ : MethodName)) hown (mvT hZ (hw _ (List.mem_of_getElem? (i := 13) rfl))) (mvT hZ (hw _ (List.mem_of_getElem? (i := 14) rfl))) (notFace_of_selects (args := #[]) (mvT hZ (hw _ (List.mem_of_getElem? (i := 16) rfl)))) (mvT hZ (hw _ (List.mem_of_getElem? (i := 16) rfl))) (mvT hZ (hw _ (List.mem_of_getElem? (i := 15) rfl))) (by decide) (backOf (W := 1) (rmS l Z a0 hw [] q 1 (fun i => own_md [p1, p2, p3, p4, ff] (i + 4)) T63.heap n0 J63.le J63) hZ (hw _ (List.mem_of_getElem? (i := 17) rfl)) (hw _ (List.mem_of_getElem? (i := 3) rfl)) (by decide) (by decide)) q66a q66c (g := (mkF m 361 #[.val (.int p1), .val (.int p2), .val (.int p3), .val (.int p4), .val (.int p5), .val (.long p6), .second, .val (.int mo), .val (.int ss), .val (.int gw), .val (.int ff), .val (.ref q), .val (.int (1 : Int32)), .val (.int (4 : Int32))] [(.ref q), (.int (1 : Int32))])) rfl (by rw [hml]; rfl) (Steps.refl _) (argsL := []) (rest := [(.int (1 : Int32))]) (lenOf pd_rm0_2 rfl) rfl (by show 2 * 0 + _ ≤ _; exact Nat.le_of_eq rfl) (hb hby at_361) (fun _ _ => ⟨rfl, (rfl : T63.heap = T63.heap), (by decide : 10 + 0 ≤ _), (by decide : 71 + 0 ≤ _)⟩)
    dsimp only [Pt.U, Pt.locs, Pt.cells, Pt.slots] at X66 l66 y66 z66 st66 hQ66
    subst l66 y66 z66
    obtain ⟨rfl, N66q, hh66⟩ := hQ66
    have N66 := Fr.app N63 N66q
    have pre66 : Steps p.tables e below _ (T66.setTop (mkF m 364 #[.val (.int p1), .val (.int p2), .val (.int p3), .val (.int p4), .val (.int p5), .val (.long p6), .second, .val (.int mo), .val (.int ss), .val (.int gw), .val (.int ff), .val (.ref q), .val (.int (1 : Int32)), .val (.int (4 : Int32))] [(.int (Int32.ofNat 1)), (.int (1 : Int32))])) := pre65.trans (st66)
    have J66 : IQ Z n0 T66.heap q 1 (fun i => own_md [p1, p2, p3, p4, ff] (i + 4)) := by rw [hh66]; exact J63
    have pre67 : Steps p.tables e below _ (T66.setTop (mkF m 377 #[.val (.int p1), .val (.int p2), .val (.int p3), .val (.int p4), .val (.int p5), .val (.long p6), .second, .val (.int mo), .val (.int ss), .val (.int gw), .val (.int ff), .val (.ref q), .val (.int (1 : Int32)), .val (.int (4 : Int32))] [(.int ((1 : Int32) &&& (1 : Int32)))])) := pre66.trans (by
      show Steps p.tables e below (T66.setTop (mkF m 364 #[.val (.int p1), .val (.int p2), .val (.int p3), .val (.int p4), .val (.int p5), .val (.long p6), .second, .val (.int mo), .val (.int ss), .val (.int gw), .val (.int ff), .val (.ref q), .val (.int (1 : Int32)), .val (.int (4 : Int32))] [(.int (Int32.ofNat 1)), (.int (1 : Int32))])) _
      refine XS.iload X66.here hx rfl (hb hby at_364) rfl ?_
      show Steps p.tables e below (T66.setTop (mkF m 366 #[.val (.int p1), .val (.int p2), .val (.int p3), .val (.int p4), .val (.int p5), .val (.long p6), .second, .val (.int mo), .val (.int ss), .val (.int gw), .val (.int ff), .val (.ref q), .val (.int (1 : Int32)), .val (.int (4 : Int32))] [(.int (4 : Int32)), (.int (Int32.ofNat 1)), (.int (1 : Int32))])) _
      refine XS.iconst X66.here hx rfl (hb hby at_366) ?_
      show Steps p.tables e below (T66.setTop (mkF m 367 #[.val (.int p1), .val (.int p2), .val (.int p3), .val (.int p4), .val (.int p5), .val (.long p6), .second, .val (.int mo), .val (.int ss), .val (.int gw), .val (.int ff), .val (.ref q), .val (.int (1 : Int32)), .val (.int (4 : Int32))] [(.int (3 : Int32)), (.int (4 : Int32)), (.int (Int32.ofNat 1)), (.int (1 : Int32))])) _
      refine XS.isub X66.here hx rfl (hb hby at_367) rfl ?_
      show Steps p.tables e below (T66.setTop (mkF m 368 #[.val (.int p1), .val (.int p2), .val (.int p3), .val (.int p4), .val (.int p5), .val (.long p6), .second, .val (.int mo), .val (.int ss), .val (.int gw), .val (.int ff), .val (.ref q), .val (.int (1 : Int32)), .val (.int (4 : Int32))] [(.int ((4 : Int32) - (3 : Int32))), (.int (Int32.ofNat 1)), (.int (1 : Int32))])) _
      refine XS.icmpNo X66.here hx rfl (hb hby at_368) rfl (teq (by decide : Int32.ofNat 1 = ((4 : Int32) - (3 : Int32)))).2 ?_
      show Steps p.tables e below (T66.setTop (mkF m 371 #[.val (.int p1), .val (.int p2), .val (.int p3), .val (.int p4), .val (.int p5), .val (.long p6), .second, .val (.int mo), .val (.int ss), .val (.int gw), .val (.int ff), .val (.ref q), .val (.int (1 : Int32)), .val (.int (4 : Int32))] [(.int (1 : Int32))])) _
      refine XS.iconst X66.here hx rfl (hb hby at_371) ?_
      show Steps p.tables e below (T66.setTop (mkF m 372 #[.val (.int p1), .val (.int p2), .val (.int p3), .val (.int p4), .val (.int p5), .val (.long p6), .second, .val (.int mo), .val (.int ss), .val (.int gw), .val (.int ff), .val (.ref q), .val (.int (1 : Int32)), .val (.int (4 : Int32))] [(.int (1 : Int32)), (.int (1 : Int32))])) _
      refine XS.goto X66.here hx rfl (pc0 := 372) (pc' := 376) rfl (hb hby at_372) (by decide) (by decide) ?_
      show Steps p.tables e below (T66.setTop (mkF m 376 #[.val (.int p1), .val (.int p2), .val (.int p3), .val (.int p4), .val (.int p5), .val (.long p6), .second, .val (.int mo), .val (.int ss), .val (.int gw), .val (.int ff), .val (.ref q), .val (.int (1 : Int32)), .val (.int (4 : Int32))] [(.int (1 : Int32)), (.int (1 : Int32))])) _
      refine XS.iand X66.here hx rfl (hb hby at_376) rfl ?_
      exact Steps.refl _)
    rw [e111] at pre67
    have pre68 : Steps p.tables e below _ (T66.setTop (mkF m 427 #[.val (.int p1), .val (.int p2), .val (.int p3), .val (.int p4), .val (.int p5), .val (.long p6), .second, .val (.int mo), .val (.int ss), .val (.int gw), .val (.int ff), .val (.ref q), .val (.int (1 : Int32)), .val (.int (4 : Int32))] [(.ref q), (.int (1 : Int32))])) := pre67.trans (by
      show Steps p.tables e below (T66.setTop (mkF m 377 #[.val (.int p1), .val (.int p2), .val (.int p3), .val (.int p4), .val (.int p5), .val (.long p6), .second, .val (.int mo), .val (.int ss), .val (.int gw), .val (.int ff), .val (.ref q), .val (.int (1 : Int32)), .val (.int (4 : Int32))] [(.int (1 : Int32))])) _
      refine XS.istore X66.here hx rfl (hb hby at_377) rfl (l' := #[.val (.int p1), .val (.int p2), .val (.int p3), .val (.int p4), .val (.int p5), .val (.long p6), .second, .val (.int mo), .val (.int ss), .val (.int gw), .val (.int ff), .val (.ref q), .val (.int (1 : Int32)), .val (.int (4 : Int32))]) rfl ?_
      show Steps p.tables e below (T66.setTop (mkF m 379 #[.val (.int p1), .val (.int p2), .val (.int p3), .val (.int p4), .val (.int p5), .val (.long p6), .second, .val (.int mo), .val (.int ss), .val (.int gw), .val (.int ff), .val (.ref q), .val (.int (1 : Int32)), .val (.int (4 : Int32))] [])) _
      refine XS.iload X66.here hx rfl (hb hby at_379) rfl ?_
      show Steps p.tables e below (T66.setTop (mkF m 381 #[.val (.int p1), .val (.int p2), .val (.int p3), .val (.int p4), .val (.int p5), .val (.long p6), .second, .val (.int mo), .val (.int ss), .val (.int gw), .val (.int ff), .val (.ref q), .val (.int (1 : Int32)), .val (.int (4 : Int32))] [(.int gw)])) _
      refine XS.ifYes X66.here hx rfl (pc0 := 381) (pc' := 423) rfl (hb hby at_381) rfl ((if0 _ _).trans (teq hgw).1) (by decide) (by decide) ?_
      show Steps p.tables e below (T66.setTop (mkF m 423 #[.val (.int p1), .val (.int p2), .val (.int p3), .val (.int p4), .val (.int p5), .val (.long p6), .second, .val (.int mo), .val (.int ss), .val (.int gw), .val (.int ff), .val (.ref q), .val (.int (1 : Int32)), .val (.int (4 : Int32))] [])) _
      refine XS.iload X66.here hx rfl (hb hby at_423) rfl ?_
      show Steps p.tables e below (T66.setTop (mkF m 425 #[.val (.int p1), .val (.int p2), .val (.int p3), .val (.int p4), .val (.int p5), .val (.long p6), .second, .val (.int mo), .val (.int ss), .val (.int gw), .val (.int ff), .val (.ref q), .val (.int (1 : Int32)), .val (.int (4 : Int32))] [(.int (1 : Int32))])) _
      refine XS.aload X66.here hx rfl (hb hby at_425) rfl rfl ?_
      exact Steps.refl _)
    obtain ⟨cq69, kq69, q69a, q69b, q69c⟩ := isOf hZ (rfl : T66.heap = T66.heap) J66.exa
    obtain ⟨_, _, ⟨T69, L69, k69, n69⟩, -, X69, ⟨Lc69, hQ69, l69, y69, z69⟩, st69⟩ := X66.virtualBack hx (y := (⟨"com/example/trips_into_trajectories/tripsintotrajectories/simulation/IntQueue", "poll", "()I"⟩ : MethodName)) (z := (⟨"com/example/trips_into_trajectories/tripsintotrajectories/simulation/IntQueue", "poll", "()I"⟩ : MethodName)) hown (mvT hZ (hw _ (List.mem_of_getElem? (i := 27) rfl))) (mvT hZ (hw _ (List.mem_of_getElem? (i := 28) rfl))) (notFace_of_selects (args := #[]) (mvT hZ (hw _ (List.mem_of_getElem? (i := 30) rfl)))) (mvT hZ (hw _ (List.mem_of_getElem? (i := 30) rfl))) (mvT hZ (hw _ (List.mem_of_getElem? (i := 29) rfl))) (by decide) (backOf (W := 1) (rmP l Z a0 hw [] q 0 (fun i => own_md [p1, p2, p3, p4, ff] (i + 4)) T66.heap n0 J66.le J66) hZ (hw _ (List.mem_of_getElem? (i := 31) rfl)) (hw _ (List.mem_of_getElem? (i := 3) rfl)) (by decide) (by decide)) q69a q69c (g := (mkF m 427 #[.val (.int p1), .val (.int p2), .val (.int p3), .val (.int p4), .val (.int p5), .val (.long p6), .second, .val (.int mo), .val (.int ss), .val (.int gw), .val (.int ff), .val (.ref q), .val (.int (1 : Int32)), .val (.int (4 : Int32))] [(.ref q), (.int (1 : Int32))])) rfl (by rw [hml]; rfl) (Steps.refl _) (argsL := []) (rest := [(.int (1 : Int32))]) (lenOf pd_rm0_2 rfl) rfl (by show 2 * 0 + _ ≤ _; exact Nat.le_of_eq rfl) (hb hby at_427) (fun _ _ => ⟨rfl, (rfl : T66.heap = T66.heap), (by decide : 10 + 0 ≤ _), (by decide : 71 + 0 ≤ _)⟩)
    dsimp only [Pt.U, Pt.locs, Pt.cells, Pt.slots] at X69 l69 y69 z69 st69 hQ69
    subst l69 y69 z69
    obtain ⟨rfl, N69q, I69⟩ := hQ69
    have N69 := Fr.app N66 N69q
    have pre69 : Steps p.tables e below _ (T69.setTop (mkF m 430 #[.val (.int p1), .val (.int p2), .val (.int p3), .val (.int p4), .val (.int p5), .val (.long p6), .second, .val (.int mo), .val (.int ss), .val (.int gw), .val (.int ff), .val (.ref q), .val (.int (1 : Int32)), .val (.int (4 : Int32))] [(.int ff), (.int (1 : Int32))])) := pre68.trans (st69)
    have J69 : IQ Z n0 T69.heap q 0 (fun i => own_md [p1, p2, p3, p4, ff] (i + 5)) := IQ.less I69
    have pre70 : Steps p.tables e below _ (T69.setTop (mkF m 441 #[.val (.int p1), .val (.int p2), .val (.int p3), .val (.int p4), .val (.int p5), .val (.long p6), .second, .val (.int mo), .val (.int ss), .val (.int gw), .val (.int ff), .val (.ref q), .val (.int (1 : Int32)), .val (.int (4 : Int32))] [(.int ((1 : Int32) &&& (1 : Int32)))])) := pre69.trans (by
      show Steps p.tables e below (T69.setTop (mkF m 430 #[.val (.int p1), .val (.int p2), .val (.int p3), .val (.int p4), .val (.int p5), .val (.long p6), .second, .val (.int mo), .val (.int ss), .val (.int gw), .val (.int ff), .val (.ref q), .val (.int (1 : Int32)), .val (.int (4 : Int32))] [(.int ff), (.int (1 : Int32))])) _
      refine XS.iload X69.here hx rfl (hb hby at_430) rfl ?_
      show Steps p.tables e below (T69.setTop (mkF m 432 #[.val (.int p1), .val (.int p2), .val (.int p3), .val (.int p4), .val (.int p5), .val (.long p6), .second, .val (.int mo), .val (.int ss), .val (.int gw), .val (.int ff), .val (.ref q), .val (.int (1 : Int32)), .val (.int (4 : Int32))] [(.int ff), (.int ff), (.int (1 : Int32))])) _
      refine XS.icmpNo X69.here hx rfl (hb hby at_432) rfl (teq (rfl : ff = ff)).2 ?_
      show Steps p.tables e below (T69.setTop (mkF m 435 #[.val (.int p1), .val (.int p2), .val (.int p3), .val (.int p4), .val (.int p5), .val (.long p6), .second, .val (.int mo), .val (.int ss), .val (.int gw), .val (.int ff), .val (.ref q), .val (.int (1 : Int32)), .val (.int (4 : Int32))] [(.int (1 : Int32))])) _
      refine XS.iconst X69.here hx rfl (hb hby at_435) ?_
      show Steps p.tables e below (T69.setTop (mkF m 436 #[.val (.int p1), .val (.int p2), .val (.int p3), .val (.int p4), .val (.int p5), .val (.long p6), .second, .val (.int mo), .val (.int ss), .val (.int gw), .val (.int ff), .val (.ref q), .val (.int (1 : Int32)), .val (.int (4 : Int32))] [(.int (1 : Int32)), (.int (1 : Int32))])) _
      refine XS.goto X69.here hx rfl (pc0 := 436) (pc' := 440) rfl (hb hby at_436) (by decide) (by decide) ?_
      show Steps p.tables e below (T69.setTop (mkF m 440 #[.val (.int p1), .val (.int p2), .val (.int p3), .val (.int p4), .val (.int p5), .val (.long p6), .second, .val (.int mo), .val (.int ss), .val (.int gw), .val (.int ff), .val (.ref q), .val (.int (1 : Int32)), .val (.int (4 : Int32))] [(.int (1 : Int32)), (.int (1 : Int32))])) _
      refine XS.iand X69.here hx rfl (hb hby at_440) rfl ?_
      exact Steps.refl _)
    rw [e111] at pre70
    have pre71 : Steps p.tables e below _ (T69.setTop (mkF m 447 #[.val (.int p1), .val (.int p2), .val (.int p3), .val (.int p4), .val (.int p5), .val (.long p6), .second, .val (.int mo), .val (.int ss), .val (.int gw), .val (.int ff), .val (.ref q), .val (.int (1 : Int32)), .val (.int (4 : Int32))] [(.ref q), (.int (1 : Int32))])) := pre70.trans (by
      show Steps p.tables e below (T69.setTop (mkF m 441 #[.val (.int p1), .val (.int p2), .val (.int p3), .val (.int p4), .val (.int p5), .val (.long p6), .second, .val (.int mo), .val (.int ss), .val (.int gw), .val (.int ff), .val (.ref q), .val (.int (1 : Int32)), .val (.int (4 : Int32))] [(.int (1 : Int32))])) _
      refine XS.istore X69.here hx rfl (hb hby at_441) rfl (l' := #[.val (.int p1), .val (.int p2), .val (.int p3), .val (.int p4), .val (.int p5), .val (.long p6), .second, .val (.int mo), .val (.int ss), .val (.int gw), .val (.int ff), .val (.ref q), .val (.int (1 : Int32)), .val (.int (4 : Int32))]) rfl ?_
      show Steps p.tables e below (T69.setTop (mkF m 443 #[.val (.int p1), .val (.int p2), .val (.int p3), .val (.int p4), .val (.int p5), .val (.long p6), .second, .val (.int mo), .val (.int ss), .val (.int gw), .val (.int ff), .val (.ref q), .val (.int (1 : Int32)), .val (.int (4 : Int32))] [])) _
      refine XS.iload X69.here hx rfl (hb hby at_443) rfl ?_
      show Steps p.tables e below (T69.setTop (mkF m 445 #[.val (.int p1), .val (.int p2), .val (.int p3), .val (.int p4), .val (.int p5), .val (.long p6), .second, .val (.int mo), .val (.int ss), .val (.int gw), .val (.int ff), .val (.ref q), .val (.int (1 : Int32)), .val (.int (4 : Int32))] [(.int (1 : Int32))])) _
      refine XS.aload X69.here hx rfl (hb hby at_445) rfl rfl ?_
      exact Steps.refl _)
    obtain ⟨cq72, kq72, q72a, q72b, q72c⟩ := isOf hZ (rfl : T69.heap = T69.heap) J69.exa
    obtain ⟨_, _, ⟨T72, L72, k72, n72⟩, -, X72, ⟨Lc72, hQ72, l72, y72, z72⟩, st72⟩ := X69.virtualBack hx (y := (⟨"com/example/trips_into_trajectories/tripsintotrajectories/simulation/IntQueue", "size", "()I"⟩ : MethodName)) (z := (⟨"com/example/trips_into_trajectories/tripsintotrajectories/simulation/IntQueue", "size", "()I"⟩ : MethodName)) hown (mvT hZ (hw _ (List.mem_of_getElem? (i := 13) rfl))) (mvT hZ (hw _ (List.mem_of_getElem? (i := 14) rfl))) (notFace_of_selects (args := #[]) (mvT hZ (hw _ (List.mem_of_getElem? (i := 16) rfl)))) (mvT hZ (hw _ (List.mem_of_getElem? (i := 16) rfl))) (mvT hZ (hw _ (List.mem_of_getElem? (i := 15) rfl))) (by decide) (backOf (W := 1) (rmS l Z a0 hw [] q 0 (fun i => own_md [p1, p2, p3, p4, ff] (i + 5)) T69.heap n0 J69.le J69) hZ (hw _ (List.mem_of_getElem? (i := 17) rfl)) (hw _ (List.mem_of_getElem? (i := 3) rfl)) (by decide) (by decide)) q72a q72c (g := (mkF m 447 #[.val (.int p1), .val (.int p2), .val (.int p3), .val (.int p4), .val (.int p5), .val (.long p6), .second, .val (.int mo), .val (.int ss), .val (.int gw), .val (.int ff), .val (.ref q), .val (.int (1 : Int32)), .val (.int (4 : Int32))] [(.ref q), (.int (1 : Int32))])) rfl (by rw [hml]; rfl) (Steps.refl _) (argsL := []) (rest := [(.int (1 : Int32))]) (lenOf pd_rm0_2 rfl) rfl (by show 2 * 0 + _ ≤ _; exact Nat.le_of_eq rfl) (hb hby at_447) (fun _ _ => ⟨rfl, (rfl : T69.heap = T69.heap), (by decide : 10 + 0 ≤ _), (by decide : 71 + 0 ≤ _)⟩)
    dsimp only [Pt.U, Pt.locs, Pt.cells, Pt.slots] at X72 l72 y72 z72 st72 hQ72
    subst l72 y72 z72
    obtain ⟨rfl, N72q, hh72⟩ := hQ72
    have N72 := Fr.app N69 N72q
    have pre72 : Steps p.tables e below _ (T72.setTop (mkF m 450 #[.val (.int p1), .val (.int p2), .val (.int p3), .val (.int p4), .val (.int p5), .val (.long p6), .second, .val (.int mo), .val (.int ss), .val (.int gw), .val (.int ff), .val (.ref q), .val (.int (1 : Int32)), .val (.int (4 : Int32))] [(.int (Int32.ofNat 0)), (.int (1 : Int32))])) := pre71.trans (st72)
    have J72 : IQ Z n0 T72.heap q 0 (fun i => own_md [p1, p2, p3, p4, ff] (i + 5)) := by rw [hh72]; exact J69
    have pre73 : Steps p.tables e below _ (T72.setTop (mkF m 459 #[.val (.int p1), .val (.int p2), .val (.int p3), .val (.int p4), .val (.int p5), .val (.long p6), .second, .val (.int mo), .val (.int ss), .val (.int gw), .val (.int ff), .val (.ref q), .val (.int (1 : Int32)), .val (.int (4 : Int32))] [(.int ((1 : Int32) &&& (1 : Int32)))])) := pre72.trans (by
      show Steps p.tables e below (T72.setTop (mkF m 450 #[.val (.int p1), .val (.int p2), .val (.int p3), .val (.int p4), .val (.int p5), .val (.long p6), .second, .val (.int mo), .val (.int ss), .val (.int gw), .val (.int ff), .val (.ref q), .val (.int (1 : Int32)), .val (.int (4 : Int32))] [(.int (Int32.ofNat 0)), (.int (1 : Int32))])) _
      refine XS.ifNo X72.here hx rfl (hb hby at_450) rfl ((if0 _ _).trans (teq (by decide : Int32.ofNat 0 = (0 : Int32))).2) ?_
      show Steps p.tables e below (T72.setTop (mkF m 453 #[.val (.int p1), .val (.int p2), .val (.int p3), .val (.int p4), .val (.int p5), .val (.long p6), .second, .val (.int mo), .val (.int ss), .val (.int gw), .val (.int ff), .val (.ref q), .val (.int (1 : Int32)), .val (.int (4 : Int32))] [(.int (1 : Int32))])) _
      refine XS.iconst X72.here hx rfl (hb hby at_453) ?_
      show Steps p.tables e below (T72.setTop (mkF m 454 #[.val (.int p1), .val (.int p2), .val (.int p3), .val (.int p4), .val (.int p5), .val (.long p6), .second, .val (.int mo), .val (.int ss), .val (.int gw), .val (.int ff), .val (.ref q), .val (.int (1 : Int32)), .val (.int (4 : Int32))] [(.int (1 : Int32)), (.int (1 : Int32))])) _
      refine XS.goto X72.here hx rfl (pc0 := 454) (pc' := 458) rfl (hb hby at_454) (by decide) (by decide) ?_
      show Steps p.tables e below (T72.setTop (mkF m 458 #[.val (.int p1), .val (.int p2), .val (.int p3), .val (.int p4), .val (.int p5), .val (.long p6), .second, .val (.int mo), .val (.int ss), .val (.int gw), .val (.int ff), .val (.ref q), .val (.int (1 : Int32)), .val (.int (4 : Int32))] [(.int (1 : Int32)), (.int (1 : Int32))])) _
      refine XS.iand X72.here hx rfl (hb hby at_458) rfl ?_
      exact Steps.refl _)
    rw [e111] at pre73
    have pre74 : Steps p.tables e below _ (T72.setTop (mkF m 463 #[.val (.int p1), .val (.int p2), .val (.int p3), .val (.int p4), .val (.int p5), .val (.long p6), .second, .val (.int mo), .val (.int ss), .val (.int gw), .val (.int ff), .val (.ref q), .val (.int (1 : Int32)), .val (.int (4 : Int32))] [(.int (1 : Int32))])) := pre73.trans (by
      show Steps p.tables e below (T72.setTop (mkF m 459 #[.val (.int p1), .val (.int p2), .val (.int p3), .val (.int p4), .val (.int p5), .val (.long p6), .second, .val (.int mo), .val (.int ss), .val (.int gw), .val (.int ff), .val (.ref q), .val (.int (1 : Int32)), .val (.int (4 : Int32))] [(.int (1 : Int32))])) _
      refine XS.istore X72.here hx rfl (hb hby at_459) rfl (l' := #[.val (.int p1), .val (.int p2), .val (.int p3), .val (.int p4), .val (.int p5), .val (.long p6), .second, .val (.int mo), .val (.int ss), .val (.int gw), .val (.int ff), .val (.ref q), .val (.int (1 : Int32)), .val (.int (4 : Int32))]) rfl ?_
      show Steps p.tables e below (T72.setTop (mkF m 461 #[.val (.int p1), .val (.int p2), .val (.int p3), .val (.int p4), .val (.int p5), .val (.long p6), .second, .val (.int mo), .val (.int ss), .val (.int gw), .val (.int ff), .val (.ref q), .val (.int (1 : Int32)), .val (.int (4 : Int32))] [])) _
      refine XS.iload X72.here hx rfl (hb hby at_461) rfl ?_
      exact Steps.refl _)
    obtain ⟨fs, hr, hrun, hended, hW, hsame⟩ := X72.leave (v := some (.int (1 : Int32))) (fun h => by rw [Bd.returns] at h; cases h)
    refine ⟨_, _, pre74.trans ?_, hrun, hended, _, _, rfl, ?_, ⟨_, rfl⟩, hW, hsame.mono (by decide) (by decide)⟩
    · exact retN X72 hx (t := .boolean) Bd.returns (by simp) (hb hby at_463) hr
    · exact ⟨rfl, N72⟩
  · have hgw := h
    have J0 : IQ Z n0 T31.heap q 0 (fun i => own_md [p1, p2, p3, p4, p5, ff] (i + 0)) := JS _
    have pre75 : Steps p.tables e below _ (T31.setTop (mkF m 163 #[.val (.int p1), .val (.int p2), .val (.int p3), .val (.int p4), .val (.int p5), .val (.long p6), .second, .val (.int mo), .val (.int ss), .val (.int gw), .val (.int ff), .val (.ref q), .val (.int (1 : Int32)), .unset] [(.int p1), (.ref q)])) := pre33.trans (by
      show Steps p.tables e below (T31.setTop (mkF m 160 #[.val (.int p1), .val (.int p2), .val (.int p3), .val (.int p4), .val (.int p5), .val (.long p6), .second, .val (.int mo), .val (.int ss), .val (.int gw), .val (.int ff), .val (.ref q), .val (.int (1 : Int32)), .unset] [])) _
      refine XS.aload X31.here hx rfl (hb hby at_160) rfl rfl ?_
      show Steps p.tables e below (T31.setTop (mkF m 162 #[.val (.int p1), .val (.int p2), .val (.int p3), .val (.int p4), .val (.int p5), .val (.long p6), .second, .val (.int mo), .val (.int ss), .val (.int gw), .val (.int ff), .val (.ref q), .val (.int (1 : Int32)), .unset] [(.ref q)])) _
      refine XS.iloadN X31.here hx rfl (hb hby at_162) rfl ?_
      exact Steps.refl _)
    obtain ⟨cq76, kq76, q76a, q76b, q76c⟩ := isOf hZ (rfl : T31.heap = T31.heap) J0.exa
    obtain ⟨_, _, ⟨T76, L76, k76, n76⟩, -, X76, ⟨Lc76, hQ76, l76, y76, z76⟩, st76⟩ := X31.virtualBack hx (y := (⟨"com/example/trips_into_trajectories/tripsintotrajectories/simulation/IntQueue", "add", "(I)V"⟩ : MethodName)) (z := (⟨"com/example/trips_into_trajectories/tripsintotrajectories/simulation/IntQueue", "add", "(I)V"⟩ : MethodName)) hown (mvT hZ (hw _ (List.mem_of_getElem? (i := 20) rfl))) (mvT hZ (hw _ (List.mem_of_getElem? (i := 21) rfl))) (notFace_of_selects (args := #[]) (mvT hZ (hw _ (List.mem_of_getElem? (i := 23) rfl)))) (mvT hZ (hw _ (List.mem_of_getElem? (i := 23) rfl))) (mvT hZ (hw _ (List.mem_of_getElem? (i := 22) rfl))) (by decide) (backOf (W := 0) (rmD l Z a0 hw [] q p1 0 (fun i => own_md [p1, p2, p3, p4, p5, ff] (i + 0)) T31.heap n0 J0.le J0 (by decide)) hZ (hw _ (List.mem_of_getElem? (i := 24) rfl)) (hw _ (List.mem_of_getElem? (i := 3) rfl)) (by decide) (by decide)) q76a q76c (g := (mkF m 163 #[.val (.int p1), .val (.int p2), .val (.int p3), .val (.int p4), .val (.int p5), .val (.long p6), .second, .val (.int mo), .val (.int ss), .val (.int gw), .val (.int ff), .val (.ref q), .val (.int (1 : Int32)), .unset] [(.int p1), (.ref q)])) rfl (by rw [hml]; rfl) (Steps.refl _) (argsL := [(.int p1)]) (rest := []) (lenOf pd_rm0_1 rfl) rfl (by show 2 * 0 + _ ≤ _; exact Nat.le_of_eq rfl) (hb hby at_163) (fun _ _ => ⟨rfl, (rfl : T31.heap = T31.heap), (by decide : 5 + 1 ≤ _), (by decide : 31 + 8 ≤ _)⟩)
    dsimp only [Pt.U, Pt.locs, Pt.cells, Pt.slots] at X76 l76 y76 z76 st76 hQ76
    subst l76 y76 z76
    obtain ⟨rfl, N76q, I76⟩ := hQ76
    have N76 := Fr.app N31 N76q
    have pre76 : Steps p.tables e below _ (T76.setTop (mkF m 166 #[.val (.int p1), .val (.int p2), .val (.int p3), .val (.int p4), .val (.int p5), .val (.long p6), .second, .val (.int mo), .val (.int ss), .val (.int gw), .val (.int ff), .val (.ref q), .val (.int (1 : Int32)), .unset] [])) := pre75.trans (st76)
    have J76 : IQ Z n0 T76.heap q 1 (fun i => own_md [p1, p2, p3, p4, p5, ff] (i + 0)) := IQ.next I76 rfl
    have pre77 : Steps p.tables e below _ (T76.setTop (mkF m 169 #[.val (.int p1), .val (.int p2), .val (.int p3), .val (.int p4), .val (.int p5), .val (.long p6), .second, .val (.int mo), .val (.int ss), .val (.int gw), .val (.int ff), .val (.ref q), .val (.int (1 : Int32)), .unset] [(.int p2), (.ref q)])) := pre76.trans (by
      show Steps p.tables e below (T76.setTop (mkF m 166 #[.val (.int p1), .val (.int p2), .val (.int p3), .val (.int p4), .val (.int p5), .val (.long p6), .second, .val (.int mo), .val (.int ss), .val (.int gw), .val (.int ff), .val (.ref q), .val (.int (1 : Int32)), .unset] [])) _
      refine XS.aload X76.here hx rfl (hb hby at_166) rfl rfl ?_
      show Steps p.tables e below (T76.setTop (mkF m 168 #[.val (.int p1), .val (.int p2), .val (.int p3), .val (.int p4), .val (.int p5), .val (.long p6), .second, .val (.int mo), .val (.int ss), .val (.int gw), .val (.int ff), .val (.ref q), .val (.int (1 : Int32)), .unset] [(.ref q)])) _
      refine XS.iloadN X76.here hx rfl (hb hby at_168) rfl ?_
      exact Steps.refl _)
    obtain ⟨cq78, kq78, q78a, q78b, q78c⟩ := isOf hZ (rfl : T76.heap = T76.heap) J76.exa
    obtain ⟨_, _, ⟨T78, L78, k78, n78⟩, -, X78, ⟨Lc78, hQ78, l78, y78, z78⟩, st78⟩ := X76.virtualBack hx (y := (⟨"com/example/trips_into_trajectories/tripsintotrajectories/simulation/IntQueue", "add", "(I)V"⟩ : MethodName)) (z := (⟨"com/example/trips_into_trajectories/tripsintotrajectories/simulation/IntQueue", "add", "(I)V"⟩ : MethodName)) hown (mvT hZ (hw _ (List.mem_of_getElem? (i := 20) rfl))) (mvT hZ (hw _ (List.mem_of_getElem? (i := 21) rfl))) (notFace_of_selects (args := #[]) (mvT hZ (hw _ (List.mem_of_getElem? (i := 23) rfl)))) (mvT hZ (hw _ (List.mem_of_getElem? (i := 23) rfl))) (mvT hZ (hw _ (List.mem_of_getElem? (i := 22) rfl))) (by decide) (backOf (W := 0) (rmD l Z a0 hw [] q p2 1 (fun i => own_md [p1, p2, p3, p4, p5, ff] (i + 0)) T76.heap n0 J76.le J76 (by decide)) hZ (hw _ (List.mem_of_getElem? (i := 24) rfl)) (hw _ (List.mem_of_getElem? (i := 3) rfl)) (by decide) (by decide)) q78a q78c (g := (mkF m 169 #[.val (.int p1), .val (.int p2), .val (.int p3), .val (.int p4), .val (.int p5), .val (.long p6), .second, .val (.int mo), .val (.int ss), .val (.int gw), .val (.int ff), .val (.ref q), .val (.int (1 : Int32)), .unset] [(.int p2), (.ref q)])) rfl (by rw [hml]; rfl) (Steps.refl _) (argsL := [(.int p2)]) (rest := []) (lenOf pd_rm0_1 rfl) rfl (by show 2 * 0 + _ ≤ _; exact Nat.le_of_eq rfl) (hb hby at_169) (fun _ _ => ⟨rfl, (rfl : T76.heap = T76.heap), (by decide : 6 + 1 ≤ _), (by decide : 39 + 8 ≤ _)⟩)
    dsimp only [Pt.U, Pt.locs, Pt.cells, Pt.slots] at X78 l78 y78 z78 st78 hQ78
    subst l78 y78 z78
    obtain ⟨rfl, N78q, I78⟩ := hQ78
    have N78 := Fr.app N76 N78q
    have pre78 : Steps p.tables e below _ (T78.setTop (mkF m 172 #[.val (.int p1), .val (.int p2), .val (.int p3), .val (.int p4), .val (.int p5), .val (.long p6), .second, .val (.int mo), .val (.int ss), .val (.int gw), .val (.int ff), .val (.ref q), .val (.int (1 : Int32)), .unset] [])) := pre77.trans (st78)
    have J78 : IQ Z n0 T78.heap q 2 (fun i => own_md [p1, p2, p3, p4, p5, ff] (i + 0)) := IQ.next I78 rfl
    have pre79 : Steps p.tables e below _ (T78.setTop (mkF m 175 #[.val (.int p1), .val (.int p2), .val (.int p3), .val (.int p4), .val (.int p5), .val (.long p6), .second, .val (.int mo), .val (.int ss), .val (.int gw), .val (.int ff), .val (.ref q), .val (.int (1 : Int32)), .unset] [(.int p3), (.ref q)])) := pre78.trans (by
      show Steps p.tables e below (T78.setTop (mkF m 172 #[.val (.int p1), .val (.int p2), .val (.int p3), .val (.int p4), .val (.int p5), .val (.long p6), .second, .val (.int mo), .val (.int ss), .val (.int gw), .val (.int ff), .val (.ref q), .val (.int (1 : Int32)), .unset] [])) _
      refine XS.aload X78.here hx rfl (hb hby at_172) rfl rfl ?_
      show Steps p.tables e below (T78.setTop (mkF m 174 #[.val (.int p1), .val (.int p2), .val (.int p3), .val (.int p4), .val (.int p5), .val (.long p6), .second, .val (.int mo), .val (.int ss), .val (.int gw), .val (.int ff), .val (.ref q), .val (.int (1 : Int32)), .unset] [(.ref q)])) _
      refine XS.iloadN X78.here hx rfl (hb hby at_174) rfl ?_
      exact Steps.refl _)
    obtain ⟨cq80, kq80, q80a, q80b, q80c⟩ := isOf hZ (rfl : T78.heap = T78.heap) J78.exa
    obtain ⟨_, _, ⟨T80, L80, k80, n80⟩, -, X80, ⟨Lc80, hQ80, l80, y80, z80⟩, st80⟩ := X78.virtualBack hx (y := (⟨"com/example/trips_into_trajectories/tripsintotrajectories/simulation/IntQueue", "add", "(I)V"⟩ : MethodName)) (z := (⟨"com/example/trips_into_trajectories/tripsintotrajectories/simulation/IntQueue", "add", "(I)V"⟩ : MethodName)) hown (mvT hZ (hw _ (List.mem_of_getElem? (i := 20) rfl))) (mvT hZ (hw _ (List.mem_of_getElem? (i := 21) rfl))) (notFace_of_selects (args := #[]) (mvT hZ (hw _ (List.mem_of_getElem? (i := 23) rfl)))) (mvT hZ (hw _ (List.mem_of_getElem? (i := 23) rfl))) (mvT hZ (hw _ (List.mem_of_getElem? (i := 22) rfl))) (by decide) (backOf (W := 0) (rmD l Z a0 hw [] q p3 2 (fun i => own_md [p1, p2, p3, p4, p5, ff] (i + 0)) T78.heap n0 J78.le J78 (by decide)) hZ (hw _ (List.mem_of_getElem? (i := 24) rfl)) (hw _ (List.mem_of_getElem? (i := 3) rfl)) (by decide) (by decide)) q80a q80c (g := (mkF m 175 #[.val (.int p1), .val (.int p2), .val (.int p3), .val (.int p4), .val (.int p5), .val (.long p6), .second, .val (.int mo), .val (.int ss), .val (.int gw), .val (.int ff), .val (.ref q), .val (.int (1 : Int32)), .unset] [(.int p3), (.ref q)])) rfl (by rw [hml]; rfl) (Steps.refl _) (argsL := [(.int p3)]) (rest := []) (lenOf pd_rm0_1 rfl) rfl (by show 2 * 0 + _ ≤ _; exact Nat.le_of_eq rfl) (hb hby at_175) (fun _ _ => ⟨rfl, (rfl : T78.heap = T78.heap), (by decide : 7 + 1 ≤ _), (by decide : 47 + 8 ≤ _)⟩)
    dsimp only [Pt.U, Pt.locs, Pt.cells, Pt.slots] at X80 l80 y80 z80 st80 hQ80
    subst l80 y80 z80
    obtain ⟨rfl, N80q, I80⟩ := hQ80
    have N80 := Fr.app N78 N80q
    have pre80 : Steps p.tables e below _ (T80.setTop (mkF m 178 #[.val (.int p1), .val (.int p2), .val (.int p3), .val (.int p4), .val (.int p5), .val (.long p6), .second, .val (.int mo), .val (.int ss), .val (.int gw), .val (.int ff), .val (.ref q), .val (.int (1 : Int32)), .unset] [])) := pre79.trans (st80)
    have J80 : IQ Z n0 T80.heap q 3 (fun i => own_md [p1, p2, p3, p4, p5, ff] (i + 0)) := IQ.next I80 rfl
    have pre81 : Steps p.tables e below _ (T80.setTop (mkF m 181 #[.val (.int p1), .val (.int p2), .val (.int p3), .val (.int p4), .val (.int p5), .val (.long p6), .second, .val (.int mo), .val (.int ss), .val (.int gw), .val (.int ff), .val (.ref q), .val (.int (1 : Int32)), .unset] [(.int p4), (.ref q)])) := pre80.trans (by
      show Steps p.tables e below (T80.setTop (mkF m 178 #[.val (.int p1), .val (.int p2), .val (.int p3), .val (.int p4), .val (.int p5), .val (.long p6), .second, .val (.int mo), .val (.int ss), .val (.int gw), .val (.int ff), .val (.ref q), .val (.int (1 : Int32)), .unset] [])) _
      refine XS.aload X80.here hx rfl (hb hby at_178) rfl rfl ?_
      show Steps p.tables e below (T80.setTop (mkF m 180 #[.val (.int p1), .val (.int p2), .val (.int p3), .val (.int p4), .val (.int p5), .val (.long p6), .second, .val (.int mo), .val (.int ss), .val (.int gw), .val (.int ff), .val (.ref q), .val (.int (1 : Int32)), .unset] [(.ref q)])) _
      refine XS.iloadN X80.here hx rfl (hb hby at_180) rfl ?_
      exact Steps.refl _)
    obtain ⟨cq82, kq82, q82a, q82b, q82c⟩ := isOf hZ (rfl : T80.heap = T80.heap) J80.exa
    obtain ⟨_, _, ⟨T82, L82, k82, n82⟩, -, X82, ⟨Lc82, hQ82, l82, y82, z82⟩, st82⟩ := X80.virtualBack hx (y := (⟨"com/example/trips_into_trajectories/tripsintotrajectories/simulation/IntQueue", "add", "(I)V"⟩ : MethodName)) (z := (⟨"com/example/trips_into_trajectories/tripsintotrajectories/simulation/IntQueue", "add", "(I)V"⟩ : MethodName)) hown (mvT hZ (hw _ (List.mem_of_getElem? (i := 20) rfl))) (mvT hZ (hw _ (List.mem_of_getElem? (i := 21) rfl))) (notFace_of_selects (args := #[]) (mvT hZ (hw _ (List.mem_of_getElem? (i := 23) rfl)))) (mvT hZ (hw _ (List.mem_of_getElem? (i := 23) rfl))) (mvT hZ (hw _ (List.mem_of_getElem? (i := 22) rfl))) (by decide) (backOf (W := 0) (rmD l Z a0 hw [] q p4 3 (fun i => own_md [p1, p2, p3, p4, p5, ff] (i + 0)) T80.heap n0 J80.le J80 (by decide)) hZ (hw _ (List.mem_of_getElem? (i := 24) rfl)) (hw _ (List.mem_of_getElem? (i := 3) rfl)) (by decide) (by decide)) q82a q82c (g := (mkF m 181 #[.val (.int p1), .val (.int p2), .val (.int p3), .val (.int p4), .val (.int p5), .val (.long p6), .second, .val (.int mo), .val (.int ss), .val (.int gw), .val (.int ff), .val (.ref q), .val (.int (1 : Int32)), .unset] [(.int p4), (.ref q)])) rfl (by rw [hml]; rfl) (Steps.refl _) (argsL := [(.int p4)]) (rest := []) (lenOf pd_rm0_1 rfl) rfl (by show 2 * 0 + _ ≤ _; exact Nat.le_of_eq rfl) (hb hby at_181) (fun _ _ => ⟨rfl, (rfl : T80.heap = T80.heap), (by decide : 8 + 1 ≤ _), (by decide : 55 + 8 ≤ _)⟩)
    dsimp only [Pt.U, Pt.locs, Pt.cells, Pt.slots] at X82 l82 y82 z82 st82 hQ82
    subst l82 y82 z82
    obtain ⟨rfl, N82q, I82⟩ := hQ82
    have N82 := Fr.app N80 N82q
    have pre82 : Steps p.tables e below _ (T82.setTop (mkF m 184 #[.val (.int p1), .val (.int p2), .val (.int p3), .val (.int p4), .val (.int p5), .val (.long p6), .second, .val (.int mo), .val (.int ss), .val (.int gw), .val (.int ff), .val (.ref q), .val (.int (1 : Int32)), .unset] [])) := pre81.trans (st82)
    have J82 : IQ Z n0 T82.heap q 4 (fun i => own_md [p1, p2, p3, p4, p5, ff] (i + 0)) := IQ.next I82 rfl
    have pre83 : Steps p.tables e below _ (T82.setTop (mkF m 193 #[.val (.int p1), .val (.int p2), .val (.int p3), .val (.int p4), .val (.int p5), .val (.long p6), .second, .val (.int mo), .val (.int ss), .val (.int gw), .val (.int ff), .val (.ref q), .val (.int (1 : Int32)), .unset] [(.int p5), (.ref q)])) := pre82.trans (by
      show Steps p.tables e below (T82.setTop (mkF m 184 #[.val (.int p1), .val (.int p2), .val (.int p3), .val (.int p4), .val (.int p5), .val (.long p6), .second, .val (.int mo), .val (.int ss), .val (.int gw), .val (.int ff), .val (.ref q), .val (.int (1 : Int32)), .unset] [])) _
      refine XS.iload X82.here hx rfl (hb hby at_184) rfl ?_
      show Steps p.tables e below (T82.setTop (mkF m 186 #[.val (.int p1), .val (.int p2), .val (.int p3), .val (.int p4), .val (.int p5), .val (.long p6), .second, .val (.int mo), .val (.int ss), .val (.int gw), .val (.int ff), .val (.ref q), .val (.int (1 : Int32)), .unset] [(.int gw)])) _
      refine XS.ifNo X82.here hx rfl (hb hby at_186) rfl ((if0 _ _).trans (feq hgw).1) ?_
      show Steps p.tables e below (T82.setTop (mkF m 189 #[.val (.int p1), .val (.int p2), .val (.int p3), .val (.int p4), .val (.int p5), .val (.long p6), .second, .val (.int mo), .val (.int ss), .val (.int gw), .val (.int ff), .val (.ref q), .val (.int (1 : Int32)), .unset] [])) _
      refine XS.aload X82.here hx rfl (hb hby at_189) rfl rfl ?_
      show Steps p.tables e below (T82.setTop (mkF m 191 #[.val (.int p1), .val (.int p2), .val (.int p3), .val (.int p4), .val (.int p5), .val (.long p6), .second, .val (.int mo), .val (.int ss), .val (.int gw), .val (.int ff), .val (.ref q), .val (.int (1 : Int32)), .unset] [(.ref q)])) _
      refine XS.iload X82.here hx rfl (hb hby at_191) rfl ?_
      exact Steps.refl _)
    obtain ⟨cq84, kq84, q84a, q84b, q84c⟩ := isOf hZ (rfl : T82.heap = T82.heap) J82.exa
    obtain ⟨_, _, ⟨T84, L84, k84, n84⟩, -, X84, ⟨Lc84, hQ84, l84, y84, z84⟩, st84⟩ := X82.virtualBack hx (y := (⟨"com/example/trips_into_trajectories/tripsintotrajectories/simulation/IntQueue", "add", "(I)V"⟩ : MethodName)) (z := (⟨"com/example/trips_into_trajectories/tripsintotrajectories/simulation/IntQueue", "add", "(I)V"⟩ : MethodName)) hown (mvT hZ (hw _ (List.mem_of_getElem? (i := 20) rfl))) (mvT hZ (hw _ (List.mem_of_getElem? (i := 21) rfl))) (notFace_of_selects (args := #[]) (mvT hZ (hw _ (List.mem_of_getElem? (i := 23) rfl)))) (mvT hZ (hw _ (List.mem_of_getElem? (i := 23) rfl))) (mvT hZ (hw _ (List.mem_of_getElem? (i := 22) rfl))) (by decide) (backOf (W := 0) (rmD l Z a0 hw [] q p5 4 (fun i => own_md [p1, p2, p3, p4, p5, ff] (i + 0)) T82.heap n0 J82.le J82 (by decide)) hZ (hw _ (List.mem_of_getElem? (i := 24) rfl)) (hw _ (List.mem_of_getElem? (i := 3) rfl)) (by decide) (by decide)) q84a q84c (g := (mkF m 193 #[.val (.int p1), .val (.int p2), .val (.int p3), .val (.int p4), .val (.int p5), .val (.long p6), .second, .val (.int mo), .val (.int ss), .val (.int gw), .val (.int ff), .val (.ref q), .val (.int (1 : Int32)), .unset] [(.int p5), (.ref q)])) rfl (by rw [hml]; rfl) (Steps.refl _) (argsL := [(.int p5)]) (rest := []) (lenOf pd_rm0_1 rfl) rfl (by show 2 * 0 + _ ≤ _; exact Nat.le_of_eq rfl) (hb hby at_193) (fun _ _ => ⟨rfl, (rfl : T82.heap = T82.heap), (by decide : 9 + 1 ≤ _), (by decide : 63 + 8 ≤ _)⟩)
    dsimp only [Pt.U, Pt.locs, Pt.cells, Pt.slots] at X84 l84 y84 z84 st84 hQ84
    subst l84 y84 z84
    obtain ⟨rfl, N84q, I84⟩ := hQ84
    have N84 := Fr.app N82 N84q
    have pre84 : Steps p.tables e below _ (T84.setTop (mkF m 196 #[.val (.int p1), .val (.int p2), .val (.int p3), .val (.int p4), .val (.int p5), .val (.long p6), .second, .val (.int mo), .val (.int ss), .val (.int gw), .val (.int ff), .val (.ref q), .val (.int (1 : Int32)), .unset] [])) := pre83.trans (st84)
    have J84 : IQ Z n0 T84.heap q 5 (fun i => own_md [p1, p2, p3, p4, p5, ff] (i + 0)) := IQ.next I84 rfl
    have pre85 : Steps p.tables e below _ (T84.setTop (mkF m 212 #[.val (.int p1), .val (.int p2), .val (.int p3), .val (.int p4), .val (.int p5), .val (.long p6), .second, .val (.int mo), .val (.int ss), .val (.int gw), .val (.int ff), .val (.ref q), .val (.int (1 : Int32)), .val (.int (5 : Int32))] [(.ref q), (.int (1 : Int32))])) := pre84.trans (by
      show Steps p.tables e below (T84.setTop (mkF m 196 #[.val (.int p1), .val (.int p2), .val (.int p3), .val (.int p4), .val (.int p5), .val (.long p6), .second, .val (.int mo), .val (.int ss), .val (.int gw), .val (.int ff), .val (.ref q), .val (.int (1 : Int32)), .unset] [])) _
      refine XS.iload X84.here hx rfl (hb hby at_196) rfl ?_
      show Steps p.tables e below (T84.setTop (mkF m 198 #[.val (.int p1), .val (.int p2), .val (.int p3), .val (.int p4), .val (.int p5), .val (.long p6), .second, .val (.int mo), .val (.int ss), .val (.int gw), .val (.int ff), .val (.ref q), .val (.int (1 : Int32)), .unset] [(.int gw)])) _
      refine XS.ifNo X84.here hx rfl (hb hby at_198) rfl ((if0 _ _).trans (feq hgw).1) ?_
      show Steps p.tables e below (T84.setTop (mkF m 201 #[.val (.int p1), .val (.int p2), .val (.int p3), .val (.int p4), .val (.int p5), .val (.long p6), .second, .val (.int mo), .val (.int ss), .val (.int gw), .val (.int ff), .val (.ref q), .val (.int (1 : Int32)), .unset] [])) _
      refine XS.iconst X84.here hx rfl (hb hby at_201) ?_
      show Steps p.tables e below (T84.setTop (mkF m 202 #[.val (.int p1), .val (.int p2), .val (.int p3), .val (.int p4), .val (.int p5), .val (.long p6), .second, .val (.int mo), .val (.int ss), .val (.int gw), .val (.int ff), .val (.ref q), .val (.int (1 : Int32)), .unset] [(.int (5 : Int32))])) _
      refine XS.goto X84.here hx rfl (pc0 := 202) (pc' := 206) rfl (hb hby at_202) (by decide) (by decide) ?_
      show Steps p.tables e below (T84.setTop (mkF m 206 #[.val (.int p1), .val (.int p2), .val (.int p3), .val (.int p4), .val (.int p5), .val (.long p6), .second, .val (.int mo), .val (.int ss), .val (.int gw), .val (.int ff), .val (.ref q), .val (.int (1 : Int32)), .unset] [(.int (5 : Int32))])) _
      refine XS.istore X84.here hx rfl (hb hby at_206) rfl (l' := #[.val (.int p1), .val (.int p2), .val (.int p3), .val (.int p4), .val (.int p5), .val (.long p6), .second, .val (.int mo), .val (.int ss), .val (.int gw), .val (.int ff), .val (.ref q), .val (.int (1 : Int32)), .val (.int (5 : Int32))]) rfl ?_
      show Steps p.tables e below (T84.setTop (mkF m 208 #[.val (.int p1), .val (.int p2), .val (.int p3), .val (.int p4), .val (.int p5), .val (.long p6), .second, .val (.int mo), .val (.int ss), .val (.int gw), .val (.int ff), .val (.ref q), .val (.int (1 : Int32)), .val (.int (5 : Int32))] [])) _
      refine XS.iload X84.here hx rfl (hb hby at_208) rfl ?_
      show Steps p.tables e below (T84.setTop (mkF m 210 #[.val (.int p1), .val (.int p2), .val (.int p3), .val (.int p4), .val (.int p5), .val (.long p6), .second, .val (.int mo), .val (.int ss), .val (.int gw), .val (.int ff), .val (.ref q), .val (.int (1 : Int32)), .val (.int (5 : Int32))] [(.int (1 : Int32))])) _
      refine XS.aload X84.here hx rfl (hb hby at_210) rfl rfl ?_
      exact Steps.refl _)
    obtain ⟨cq86, kq86, q86a, q86b, q86c⟩ := isOf hZ (rfl : T84.heap = T84.heap) J84.exa
    obtain ⟨_, _, ⟨T86, L86, k86, n86⟩, -, X86, ⟨Lc86, hQ86, l86, y86, z86⟩, st86⟩ := X84.virtualBack hx (y := (⟨"com/example/trips_into_trajectories/tripsintotrajectories/simulation/IntQueue", "poll", "()I"⟩ : MethodName)) (z := (⟨"com/example/trips_into_trajectories/tripsintotrajectories/simulation/IntQueue", "poll", "()I"⟩ : MethodName)) hown (mvT hZ (hw _ (List.mem_of_getElem? (i := 27) rfl))) (mvT hZ (hw _ (List.mem_of_getElem? (i := 28) rfl))) (notFace_of_selects (args := #[]) (mvT hZ (hw _ (List.mem_of_getElem? (i := 30) rfl)))) (mvT hZ (hw _ (List.mem_of_getElem? (i := 30) rfl))) (mvT hZ (hw _ (List.mem_of_getElem? (i := 29) rfl))) (by decide) (backOf (W := 1) (rmP l Z a0 hw [] q 4 (fun i => own_md [p1, p2, p3, p4, p5, ff] (i + 0)) T84.heap n0 J84.le J84) hZ (hw _ (List.mem_of_getElem? (i := 31) rfl)) (hw _ (List.mem_of_getElem? (i := 3) rfl)) (by decide) (by decide)) q86a q86c (g := (mkF m 212 #[.val (.int p1), .val (.int p2), .val (.int p3), .val (.int p4), .val (.int p5), .val (.long p6), .second, .val (.int mo), .val (.int ss), .val (.int gw), .val (.int ff), .val (.ref q), .val (.int (1 : Int32)), .val (.int (5 : Int32))] [(.ref q), (.int (1 : Int32))])) rfl (by rw [hml]; rfl) (Steps.refl _) (argsL := []) (rest := [(.int (1 : Int32))]) (lenOf pd_rm0_2 rfl) rfl (by show 2 * 0 + _ ≤ _; exact Nat.le_of_eq rfl) (hb hby at_212) (fun _ _ => ⟨rfl, (rfl : T84.heap = T84.heap), (by decide : 10 + 0 ≤ _), (by decide : 71 + 0 ≤ _)⟩)
    dsimp only [Pt.U, Pt.locs, Pt.cells, Pt.slots] at X86 l86 y86 z86 st86 hQ86
    subst l86 y86 z86
    obtain ⟨rfl, N86q, I86⟩ := hQ86
    have N86 := Fr.app N84 N86q
    have pre86 : Steps p.tables e below _ (T86.setTop (mkF m 215 #[.val (.int p1), .val (.int p2), .val (.int p3), .val (.int p4), .val (.int p5), .val (.long p6), .second, .val (.int mo), .val (.int ss), .val (.int gw), .val (.int ff), .val (.ref q), .val (.int (1 : Int32)), .val (.int (5 : Int32))] [(.int p1), (.int (1 : Int32))])) := pre85.trans (st86)
    have J86 : IQ Z n0 T86.heap q 4 (fun i => own_md [p1, p2, p3, p4, p5, ff] (i + 1)) := IQ.less I86
    have pre87 : Steps p.tables e below _ (T86.setTop (mkF m 225 #[.val (.int p1), .val (.int p2), .val (.int p3), .val (.int p4), .val (.int p5), .val (.long p6), .second, .val (.int mo), .val (.int ss), .val (.int gw), .val (.int ff), .val (.ref q), .val (.int (1 : Int32)), .val (.int (5 : Int32))] [(.int ((1 : Int32) &&& (1 : Int32)))])) := pre86.trans (by
      show Steps p.tables e below (T86.setTop (mkF m 215 #[.val (.int p1), .val (.int p2), .val (.int p3), .val (.int p4), .val (.int p5), .val (.long p6), .second, .val (.int mo), .val (.int ss), .val (.int gw), .val (.int ff), .val (.ref q), .val (.int (1 : Int32)), .val (.int (5 : Int32))] [(.int p1), (.int (1 : Int32))])) _
      refine XS.iloadN X86.here hx rfl (hb hby at_215) rfl ?_
      show Steps p.tables e below (T86.setTop (mkF m 216 #[.val (.int p1), .val (.int p2), .val (.int p3), .val (.int p4), .val (.int p5), .val (.long p6), .second, .val (.int mo), .val (.int ss), .val (.int gw), .val (.int ff), .val (.ref q), .val (.int (1 : Int32)), .val (.int (5 : Int32))] [(.int p1), (.int p1), (.int (1 : Int32))])) _
      refine XS.icmpNo X86.here hx rfl (hb hby at_216) rfl (teq (rfl : p1 = p1)).2 ?_
      show Steps p.tables e below (T86.setTop (mkF m 219 #[.val (.int p1), .val (.int p2), .val (.int p3), .val (.int p4), .val (.int p5), .val (.long p6), .second, .val (.int mo), .val (.int ss), .val (.int gw), .val (.int ff), .val (.ref q), .val (.int (1 : Int32)), .val (.int (5 : Int32))] [(.int (1 : Int32))])) _
      refine XS.iconst X86.here hx rfl (hb hby at_219) ?_
      show Steps p.tables e below (T86.setTop (mkF m 220 #[.val (.int p1), .val (.int p2), .val (.int p3), .val (.int p4), .val (.int p5), .val (.long p6), .second, .val (.int mo), .val (.int ss), .val (.int gw), .val (.int ff), .val (.ref q), .val (.int (1 : Int32)), .val (.int (5 : Int32))] [(.int (1 : Int32)), (.int (1 : Int32))])) _
      refine XS.goto X86.here hx rfl (pc0 := 220) (pc' := 224) rfl (hb hby at_220) (by decide) (by decide) ?_
      show Steps p.tables e below (T86.setTop (mkF m 224 #[.val (.int p1), .val (.int p2), .val (.int p3), .val (.int p4), .val (.int p5), .val (.long p6), .second, .val (.int mo), .val (.int ss), .val (.int gw), .val (.int ff), .val (.ref q), .val (.int (1 : Int32)), .val (.int (5 : Int32))] [(.int (1 : Int32)), (.int (1 : Int32))])) _
      refine XS.iand X86.here hx rfl (hb hby at_224) rfl ?_
      exact Steps.refl _)
    rw [e111] at pre87
    have pre88 : Steps p.tables e below _ (T86.setTop (mkF m 231 #[.val (.int p1), .val (.int p2), .val (.int p3), .val (.int p4), .val (.int p5), .val (.long p6), .second, .val (.int mo), .val (.int ss), .val (.int gw), .val (.int ff), .val (.ref q), .val (.int (1 : Int32)), .val (.int (5 : Int32))] [(.ref q), (.int (1 : Int32))])) := pre87.trans (by
      show Steps p.tables e below (T86.setTop (mkF m 225 #[.val (.int p1), .val (.int p2), .val (.int p3), .val (.int p4), .val (.int p5), .val (.long p6), .second, .val (.int mo), .val (.int ss), .val (.int gw), .val (.int ff), .val (.ref q), .val (.int (1 : Int32)), .val (.int (5 : Int32))] [(.int (1 : Int32))])) _
      refine XS.istore X86.here hx rfl (hb hby at_225) rfl (l' := #[.val (.int p1), .val (.int p2), .val (.int p3), .val (.int p4), .val (.int p5), .val (.long p6), .second, .val (.int mo), .val (.int ss), .val (.int gw), .val (.int ff), .val (.ref q), .val (.int (1 : Int32)), .val (.int (5 : Int32))]) rfl ?_
      show Steps p.tables e below (T86.setTop (mkF m 227 #[.val (.int p1), .val (.int p2), .val (.int p3), .val (.int p4), .val (.int p5), .val (.long p6), .second, .val (.int mo), .val (.int ss), .val (.int gw), .val (.int ff), .val (.ref q), .val (.int (1 : Int32)), .val (.int (5 : Int32))] [])) _
      refine XS.iload X86.here hx rfl (hb hby at_227) rfl ?_
      show Steps p.tables e below (T86.setTop (mkF m 229 #[.val (.int p1), .val (.int p2), .val (.int p3), .val (.int p4), .val (.int p5), .val (.long p6), .second, .val (.int mo), .val (.int ss), .val (.int gw), .val (.int ff), .val (.ref q), .val (.int (1 : Int32)), .val (.int (5 : Int32))] [(.int (1 : Int32))])) _
      refine XS.aload X86.here hx rfl (hb hby at_229) rfl rfl ?_
      exact Steps.refl _)
    obtain ⟨cq89, kq89, q89a, q89b, q89c⟩ := isOf hZ (rfl : T86.heap = T86.heap) J86.exa
    obtain ⟨_, _, ⟨T89, L89, k89, n89⟩, -, X89, ⟨Lc89, hQ89, l89, y89, z89⟩, st89⟩ := X86.virtualBack hx (y := (⟨"com/example/trips_into_trajectories/tripsintotrajectories/simulation/IntQueue", "size", "()I"⟩ : MethodName)) (z := (⟨"com/example/trips_into_trajectories/tripsintotrajectories/simulation/IntQueue", "size", "()I"⟩ : MethodName)) hown (mvT hZ (hw _ (List.mem_of_getElem? (i := 13) rfl))) (mvT hZ (hw _ (List.mem_of_getElem? (i := 14) rfl))) (notFace_of_selects (args := #[]) (mvT hZ (hw _ (List.mem_of_getElem? (i := 16) rfl)))) (mvT hZ (hw _ (List.mem_of_getElem? (i := 16) rfl))) (mvT hZ (hw _ (List.mem_of_getElem? (i := 15) rfl))) (by decide) (backOf (W := 1) (rmS l Z a0 hw [] q 4 (fun i => own_md [p1, p2, p3, p4, p5, ff] (i + 1)) T86.heap n0 J86.le J86) hZ (hw _ (List.mem_of_getElem? (i := 17) rfl)) (hw _ (List.mem_of_getElem? (i := 3) rfl)) (by decide) (by decide)) q89a q89c (g := (mkF m 231 #[.val (.int p1), .val (.int p2), .val (.int p3), .val (.int p4), .val (.int p5), .val (.long p6), .second, .val (.int mo), .val (.int ss), .val (.int gw), .val (.int ff), .val (.ref q), .val (.int (1 : Int32)), .val (.int (5 : Int32))] [(.ref q), (.int (1 : Int32))])) rfl (by rw [hml]; rfl) (Steps.refl _) (argsL := []) (rest := [(.int (1 : Int32))]) (lenOf pd_rm0_2 rfl) rfl (by show 2 * 0 + _ ≤ _; exact Nat.le_of_eq rfl) (hb hby at_231) (fun _ _ => ⟨rfl, (rfl : T86.heap = T86.heap), (by decide : 10 + 0 ≤ _), (by decide : 71 + 0 ≤ _)⟩)
    dsimp only [Pt.U, Pt.locs, Pt.cells, Pt.slots] at X89 l89 y89 z89 st89 hQ89
    subst l89 y89 z89
    obtain ⟨rfl, N89q, hh89⟩ := hQ89
    have N89 := Fr.app N86 N89q
    have pre89 : Steps p.tables e below _ (T89.setTop (mkF m 234 #[.val (.int p1), .val (.int p2), .val (.int p3), .val (.int p4), .val (.int p5), .val (.long p6), .second, .val (.int mo), .val (.int ss), .val (.int gw), .val (.int ff), .val (.ref q), .val (.int (1 : Int32)), .val (.int (5 : Int32))] [(.int (Int32.ofNat 4)), (.int (1 : Int32))])) := pre88.trans (st89)
    have J89 : IQ Z n0 T89.heap q 4 (fun i => own_md [p1, p2, p3, p4, p5, ff] (i + 1)) := by rw [hh89]; exact J86
    have pre90 : Steps p.tables e below _ (T89.setTop (mkF m 247 #[.val (.int p1), .val (.int p2), .val (.int p3), .val (.int p4), .val (.int p5), .val (.long p6), .second, .val (.int mo), .val (.int ss), .val (.int gw), .val (.int ff), .val (.ref q), .val (.int (1 : Int32)), .val (.int (5 : Int32))] [(.int ((1 : Int32) &&& (1 : Int32)))])) := pre89.trans (by
      show Steps p.tables e below (T89.setTop (mkF m 234 #[.val (.int p1), .val (.int p2), .val (.int p3), .val (.int p4), .val (.int p5), .val (.long p6), .second, .val (.int mo), .val (.int ss), .val (.int gw), .val (.int ff), .val (.ref q), .val (.int (1 : Int32)), .val (.int (5 : Int32))] [(.int (Int32.ofNat 4)), (.int (1 : Int32))])) _
      refine XS.iload X89.here hx rfl (hb hby at_234) rfl ?_
      show Steps p.tables e below (T89.setTop (mkF m 236 #[.val (.int p1), .val (.int p2), .val (.int p3), .val (.int p4), .val (.int p5), .val (.long p6), .second, .val (.int mo), .val (.int ss), .val (.int gw), .val (.int ff), .val (.ref q), .val (.int (1 : Int32)), .val (.int (5 : Int32))] [(.int (5 : Int32)), (.int (Int32.ofNat 4)), (.int (1 : Int32))])) _
      refine XS.iconst X89.here hx rfl (hb hby at_236) ?_
      show Steps p.tables e below (T89.setTop (mkF m 237 #[.val (.int p1), .val (.int p2), .val (.int p3), .val (.int p4), .val (.int p5), .val (.long p6), .second, .val (.int mo), .val (.int ss), .val (.int gw), .val (.int ff), .val (.ref q), .val (.int (1 : Int32)), .val (.int (5 : Int32))] [(.int (1 : Int32)), (.int (5 : Int32)), (.int (Int32.ofNat 4)), (.int (1 : Int32))])) _
      refine XS.isub X89.here hx rfl (hb hby at_237) rfl ?_
      show Steps p.tables e below (T89.setTop (mkF m 238 #[.val (.int p1), .val (.int p2), .val (.int p3), .val (.int p4), .val (.int p5), .val (.long p6), .second, .val (.int mo), .val (.int ss), .val (.int gw), .val (.int ff), .val (.ref q), .val (.int (1 : Int32)), .val (.int (5 : Int32))] [(.int ((5 : Int32) - (1 : Int32))), (.int (Int32.ofNat 4)), (.int (1 : Int32))])) _
      refine XS.icmpNo X89.here hx rfl (hb hby at_238) rfl (teq (by decide : Int32.ofNat 4 = ((5 : Int32) - (1 : Int32)))).2 ?_
      show Steps p.tables e below (T89.setTop (mkF m 241 #[.val (.int p1), .val (.int p2), .val (.int p3), .val (.int p4), .val (.int p5), .val (.long p6), .second, .val (.int mo), .val (.int ss), .val (.int gw), .val (.int ff), .val (.ref q), .val (.int (1 : Int32)), .val (.int (5 : Int32))] [(.int (1 : Int32))])) _
      refine XS.iconst X89.here hx rfl (hb hby at_241) ?_
      show Steps p.tables e below (T89.setTop (mkF m 242 #[.val (.int p1), .val (.int p2), .val (.int p3), .val (.int p4), .val (.int p5), .val (.long p6), .second, .val (.int mo), .val (.int ss), .val (.int gw), .val (.int ff), .val (.ref q), .val (.int (1 : Int32)), .val (.int (5 : Int32))] [(.int (1 : Int32)), (.int (1 : Int32))])) _
      refine XS.goto X89.here hx rfl (pc0 := 242) (pc' := 246) rfl (hb hby at_242) (by decide) (by decide) ?_
      show Steps p.tables e below (T89.setTop (mkF m 246 #[.val (.int p1), .val (.int p2), .val (.int p3), .val (.int p4), .val (.int p5), .val (.long p6), .second, .val (.int mo), .val (.int ss), .val (.int gw), .val (.int ff), .val (.ref q), .val (.int (1 : Int32)), .val (.int (5 : Int32))] [(.int (1 : Int32)), (.int (1 : Int32))])) _
      refine XS.iand X89.here hx rfl (hb hby at_246) rfl ?_
      exact Steps.refl _)
    rw [e111] at pre90
    have pre91 : Steps p.tables e below _ (T89.setTop (mkF m 253 #[.val (.int p1), .val (.int p2), .val (.int p3), .val (.int p4), .val (.int p5), .val (.long p6), .second, .val (.int mo), .val (.int ss), .val (.int gw), .val (.int ff), .val (.ref q), .val (.int (1 : Int32)), .val (.int (5 : Int32))] [(.ref q), (.int (1 : Int32))])) := pre90.trans (by
      show Steps p.tables e below (T89.setTop (mkF m 247 #[.val (.int p1), .val (.int p2), .val (.int p3), .val (.int p4), .val (.int p5), .val (.long p6), .second, .val (.int mo), .val (.int ss), .val (.int gw), .val (.int ff), .val (.ref q), .val (.int (1 : Int32)), .val (.int (5 : Int32))] [(.int (1 : Int32))])) _
      refine XS.istore X89.here hx rfl (hb hby at_247) rfl (l' := #[.val (.int p1), .val (.int p2), .val (.int p3), .val (.int p4), .val (.int p5), .val (.long p6), .second, .val (.int mo), .val (.int ss), .val (.int gw), .val (.int ff), .val (.ref q), .val (.int (1 : Int32)), .val (.int (5 : Int32))]) rfl ?_
      show Steps p.tables e below (T89.setTop (mkF m 249 #[.val (.int p1), .val (.int p2), .val (.int p3), .val (.int p4), .val (.int p5), .val (.long p6), .second, .val (.int mo), .val (.int ss), .val (.int gw), .val (.int ff), .val (.ref q), .val (.int (1 : Int32)), .val (.int (5 : Int32))] [])) _
      refine XS.iload X89.here hx rfl (hb hby at_249) rfl ?_
      show Steps p.tables e below (T89.setTop (mkF m 251 #[.val (.int p1), .val (.int p2), .val (.int p3), .val (.int p4), .val (.int p5), .val (.long p6), .second, .val (.int mo), .val (.int ss), .val (.int gw), .val (.int ff), .val (.ref q), .val (.int (1 : Int32)), .val (.int (5 : Int32))] [(.int (1 : Int32))])) _
      refine XS.aload X89.here hx rfl (hb hby at_251) rfl rfl ?_
      exact Steps.refl _)
    obtain ⟨cq92, kq92, q92a, q92b, q92c⟩ := isOf hZ (rfl : T89.heap = T89.heap) J89.exa
    obtain ⟨_, _, ⟨T92, L92, k92, n92⟩, -, X92, ⟨Lc92, hQ92, l92, y92, z92⟩, st92⟩ := X89.virtualBack hx (y := (⟨"com/example/trips_into_trajectories/tripsintotrajectories/simulation/IntQueue", "poll", "()I"⟩ : MethodName)) (z := (⟨"com/example/trips_into_trajectories/tripsintotrajectories/simulation/IntQueue", "poll", "()I"⟩ : MethodName)) hown (mvT hZ (hw _ (List.mem_of_getElem? (i := 27) rfl))) (mvT hZ (hw _ (List.mem_of_getElem? (i := 28) rfl))) (notFace_of_selects (args := #[]) (mvT hZ (hw _ (List.mem_of_getElem? (i := 30) rfl)))) (mvT hZ (hw _ (List.mem_of_getElem? (i := 30) rfl))) (mvT hZ (hw _ (List.mem_of_getElem? (i := 29) rfl))) (by decide) (backOf (W := 1) (rmP l Z a0 hw [] q 3 (fun i => own_md [p1, p2, p3, p4, p5, ff] (i + 1)) T89.heap n0 J89.le J89) hZ (hw _ (List.mem_of_getElem? (i := 31) rfl)) (hw _ (List.mem_of_getElem? (i := 3) rfl)) (by decide) (by decide)) q92a q92c (g := (mkF m 253 #[.val (.int p1), .val (.int p2), .val (.int p3), .val (.int p4), .val (.int p5), .val (.long p6), .second, .val (.int mo), .val (.int ss), .val (.int gw), .val (.int ff), .val (.ref q), .val (.int (1 : Int32)), .val (.int (5 : Int32))] [(.ref q), (.int (1 : Int32))])) rfl (by rw [hml]; rfl) (Steps.refl _) (argsL := []) (rest := [(.int (1 : Int32))]) (lenOf pd_rm0_2 rfl) rfl (by show 2 * 0 + _ ≤ _; exact Nat.le_of_eq rfl) (hb hby at_253) (fun _ _ => ⟨rfl, (rfl : T89.heap = T89.heap), (by decide : 10 + 0 ≤ _), (by decide : 71 + 0 ≤ _)⟩)
    dsimp only [Pt.U, Pt.locs, Pt.cells, Pt.slots] at X92 l92 y92 z92 st92 hQ92
    subst l92 y92 z92
    obtain ⟨rfl, N92q, I92⟩ := hQ92
    have N92 := Fr.app N89 N92q
    have pre92 : Steps p.tables e below _ (T92.setTop (mkF m 256 #[.val (.int p1), .val (.int p2), .val (.int p3), .val (.int p4), .val (.int p5), .val (.long p6), .second, .val (.int mo), .val (.int ss), .val (.int gw), .val (.int ff), .val (.ref q), .val (.int (1 : Int32)), .val (.int (5 : Int32))] [(.int p2), (.int (1 : Int32))])) := pre91.trans (st92)
    have J92 : IQ Z n0 T92.heap q 3 (fun i => own_md [p1, p2, p3, p4, p5, ff] (i + 2)) := IQ.less I92
    have pre93 : Steps p.tables e below _ (T92.setTop (mkF m 266 #[.val (.int p1), .val (.int p2), .val (.int p3), .val (.int p4), .val (.int p5), .val (.long p6), .second, .val (.int mo), .val (.int ss), .val (.int gw), .val (.int ff), .val (.ref q), .val (.int (1 : Int32)), .val (.int (5 : Int32))] [(.int ((1 : Int32) &&& (1 : Int32)))])) := pre92.trans (by
      show Steps p.tables e below (T92.setTop (mkF m 256 #[.val (.int p1), .val (.int p2), .val (.int p3), .val (.int p4), .val (.int p5), .val (.long p6), .second, .val (.int mo), .val (.int ss), .val (.int gw), .val (.int ff), .val (.ref q), .val (.int (1 : Int32)), .val (.int (5 : Int32))] [(.int p2), (.int (1 : Int32))])) _
      refine XS.iloadN X92.here hx rfl (hb hby at_256) rfl ?_
      show Steps p.tables e below (T92.setTop (mkF m 257 #[.val (.int p1), .val (.int p2), .val (.int p3), .val (.int p4), .val (.int p5), .val (.long p6), .second, .val (.int mo), .val (.int ss), .val (.int gw), .val (.int ff), .val (.ref q), .val (.int (1 : Int32)), .val (.int (5 : Int32))] [(.int p2), (.int p2), (.int (1 : Int32))])) _
      refine XS.icmpNo X92.here hx rfl (hb hby at_257) rfl (teq (rfl : p2 = p2)).2 ?_
      show Steps p.tables e below (T92.setTop (mkF m 260 #[.val (.int p1), .val (.int p2), .val (.int p3), .val (.int p4), .val (.int p5), .val (.long p6), .second, .val (.int mo), .val (.int ss), .val (.int gw), .val (.int ff), .val (.ref q), .val (.int (1 : Int32)), .val (.int (5 : Int32))] [(.int (1 : Int32))])) _
      refine XS.iconst X92.here hx rfl (hb hby at_260) ?_
      show Steps p.tables e below (T92.setTop (mkF m 261 #[.val (.int p1), .val (.int p2), .val (.int p3), .val (.int p4), .val (.int p5), .val (.long p6), .second, .val (.int mo), .val (.int ss), .val (.int gw), .val (.int ff), .val (.ref q), .val (.int (1 : Int32)), .val (.int (5 : Int32))] [(.int (1 : Int32)), (.int (1 : Int32))])) _
      refine XS.goto X92.here hx rfl (pc0 := 261) (pc' := 265) rfl (hb hby at_261) (by decide) (by decide) ?_
      show Steps p.tables e below (T92.setTop (mkF m 265 #[.val (.int p1), .val (.int p2), .val (.int p3), .val (.int p4), .val (.int p5), .val (.long p6), .second, .val (.int mo), .val (.int ss), .val (.int gw), .val (.int ff), .val (.ref q), .val (.int (1 : Int32)), .val (.int (5 : Int32))] [(.int (1 : Int32)), (.int (1 : Int32))])) _
      refine XS.iand X92.here hx rfl (hb hby at_265) rfl ?_
      exact Steps.refl _)
    rw [e111] at pre93
    have pre94 : Steps p.tables e below _ (T92.setTop (mkF m 272 #[.val (.int p1), .val (.int p2), .val (.int p3), .val (.int p4), .val (.int p5), .val (.long p6), .second, .val (.int mo), .val (.int ss), .val (.int gw), .val (.int ff), .val (.ref q), .val (.int (1 : Int32)), .val (.int (5 : Int32))] [(.ref q), (.int (1 : Int32))])) := pre93.trans (by
      show Steps p.tables e below (T92.setTop (mkF m 266 #[.val (.int p1), .val (.int p2), .val (.int p3), .val (.int p4), .val (.int p5), .val (.long p6), .second, .val (.int mo), .val (.int ss), .val (.int gw), .val (.int ff), .val (.ref q), .val (.int (1 : Int32)), .val (.int (5 : Int32))] [(.int (1 : Int32))])) _
      refine XS.istore X92.here hx rfl (hb hby at_266) rfl (l' := #[.val (.int p1), .val (.int p2), .val (.int p3), .val (.int p4), .val (.int p5), .val (.long p6), .second, .val (.int mo), .val (.int ss), .val (.int gw), .val (.int ff), .val (.ref q), .val (.int (1 : Int32)), .val (.int (5 : Int32))]) rfl ?_
      show Steps p.tables e below (T92.setTop (mkF m 268 #[.val (.int p1), .val (.int p2), .val (.int p3), .val (.int p4), .val (.int p5), .val (.long p6), .second, .val (.int mo), .val (.int ss), .val (.int gw), .val (.int ff), .val (.ref q), .val (.int (1 : Int32)), .val (.int (5 : Int32))] [])) _
      refine XS.iload X92.here hx rfl (hb hby at_268) rfl ?_
      show Steps p.tables e below (T92.setTop (mkF m 270 #[.val (.int p1), .val (.int p2), .val (.int p3), .val (.int p4), .val (.int p5), .val (.long p6), .second, .val (.int mo), .val (.int ss), .val (.int gw), .val (.int ff), .val (.ref q), .val (.int (1 : Int32)), .val (.int (5 : Int32))] [(.int (1 : Int32))])) _
      refine XS.aload X92.here hx rfl (hb hby at_270) rfl rfl ?_
      exact Steps.refl _)
    obtain ⟨cq95, kq95, q95a, q95b, q95c⟩ := isOf hZ (rfl : T92.heap = T92.heap) J92.exa
    obtain ⟨_, _, ⟨T95, L95, k95, n95⟩, -, X95, ⟨Lc95, hQ95, l95, y95, z95⟩, st95⟩ := X92.virtualBack hx (y := (⟨"com/example/trips_into_trajectories/tripsintotrajectories/simulation/IntQueue", "size", "()I"⟩ : MethodName)) (z := (⟨"com/example/trips_into_trajectories/tripsintotrajectories/simulation/IntQueue", "size", "()I"⟩ : MethodName)) hown (mvT hZ (hw _ (List.mem_of_getElem? (i := 13) rfl))) (mvT hZ (hw _ (List.mem_of_getElem? (i := 14) rfl))) (notFace_of_selects (args := #[]) (mvT hZ (hw _ (List.mem_of_getElem? (i := 16) rfl)))) (mvT hZ (hw _ (List.mem_of_getElem? (i := 16) rfl))) (mvT hZ (hw _ (List.mem_of_getElem? (i := 15) rfl))) (by decide) (backOf (W := 1) (rmS l Z a0 hw [] q 3 (fun i => own_md [p1, p2, p3, p4, p5, ff] (i + 2)) T92.heap n0 J92.le J92) hZ (hw _ (List.mem_of_getElem? (i := 17) rfl)) (hw _ (List.mem_of_getElem? (i := 3) rfl)) (by decide) (by decide)) q95a q95c (g := (mkF m 272 #[.val (.int p1), .val (.int p2), .val (.int p3), .val (.int p4), .val (.int p5), .val (.long p6), .second, .val (.int mo), .val (.int ss), .val (.int gw), .val (.int ff), .val (.ref q), .val (.int (1 : Int32)), .val (.int (5 : Int32))] [(.ref q), (.int (1 : Int32))])) rfl (by rw [hml]; rfl) (Steps.refl _) (argsL := []) (rest := [(.int (1 : Int32))]) (lenOf pd_rm0_2 rfl) rfl (by show 2 * 0 + _ ≤ _; exact Nat.le_of_eq rfl) (hb hby at_272) (fun _ _ => ⟨rfl, (rfl : T92.heap = T92.heap), (by decide : 10 + 0 ≤ _), (by decide : 71 + 0 ≤ _)⟩)
    dsimp only [Pt.U, Pt.locs, Pt.cells, Pt.slots] at X95 l95 y95 z95 st95 hQ95
    subst l95 y95 z95
    obtain ⟨rfl, N95q, hh95⟩ := hQ95
    have N95 := Fr.app N92 N95q
    have pre95 : Steps p.tables e below _ (T95.setTop (mkF m 275 #[.val (.int p1), .val (.int p2), .val (.int p3), .val (.int p4), .val (.int p5), .val (.long p6), .second, .val (.int mo), .val (.int ss), .val (.int gw), .val (.int ff), .val (.ref q), .val (.int (1 : Int32)), .val (.int (5 : Int32))] [(.int (Int32.ofNat 3)), (.int (1 : Int32))])) := pre94.trans (st95)
    have J95 : IQ Z n0 T95.heap q 3 (fun i => own_md [p1, p2, p3, p4, p5, ff] (i + 2)) := by rw [hh95]; exact J92
    have pre96 : Steps p.tables e below _ (T95.setTop (mkF m 288 #[.val (.int p1), .val (.int p2), .val (.int p3), .val (.int p4), .val (.int p5), .val (.long p6), .second, .val (.int mo), .val (.int ss), .val (.int gw), .val (.int ff), .val (.ref q), .val (.int (1 : Int32)), .val (.int (5 : Int32))] [(.int ((1 : Int32) &&& (1 : Int32)))])) := pre95.trans (by
      show Steps p.tables e below (T95.setTop (mkF m 275 #[.val (.int p1), .val (.int p2), .val (.int p3), .val (.int p4), .val (.int p5), .val (.long p6), .second, .val (.int mo), .val (.int ss), .val (.int gw), .val (.int ff), .val (.ref q), .val (.int (1 : Int32)), .val (.int (5 : Int32))] [(.int (Int32.ofNat 3)), (.int (1 : Int32))])) _
      refine XS.iload X95.here hx rfl (hb hby at_275) rfl ?_
      show Steps p.tables e below (T95.setTop (mkF m 277 #[.val (.int p1), .val (.int p2), .val (.int p3), .val (.int p4), .val (.int p5), .val (.long p6), .second, .val (.int mo), .val (.int ss), .val (.int gw), .val (.int ff), .val (.ref q), .val (.int (1 : Int32)), .val (.int (5 : Int32))] [(.int (5 : Int32)), (.int (Int32.ofNat 3)), (.int (1 : Int32))])) _
      refine XS.iconst X95.here hx rfl (hb hby at_277) ?_
      show Steps p.tables e below (T95.setTop (mkF m 278 #[.val (.int p1), .val (.int p2), .val (.int p3), .val (.int p4), .val (.int p5), .val (.long p6), .second, .val (.int mo), .val (.int ss), .val (.int gw), .val (.int ff), .val (.ref q), .val (.int (1 : Int32)), .val (.int (5 : Int32))] [(.int (2 : Int32)), (.int (5 : Int32)), (.int (Int32.ofNat 3)), (.int (1 : Int32))])) _
      refine XS.isub X95.here hx rfl (hb hby at_278) rfl ?_
      show Steps p.tables e below (T95.setTop (mkF m 279 #[.val (.int p1), .val (.int p2), .val (.int p3), .val (.int p4), .val (.int p5), .val (.long p6), .second, .val (.int mo), .val (.int ss), .val (.int gw), .val (.int ff), .val (.ref q), .val (.int (1 : Int32)), .val (.int (5 : Int32))] [(.int ((5 : Int32) - (2 : Int32))), (.int (Int32.ofNat 3)), (.int (1 : Int32))])) _
      refine XS.icmpNo X95.here hx rfl (hb hby at_279) rfl (teq (by decide : Int32.ofNat 3 = ((5 : Int32) - (2 : Int32)))).2 ?_
      show Steps p.tables e below (T95.setTop (mkF m 282 #[.val (.int p1), .val (.int p2), .val (.int p3), .val (.int p4), .val (.int p5), .val (.long p6), .second, .val (.int mo), .val (.int ss), .val (.int gw), .val (.int ff), .val (.ref q), .val (.int (1 : Int32)), .val (.int (5 : Int32))] [(.int (1 : Int32))])) _
      refine XS.iconst X95.here hx rfl (hb hby at_282) ?_
      show Steps p.tables e below (T95.setTop (mkF m 283 #[.val (.int p1), .val (.int p2), .val (.int p3), .val (.int p4), .val (.int p5), .val (.long p6), .second, .val (.int mo), .val (.int ss), .val (.int gw), .val (.int ff), .val (.ref q), .val (.int (1 : Int32)), .val (.int (5 : Int32))] [(.int (1 : Int32)), (.int (1 : Int32))])) _
      refine XS.goto X95.here hx rfl (pc0 := 283) (pc' := 287) rfl (hb hby at_283) (by decide) (by decide) ?_
      show Steps p.tables e below (T95.setTop (mkF m 287 #[.val (.int p1), .val (.int p2), .val (.int p3), .val (.int p4), .val (.int p5), .val (.long p6), .second, .val (.int mo), .val (.int ss), .val (.int gw), .val (.int ff), .val (.ref q), .val (.int (1 : Int32)), .val (.int (5 : Int32))] [(.int (1 : Int32)), (.int (1 : Int32))])) _
      refine XS.iand X95.here hx rfl (hb hby at_287) rfl ?_
      exact Steps.refl _)
    rw [e111] at pre96
    have pre97 : Steps p.tables e below _ (T95.setTop (mkF m 294 #[.val (.int p1), .val (.int p2), .val (.int p3), .val (.int p4), .val (.int p5), .val (.long p6), .second, .val (.int mo), .val (.int ss), .val (.int gw), .val (.int ff), .val (.ref q), .val (.int (1 : Int32)), .val (.int (5 : Int32))] [(.int ff), (.ref q)])) := pre96.trans (by
      show Steps p.tables e below (T95.setTop (mkF m 288 #[.val (.int p1), .val (.int p2), .val (.int p3), .val (.int p4), .val (.int p5), .val (.long p6), .second, .val (.int mo), .val (.int ss), .val (.int gw), .val (.int ff), .val (.ref q), .val (.int (1 : Int32)), .val (.int (5 : Int32))] [(.int (1 : Int32))])) _
      refine XS.istore X95.here hx rfl (hb hby at_288) rfl (l' := #[.val (.int p1), .val (.int p2), .val (.int p3), .val (.int p4), .val (.int p5), .val (.long p6), .second, .val (.int mo), .val (.int ss), .val (.int gw), .val (.int ff), .val (.ref q), .val (.int (1 : Int32)), .val (.int (5 : Int32))]) rfl ?_
      show Steps p.tables e below (T95.setTop (mkF m 290 #[.val (.int p1), .val (.int p2), .val (.int p3), .val (.int p4), .val (.int p5), .val (.long p6), .second, .val (.int mo), .val (.int ss), .val (.int gw), .val (.int ff), .val (.ref q), .val (.int (1 : Int32)), .val (.int (5 : Int32))] [])) _
      refine XS.aload X95.here hx rfl (hb hby at_290) rfl rfl ?_
      show Steps p.tables e below (T95.setTop (mkF m 292 #[.val (.int p1), .val (.int p2), .val (.int p3), .val (.int p4), .val (.int p5), .val (.long p6), .second, .val (.int mo), .val (.int ss), .val (.int gw), .val (.int ff), .val (.ref q), .val (.int (1 : Int32)), .val (.int (5 : Int32))] [(.ref q)])) _
      refine XS.iload X95.here hx rfl (hb hby at_292) rfl ?_
      exact Steps.refl _)
    obtain ⟨cq98, kq98, q98a, q98b, q98c⟩ := isOf hZ (rfl : T95.heap = T95.heap) J95.exa
    obtain ⟨_, _, ⟨T98, L98, k98, n98⟩, -, X98, ⟨Lc98, hQ98, l98, y98, z98⟩, st98⟩ := X95.virtualBack hx (y := (⟨"com/example/trips_into_trajectories/tripsintotrajectories/simulation/IntQueue", "add", "(I)V"⟩ : MethodName)) (z := (⟨"com/example/trips_into_trajectories/tripsintotrajectories/simulation/IntQueue", "add", "(I)V"⟩ : MethodName)) hown (mvT hZ (hw _ (List.mem_of_getElem? (i := 20) rfl))) (mvT hZ (hw _ (List.mem_of_getElem? (i := 21) rfl))) (notFace_of_selects (args := #[]) (mvT hZ (hw _ (List.mem_of_getElem? (i := 23) rfl)))) (mvT hZ (hw _ (List.mem_of_getElem? (i := 23) rfl))) (mvT hZ (hw _ (List.mem_of_getElem? (i := 22) rfl))) (by decide) (backOf (W := 0) (rmD l Z a0 hw [] q ff 3 (fun i => own_md [p1, p2, p3, p4, p5, ff] (i + 2)) T95.heap n0 J95.le J95 (by decide)) hZ (hw _ (List.mem_of_getElem? (i := 24) rfl)) (hw _ (List.mem_of_getElem? (i := 3) rfl)) (by decide) (by decide)) q98a q98c (g := (mkF m 294 #[.val (.int p1), .val (.int p2), .val (.int p3), .val (.int p4), .val (.int p5), .val (.long p6), .second, .val (.int mo), .val (.int ss), .val (.int gw), .val (.int ff), .val (.ref q), .val (.int (1 : Int32)), .val (.int (5 : Int32))] [(.int ff), (.ref q)])) rfl (by rw [hml]; rfl) (Steps.refl _) (argsL := [(.int ff)]) (rest := []) (lenOf pd_rm0_1 rfl) rfl (by show 2 * 0 + _ ≤ _; exact Nat.le_of_eq rfl) (hb hby at_294) (fun _ _ => ⟨rfl, (rfl : T95.heap = T95.heap), (by decide : 10 + 1 ≤ _), (by decide : 71 + 8 ≤ _)⟩)
    dsimp only [Pt.U, Pt.locs, Pt.cells, Pt.slots] at X98 l98 y98 z98 st98 hQ98
    subst l98 y98 z98
    obtain ⟨rfl, N98q, I98⟩ := hQ98
    have N98 := Fr.app N95 N98q
    have pre98 : Steps p.tables e below _ (T98.setTop (mkF m 297 #[.val (.int p1), .val (.int p2), .val (.int p3), .val (.int p4), .val (.int p5), .val (.long p6), .second, .val (.int mo), .val (.int ss), .val (.int gw), .val (.int ff), .val (.ref q), .val (.int (1 : Int32)), .val (.int (5 : Int32))] [])) := pre97.trans (st98)
    have J98 : IQ Z n0 T98.heap q 4 (fun i => own_md [p1, p2, p3, p4, p5, ff] (i + 2)) := IQ.next I98 rfl
    have pre99 : Steps p.tables e below _ (T98.setTop (mkF m 301 #[.val (.int p1), .val (.int p2), .val (.int p3), .val (.int p4), .val (.int p5), .val (.long p6), .second, .val (.int mo), .val (.int ss), .val (.int gw), .val (.int ff), .val (.ref q), .val (.int (1 : Int32)), .val (.int (5 : Int32))] [(.ref q), (.int (1 : Int32))])) := pre98.trans (by
      show Steps p.tables e below (T98.setTop (mkF m 297 #[.val (.int p1), .val (.int p2), .val (.int p3), .val (.int p4), .val (.int p5), .val (.long p6), .second, .val (.int mo), .val (.int ss), .val (.int gw), .val (.int ff), .val (.ref q), .val (.int (1 : Int32)), .val (.int (5 : Int32))] [])) _
      refine XS.iload X98.here hx rfl (hb hby at_297) rfl ?_
      show Steps p.tables e below (T98.setTop (mkF m 299 #[.val (.int p1), .val (.int p2), .val (.int p3), .val (.int p4), .val (.int p5), .val (.long p6), .second, .val (.int mo), .val (.int ss), .val (.int gw), .val (.int ff), .val (.ref q), .val (.int (1 : Int32)), .val (.int (5 : Int32))] [(.int (1 : Int32))])) _
      refine XS.aload X98.here hx rfl (hb hby at_299) rfl rfl ?_
      exact Steps.refl _)
    obtain ⟨cq100, kq100, q100a, q100b, q100c⟩ := isOf hZ (rfl : T98.heap = T98.heap) J98.exa
    obtain ⟨_, _, ⟨T100, L100, k100, n100⟩, -, X100, ⟨Lc100, hQ100, l100, y100, z100⟩, st100⟩ := X98.virtualBack hx (y := (⟨"com/example/trips_into_trajectories/tripsintotrajectories/simulation/IntQueue", "poll", "()I"⟩ : MethodName)) (z := (⟨"com/example/trips_into_trajectories/tripsintotrajectories/simulation/IntQueue", "poll", "()I"⟩ : MethodName)) hown (mvT hZ (hw _ (List.mem_of_getElem? (i := 27) rfl))) (mvT hZ (hw _ (List.mem_of_getElem? (i := 28) rfl))) (notFace_of_selects (args := #[]) (mvT hZ (hw _ (List.mem_of_getElem? (i := 30) rfl)))) (mvT hZ (hw _ (List.mem_of_getElem? (i := 30) rfl))) (mvT hZ (hw _ (List.mem_of_getElem? (i := 29) rfl))) (by decide) (backOf (W := 1) (rmP l Z a0 hw [] q 3 (fun i => own_md [p1, p2, p3, p4, p5, ff] (i + 2)) T98.heap n0 J98.le J98) hZ (hw _ (List.mem_of_getElem? (i := 31) rfl)) (hw _ (List.mem_of_getElem? (i := 3) rfl)) (by decide) (by decide)) q100a q100c (g := (mkF m 301 #[.val (.int p1), .val (.int p2), .val (.int p3), .val (.int p4), .val (.int p5), .val (.long p6), .second, .val (.int mo), .val (.int ss), .val (.int gw), .val (.int ff), .val (.ref q), .val (.int (1 : Int32)), .val (.int (5 : Int32))] [(.ref q), (.int (1 : Int32))])) rfl (by rw [hml]; rfl) (Steps.refl _) (argsL := []) (rest := [(.int (1 : Int32))]) (lenOf pd_rm0_2 rfl) rfl (by show 2 * 0 + _ ≤ _; exact Nat.le_of_eq rfl) (hb hby at_301) (fun _ _ => ⟨rfl, (rfl : T98.heap = T98.heap), (by decide : 11 + 0 ≤ _), (by decide : 79 + 0 ≤ _)⟩)
    dsimp only [Pt.U, Pt.locs, Pt.cells, Pt.slots] at X100 l100 y100 z100 st100 hQ100
    subst l100 y100 z100
    obtain ⟨rfl, N100q, I100⟩ := hQ100
    have N100 := Fr.app N98 N100q
    have pre100 : Steps p.tables e below _ (T100.setTop (mkF m 304 #[.val (.int p1), .val (.int p2), .val (.int p3), .val (.int p4), .val (.int p5), .val (.long p6), .second, .val (.int mo), .val (.int ss), .val (.int gw), .val (.int ff), .val (.ref q), .val (.int (1 : Int32)), .val (.int (5 : Int32))] [(.int p3), (.int (1 : Int32))])) := pre99.trans (st100)
    have J100 : IQ Z n0 T100.heap q 3 (fun i => own_md [p1, p2, p3, p4, p5, ff] (i + 3)) := IQ.less I100
    have pre101 : Steps p.tables e below _ (T100.setTop (mkF m 314 #[.val (.int p1), .val (.int p2), .val (.int p3), .val (.int p4), .val (.int p5), .val (.long p6), .second, .val (.int mo), .val (.int ss), .val (.int gw), .val (.int ff), .val (.ref q), .val (.int (1 : Int32)), .val (.int (5 : Int32))] [(.int ((1 : Int32) &&& (1 : Int32)))])) := pre100.trans (by
      show Steps p.tables e below (T100.setTop (mkF m 304 #[.val (.int p1), .val (.int p2), .val (.int p3), .val (.int p4), .val (.int p5), .val (.long p6), .second, .val (.int mo), .val (.int ss), .val (.int gw), .val (.int ff), .val (.ref q), .val (.int (1 : Int32)), .val (.int (5 : Int32))] [(.int p3), (.int (1 : Int32))])) _
      refine XS.iloadN X100.here hx rfl (hb hby at_304) rfl ?_
      show Steps p.tables e below (T100.setTop (mkF m 305 #[.val (.int p1), .val (.int p2), .val (.int p3), .val (.int p4), .val (.int p5), .val (.long p6), .second, .val (.int mo), .val (.int ss), .val (.int gw), .val (.int ff), .val (.ref q), .val (.int (1 : Int32)), .val (.int (5 : Int32))] [(.int p3), (.int p3), (.int (1 : Int32))])) _
      refine XS.icmpNo X100.here hx rfl (hb hby at_305) rfl (teq (rfl : p3 = p3)).2 ?_
      show Steps p.tables e below (T100.setTop (mkF m 308 #[.val (.int p1), .val (.int p2), .val (.int p3), .val (.int p4), .val (.int p5), .val (.long p6), .second, .val (.int mo), .val (.int ss), .val (.int gw), .val (.int ff), .val (.ref q), .val (.int (1 : Int32)), .val (.int (5 : Int32))] [(.int (1 : Int32))])) _
      refine XS.iconst X100.here hx rfl (hb hby at_308) ?_
      show Steps p.tables e below (T100.setTop (mkF m 309 #[.val (.int p1), .val (.int p2), .val (.int p3), .val (.int p4), .val (.int p5), .val (.long p6), .second, .val (.int mo), .val (.int ss), .val (.int gw), .val (.int ff), .val (.ref q), .val (.int (1 : Int32)), .val (.int (5 : Int32))] [(.int (1 : Int32)), (.int (1 : Int32))])) _
      refine XS.goto X100.here hx rfl (pc0 := 309) (pc' := 313) rfl (hb hby at_309) (by decide) (by decide) ?_
      show Steps p.tables e below (T100.setTop (mkF m 313 #[.val (.int p1), .val (.int p2), .val (.int p3), .val (.int p4), .val (.int p5), .val (.long p6), .second, .val (.int mo), .val (.int ss), .val (.int gw), .val (.int ff), .val (.ref q), .val (.int (1 : Int32)), .val (.int (5 : Int32))] [(.int (1 : Int32)), (.int (1 : Int32))])) _
      refine XS.iand X100.here hx rfl (hb hby at_313) rfl ?_
      exact Steps.refl _)
    rw [e111] at pre101
    have pre102 : Steps p.tables e below _ (T100.setTop (mkF m 320 #[.val (.int p1), .val (.int p2), .val (.int p3), .val (.int p4), .val (.int p5), .val (.long p6), .second, .val (.int mo), .val (.int ss), .val (.int gw), .val (.int ff), .val (.ref q), .val (.int (1 : Int32)), .val (.int (5 : Int32))] [(.ref q), (.int (1 : Int32))])) := pre101.trans (by
      show Steps p.tables e below (T100.setTop (mkF m 314 #[.val (.int p1), .val (.int p2), .val (.int p3), .val (.int p4), .val (.int p5), .val (.long p6), .second, .val (.int mo), .val (.int ss), .val (.int gw), .val (.int ff), .val (.ref q), .val (.int (1 : Int32)), .val (.int (5 : Int32))] [(.int (1 : Int32))])) _
      refine XS.istore X100.here hx rfl (hb hby at_314) rfl (l' := #[.val (.int p1), .val (.int p2), .val (.int p3), .val (.int p4), .val (.int p5), .val (.long p6), .second, .val (.int mo), .val (.int ss), .val (.int gw), .val (.int ff), .val (.ref q), .val (.int (1 : Int32)), .val (.int (5 : Int32))]) rfl ?_
      show Steps p.tables e below (T100.setTop (mkF m 316 #[.val (.int p1), .val (.int p2), .val (.int p3), .val (.int p4), .val (.int p5), .val (.long p6), .second, .val (.int mo), .val (.int ss), .val (.int gw), .val (.int ff), .val (.ref q), .val (.int (1 : Int32)), .val (.int (5 : Int32))] [])) _
      refine XS.iload X100.here hx rfl (hb hby at_316) rfl ?_
      show Steps p.tables e below (T100.setTop (mkF m 318 #[.val (.int p1), .val (.int p2), .val (.int p3), .val (.int p4), .val (.int p5), .val (.long p6), .second, .val (.int mo), .val (.int ss), .val (.int gw), .val (.int ff), .val (.ref q), .val (.int (1 : Int32)), .val (.int (5 : Int32))] [(.int (1 : Int32))])) _
      refine XS.aload X100.here hx rfl (hb hby at_318) rfl rfl ?_
      exact Steps.refl _)
    obtain ⟨cq103, kq103, q103a, q103b, q103c⟩ := isOf hZ (rfl : T100.heap = T100.heap) J100.exa
    obtain ⟨_, _, ⟨T103, L103, k103, n103⟩, -, X103, ⟨Lc103, hQ103, l103, y103, z103⟩, st103⟩ := X100.virtualBack hx (y := (⟨"com/example/trips_into_trajectories/tripsintotrajectories/simulation/IntQueue", "size", "()I"⟩ : MethodName)) (z := (⟨"com/example/trips_into_trajectories/tripsintotrajectories/simulation/IntQueue", "size", "()I"⟩ : MethodName)) hown (mvT hZ (hw _ (List.mem_of_getElem? (i := 13) rfl))) (mvT hZ (hw _ (List.mem_of_getElem? (i := 14) rfl))) (notFace_of_selects (args := #[]) (mvT hZ (hw _ (List.mem_of_getElem? (i := 16) rfl)))) (mvT hZ (hw _ (List.mem_of_getElem? (i := 16) rfl))) (mvT hZ (hw _ (List.mem_of_getElem? (i := 15) rfl))) (by decide) (backOf (W := 1) (rmS l Z a0 hw [] q 3 (fun i => own_md [p1, p2, p3, p4, p5, ff] (i + 3)) T100.heap n0 J100.le J100) hZ (hw _ (List.mem_of_getElem? (i := 17) rfl)) (hw _ (List.mem_of_getElem? (i := 3) rfl)) (by decide) (by decide)) q103a q103c (g := (mkF m 320 #[.val (.int p1), .val (.int p2), .val (.int p3), .val (.int p4), .val (.int p5), .val (.long p6), .second, .val (.int mo), .val (.int ss), .val (.int gw), .val (.int ff), .val (.ref q), .val (.int (1 : Int32)), .val (.int (5 : Int32))] [(.ref q), (.int (1 : Int32))])) rfl (by rw [hml]; rfl) (Steps.refl _) (argsL := []) (rest := [(.int (1 : Int32))]) (lenOf pd_rm0_2 rfl) rfl (by show 2 * 0 + _ ≤ _; exact Nat.le_of_eq rfl) (hb hby at_320) (fun _ _ => ⟨rfl, (rfl : T100.heap = T100.heap), (by decide : 11 + 0 ≤ _), (by decide : 79 + 0 ≤ _)⟩)
    dsimp only [Pt.U, Pt.locs, Pt.cells, Pt.slots] at X103 l103 y103 z103 st103 hQ103
    subst l103 y103 z103
    obtain ⟨rfl, N103q, hh103⟩ := hQ103
    have N103 := Fr.app N100 N103q
    have pre103 : Steps p.tables e below _ (T103.setTop (mkF m 323 #[.val (.int p1), .val (.int p2), .val (.int p3), .val (.int p4), .val (.int p5), .val (.long p6), .second, .val (.int mo), .val (.int ss), .val (.int gw), .val (.int ff), .val (.ref q), .val (.int (1 : Int32)), .val (.int (5 : Int32))] [(.int (Int32.ofNat 3)), (.int (1 : Int32))])) := pre102.trans (st103)
    have J103 : IQ Z n0 T103.heap q 3 (fun i => own_md [p1, p2, p3, p4, p5, ff] (i + 3)) := by rw [hh103]; exact J100
    have pre104 : Steps p.tables e below _ (T103.setTop (mkF m 336 #[.val (.int p1), .val (.int p2), .val (.int p3), .val (.int p4), .val (.int p5), .val (.long p6), .second, .val (.int mo), .val (.int ss), .val (.int gw), .val (.int ff), .val (.ref q), .val (.int (1 : Int32)), .val (.int (5 : Int32))] [(.int ((1 : Int32) &&& (1 : Int32)))])) := pre103.trans (by
      show Steps p.tables e below (T103.setTop (mkF m 323 #[.val (.int p1), .val (.int p2), .val (.int p3), .val (.int p4), .val (.int p5), .val (.long p6), .second, .val (.int mo), .val (.int ss), .val (.int gw), .val (.int ff), .val (.ref q), .val (.int (1 : Int32)), .val (.int (5 : Int32))] [(.int (Int32.ofNat 3)), (.int (1 : Int32))])) _
      refine XS.iload X103.here hx rfl (hb hby at_323) rfl ?_
      show Steps p.tables e below (T103.setTop (mkF m 325 #[.val (.int p1), .val (.int p2), .val (.int p3), .val (.int p4), .val (.int p5), .val (.long p6), .second, .val (.int mo), .val (.int ss), .val (.int gw), .val (.int ff), .val (.ref q), .val (.int (1 : Int32)), .val (.int (5 : Int32))] [(.int (5 : Int32)), (.int (Int32.ofNat 3)), (.int (1 : Int32))])) _
      refine XS.iconst X103.here hx rfl (hb hby at_325) ?_
      show Steps p.tables e below (T103.setTop (mkF m 326 #[.val (.int p1), .val (.int p2), .val (.int p3), .val (.int p4), .val (.int p5), .val (.long p6), .second, .val (.int mo), .val (.int ss), .val (.int gw), .val (.int ff), .val (.ref q), .val (.int (1 : Int32)), .val (.int (5 : Int32))] [(.int (2 : Int32)), (.int (5 : Int32)), (.int (Int32.ofNat 3)), (.int (1 : Int32))])) _
      refine XS.isub X103.here hx rfl (hb hby at_326) rfl ?_
      show Steps p.tables e below (T103.setTop (mkF m 327 #[.val (.int p1), .val (.int p2), .val (.int p3), .val (.int p4), .val (.int p5), .val (.long p6), .second, .val (.int mo), .val (.int ss), .val (.int gw), .val (.int ff), .val (.ref q), .val (.int (1 : Int32)), .val (.int (5 : Int32))] [(.int ((5 : Int32) - (2 : Int32))), (.int (Int32.ofNat 3)), (.int (1 : Int32))])) _
      refine XS.icmpNo X103.here hx rfl (hb hby at_327) rfl (teq (by decide : Int32.ofNat 3 = ((5 : Int32) - (2 : Int32)))).2 ?_
      show Steps p.tables e below (T103.setTop (mkF m 330 #[.val (.int p1), .val (.int p2), .val (.int p3), .val (.int p4), .val (.int p5), .val (.long p6), .second, .val (.int mo), .val (.int ss), .val (.int gw), .val (.int ff), .val (.ref q), .val (.int (1 : Int32)), .val (.int (5 : Int32))] [(.int (1 : Int32))])) _
      refine XS.iconst X103.here hx rfl (hb hby at_330) ?_
      show Steps p.tables e below (T103.setTop (mkF m 331 #[.val (.int p1), .val (.int p2), .val (.int p3), .val (.int p4), .val (.int p5), .val (.long p6), .second, .val (.int mo), .val (.int ss), .val (.int gw), .val (.int ff), .val (.ref q), .val (.int (1 : Int32)), .val (.int (5 : Int32))] [(.int (1 : Int32)), (.int (1 : Int32))])) _
      refine XS.goto X103.here hx rfl (pc0 := 331) (pc' := 335) rfl (hb hby at_331) (by decide) (by decide) ?_
      show Steps p.tables e below (T103.setTop (mkF m 335 #[.val (.int p1), .val (.int p2), .val (.int p3), .val (.int p4), .val (.int p5), .val (.long p6), .second, .val (.int mo), .val (.int ss), .val (.int gw), .val (.int ff), .val (.ref q), .val (.int (1 : Int32)), .val (.int (5 : Int32))] [(.int (1 : Int32)), (.int (1 : Int32))])) _
      refine XS.iand X103.here hx rfl (hb hby at_335) rfl ?_
      exact Steps.refl _)
    rw [e111] at pre104
    have pre105 : Steps p.tables e below _ (T103.setTop (mkF m 342 #[.val (.int p1), .val (.int p2), .val (.int p3), .val (.int p4), .val (.int p5), .val (.long p6), .second, .val (.int mo), .val (.int ss), .val (.int gw), .val (.int ff), .val (.ref q), .val (.int (1 : Int32)), .val (.int (5 : Int32))] [(.ref q), (.int (1 : Int32))])) := pre104.trans (by
      show Steps p.tables e below (T103.setTop (mkF m 336 #[.val (.int p1), .val (.int p2), .val (.int p3), .val (.int p4), .val (.int p5), .val (.long p6), .second, .val (.int mo), .val (.int ss), .val (.int gw), .val (.int ff), .val (.ref q), .val (.int (1 : Int32)), .val (.int (5 : Int32))] [(.int (1 : Int32))])) _
      refine XS.istore X103.here hx rfl (hb hby at_336) rfl (l' := #[.val (.int p1), .val (.int p2), .val (.int p3), .val (.int p4), .val (.int p5), .val (.long p6), .second, .val (.int mo), .val (.int ss), .val (.int gw), .val (.int ff), .val (.ref q), .val (.int (1 : Int32)), .val (.int (5 : Int32))]) rfl ?_
      show Steps p.tables e below (T103.setTop (mkF m 338 #[.val (.int p1), .val (.int p2), .val (.int p3), .val (.int p4), .val (.int p5), .val (.long p6), .second, .val (.int mo), .val (.int ss), .val (.int gw), .val (.int ff), .val (.ref q), .val (.int (1 : Int32)), .val (.int (5 : Int32))] [])) _
      refine XS.iload X103.here hx rfl (hb hby at_338) rfl ?_
      show Steps p.tables e below (T103.setTop (mkF m 340 #[.val (.int p1), .val (.int p2), .val (.int p3), .val (.int p4), .val (.int p5), .val (.long p6), .second, .val (.int mo), .val (.int ss), .val (.int gw), .val (.int ff), .val (.ref q), .val (.int (1 : Int32)), .val (.int (5 : Int32))] [(.int (1 : Int32))])) _
      refine XS.aload X103.here hx rfl (hb hby at_340) rfl rfl ?_
      exact Steps.refl _)
    obtain ⟨cq106, kq106, q106a, q106b, q106c⟩ := isOf hZ (rfl : T103.heap = T103.heap) J103.exa
    obtain ⟨_, _, ⟨T106, L106, k106, n106⟩, -, X106, ⟨Lc106, hQ106, l106, y106, z106⟩, st106⟩ := X103.virtualBack hx (y := (⟨"com/example/trips_into_trajectories/tripsintotrajectories/simulation/IntQueue", "poll", "()I"⟩ : MethodName)) (z := (⟨"com/example/trips_into_trajectories/tripsintotrajectories/simulation/IntQueue", "poll", "()I"⟩ : MethodName)) hown (mvT hZ (hw _ (List.mem_of_getElem? (i := 27) rfl))) (mvT hZ (hw _ (List.mem_of_getElem? (i := 28) rfl))) (notFace_of_selects (args := #[]) (mvT hZ (hw _ (List.mem_of_getElem? (i := 30) rfl)))) (mvT hZ (hw _ (List.mem_of_getElem? (i := 30) rfl))) (mvT hZ (hw _ (List.mem_of_getElem? (i := 29) rfl))) (by decide) (backOf (W := 1) (rmP l Z a0 hw [] q 2 (fun i => own_md [p1, p2, p3, p4, p5, ff] (i + 3)) T103.heap n0 J103.le J103) hZ (hw _ (List.mem_of_getElem? (i := 31) rfl)) (hw _ (List.mem_of_getElem? (i := 3) rfl)) (by decide) (by decide)) q106a q106c (g := (mkF m 342 #[.val (.int p1), .val (.int p2), .val (.int p3), .val (.int p4), .val (.int p5), .val (.long p6), .second, .val (.int mo), .val (.int ss), .val (.int gw), .val (.int ff), .val (.ref q), .val (.int (1 : Int32)), .val (.int (5 : Int32))] [(.ref q), (.int (1 : Int32))])) rfl (by rw [hml]; rfl) (Steps.refl _) (argsL := []) (rest := [(.int (1 : Int32))]) (lenOf pd_rm0_2 rfl) rfl (by show 2 * 0 + _ ≤ _; exact Nat.le_of_eq rfl) (hb hby at_342) (fun _ _ => ⟨rfl, (rfl : T103.heap = T103.heap), (by decide : 11 + 0 ≤ _), (by decide : 79 + 0 ≤ _)⟩)
    dsimp only [Pt.U, Pt.locs, Pt.cells, Pt.slots] at X106 l106 y106 z106 st106 hQ106
    subst l106 y106 z106
    obtain ⟨rfl, N106q, I106⟩ := hQ106
    have N106 := Fr.app N103 N106q
    have pre106 : Steps p.tables e below _ (T106.setTop (mkF m 345 #[.val (.int p1), .val (.int p2), .val (.int p3), .val (.int p4), .val (.int p5), .val (.long p6), .second, .val (.int mo), .val (.int ss), .val (.int gw), .val (.int ff), .val (.ref q), .val (.int (1 : Int32)), .val (.int (5 : Int32))] [(.int p4), (.int (1 : Int32))])) := pre105.trans (st106)
    have J106 : IQ Z n0 T106.heap q 2 (fun i => own_md [p1, p2, p3, p4, p5, ff] (i + 4)) := IQ.less I106
    have pre107 : Steps p.tables e below _ (T106.setTop (mkF m 355 #[.val (.int p1), .val (.int p2), .val (.int p3), .val (.int p4), .val (.int p5), .val (.long p6), .second, .val (.int mo), .val (.int ss), .val (.int gw), .val (.int ff), .val (.ref q), .val (.int (1 : Int32)), .val (.int (5 : Int32))] [(.int ((1 : Int32) &&& (1 : Int32)))])) := pre106.trans (by
      show Steps p.tables e below (T106.setTop (mkF m 345 #[.val (.int p1), .val (.int p2), .val (.int p3), .val (.int p4), .val (.int p5), .val (.long p6), .second, .val (.int mo), .val (.int ss), .val (.int gw), .val (.int ff), .val (.ref q), .val (.int (1 : Int32)), .val (.int (5 : Int32))] [(.int p4), (.int (1 : Int32))])) _
      refine XS.iloadN X106.here hx rfl (hb hby at_345) rfl ?_
      show Steps p.tables e below (T106.setTop (mkF m 346 #[.val (.int p1), .val (.int p2), .val (.int p3), .val (.int p4), .val (.int p5), .val (.long p6), .second, .val (.int mo), .val (.int ss), .val (.int gw), .val (.int ff), .val (.ref q), .val (.int (1 : Int32)), .val (.int (5 : Int32))] [(.int p4), (.int p4), (.int (1 : Int32))])) _
      refine XS.icmpNo X106.here hx rfl (hb hby at_346) rfl (teq (rfl : p4 = p4)).2 ?_
      show Steps p.tables e below (T106.setTop (mkF m 349 #[.val (.int p1), .val (.int p2), .val (.int p3), .val (.int p4), .val (.int p5), .val (.long p6), .second, .val (.int mo), .val (.int ss), .val (.int gw), .val (.int ff), .val (.ref q), .val (.int (1 : Int32)), .val (.int (5 : Int32))] [(.int (1 : Int32))])) _
      refine XS.iconst X106.here hx rfl (hb hby at_349) ?_
      show Steps p.tables e below (T106.setTop (mkF m 350 #[.val (.int p1), .val (.int p2), .val (.int p3), .val (.int p4), .val (.int p5), .val (.long p6), .second, .val (.int mo), .val (.int ss), .val (.int gw), .val (.int ff), .val (.ref q), .val (.int (1 : Int32)), .val (.int (5 : Int32))] [(.int (1 : Int32)), (.int (1 : Int32))])) _
      refine XS.goto X106.here hx rfl (pc0 := 350) (pc' := 354) rfl (hb hby at_350) (by decide) (by decide) ?_
      show Steps p.tables e below (T106.setTop (mkF m 354 #[.val (.int p1), .val (.int p2), .val (.int p3), .val (.int p4), .val (.int p5), .val (.long p6), .second, .val (.int mo), .val (.int ss), .val (.int gw), .val (.int ff), .val (.ref q), .val (.int (1 : Int32)), .val (.int (5 : Int32))] [(.int (1 : Int32)), (.int (1 : Int32))])) _
      refine XS.iand X106.here hx rfl (hb hby at_354) rfl ?_
      exact Steps.refl _)
    rw [e111] at pre107
    have pre108 : Steps p.tables e below _ (T106.setTop (mkF m 361 #[.val (.int p1), .val (.int p2), .val (.int p3), .val (.int p4), .val (.int p5), .val (.long p6), .second, .val (.int mo), .val (.int ss), .val (.int gw), .val (.int ff), .val (.ref q), .val (.int (1 : Int32)), .val (.int (5 : Int32))] [(.ref q), (.int (1 : Int32))])) := pre107.trans (by
      show Steps p.tables e below (T106.setTop (mkF m 355 #[.val (.int p1), .val (.int p2), .val (.int p3), .val (.int p4), .val (.int p5), .val (.long p6), .second, .val (.int mo), .val (.int ss), .val (.int gw), .val (.int ff), .val (.ref q), .val (.int (1 : Int32)), .val (.int (5 : Int32))] [(.int (1 : Int32))])) _
      refine XS.istore X106.here hx rfl (hb hby at_355) rfl (l' := #[.val (.int p1), .val (.int p2), .val (.int p3), .val (.int p4), .val (.int p5), .val (.long p6), .second, .val (.int mo), .val (.int ss), .val (.int gw), .val (.int ff), .val (.ref q), .val (.int (1 : Int32)), .val (.int (5 : Int32))]) rfl ?_
      show Steps p.tables e below (T106.setTop (mkF m 357 #[.val (.int p1), .val (.int p2), .val (.int p3), .val (.int p4), .val (.int p5), .val (.long p6), .second, .val (.int mo), .val (.int ss), .val (.int gw), .val (.int ff), .val (.ref q), .val (.int (1 : Int32)), .val (.int (5 : Int32))] [])) _
      refine XS.iload X106.here hx rfl (hb hby at_357) rfl ?_
      show Steps p.tables e below (T106.setTop (mkF m 359 #[.val (.int p1), .val (.int p2), .val (.int p3), .val (.int p4), .val (.int p5), .val (.long p6), .second, .val (.int mo), .val (.int ss), .val (.int gw), .val (.int ff), .val (.ref q), .val (.int (1 : Int32)), .val (.int (5 : Int32))] [(.int (1 : Int32))])) _
      refine XS.aload X106.here hx rfl (hb hby at_359) rfl rfl ?_
      exact Steps.refl _)
    obtain ⟨cq109, kq109, q109a, q109b, q109c⟩ := isOf hZ (rfl : T106.heap = T106.heap) J106.exa
    obtain ⟨_, _, ⟨T109, L109, k109, n109⟩, -, X109, ⟨Lc109, hQ109, l109, y109, z109⟩, st109⟩ := X106.virtualBack hx (y := (⟨"com/example/trips_into_trajectories/tripsintotrajectories/simulation/IntQueue", "size", "()I"⟩ : MethodName)) (z := (⟨"com/example/trips_into_trajectories/tripsintotrajectories/simulation/IntQueue", "size", "()I"⟩ : MethodName)) hown (mvT hZ (hw _ (List.mem_of_getElem? (i := 13) rfl))) (mvT hZ (hw _ (List.mem_of_getElem? (i := 14) rfl))) (notFace_of_selects (args := #[]) (mvT hZ (hw _ (List.mem_of_getElem? (i := 16) rfl)))) (mvT hZ (hw _ (List.mem_of_getElem? (i := 16) rfl))) (mvT hZ (hw _ (List.mem_of_getElem? (i := 15) rfl))) (by decide) (backOf (W := 1) (rmS l Z a0 hw [] q 2 (fun i => own_md [p1, p2, p3, p4, p5, ff] (i + 4)) T106.heap n0 J106.le J106) hZ (hw _ (List.mem_of_getElem? (i := 17) rfl)) (hw _ (List.mem_of_getElem? (i := 3) rfl)) (by decide) (by decide)) q109a q109c (g := (mkF m 361 #[.val (.int p1), .val (.int p2), .val (.int p3), .val (.int p4), .val (.int p5), .val (.long p6), .second, .val (.int mo), .val (.int ss), .val (.int gw), .val (.int ff), .val (.ref q), .val (.int (1 : Int32)), .val (.int (5 : Int32))] [(.ref q), (.int (1 : Int32))])) rfl (by rw [hml]; rfl) (Steps.refl _) (argsL := []) (rest := [(.int (1 : Int32))]) (lenOf pd_rm0_2 rfl) rfl (by show 2 * 0 + _ ≤ _; exact Nat.le_of_eq rfl) (hb hby at_361) (fun _ _ => ⟨rfl, (rfl : T106.heap = T106.heap), (by decide : 11 + 0 ≤ _), (by decide : 79 + 0 ≤ _)⟩)
    dsimp only [Pt.U, Pt.locs, Pt.cells, Pt.slots] at X109 l109 y109 z109 st109 hQ109
    subst l109 y109 z109
    obtain ⟨rfl, N109q, hh109⟩ := hQ109
    have N109 := Fr.app N106 N109q
    have pre109 : Steps p.tables e below _ (T109.setTop (mkF m 364 #[.val (.int p1), .val (.int p2), .val (.int p3), .val (.int p4), .val (.int p5), .val (.long p6), .second, .val (.int mo), .val (.int ss), .val (.int gw), .val (.int ff), .val (.ref q), .val (.int (1 : Int32)), .val (.int (5 : Int32))] [(.int (Int32.ofNat 2)), (.int (1 : Int32))])) := pre108.trans (st109)
    have J109 : IQ Z n0 T109.heap q 2 (fun i => own_md [p1, p2, p3, p4, p5, ff] (i + 4)) := by rw [hh109]; exact J106
    have pre110 : Steps p.tables e below _ (T109.setTop (mkF m 377 #[.val (.int p1), .val (.int p2), .val (.int p3), .val (.int p4), .val (.int p5), .val (.long p6), .second, .val (.int mo), .val (.int ss), .val (.int gw), .val (.int ff), .val (.ref q), .val (.int (1 : Int32)), .val (.int (5 : Int32))] [(.int ((1 : Int32) &&& (1 : Int32)))])) := pre109.trans (by
      show Steps p.tables e below (T109.setTop (mkF m 364 #[.val (.int p1), .val (.int p2), .val (.int p3), .val (.int p4), .val (.int p5), .val (.long p6), .second, .val (.int mo), .val (.int ss), .val (.int gw), .val (.int ff), .val (.ref q), .val (.int (1 : Int32)), .val (.int (5 : Int32))] [(.int (Int32.ofNat 2)), (.int (1 : Int32))])) _
      refine XS.iload X109.here hx rfl (hb hby at_364) rfl ?_
      show Steps p.tables e below (T109.setTop (mkF m 366 #[.val (.int p1), .val (.int p2), .val (.int p3), .val (.int p4), .val (.int p5), .val (.long p6), .second, .val (.int mo), .val (.int ss), .val (.int gw), .val (.int ff), .val (.ref q), .val (.int (1 : Int32)), .val (.int (5 : Int32))] [(.int (5 : Int32)), (.int (Int32.ofNat 2)), (.int (1 : Int32))])) _
      refine XS.iconst X109.here hx rfl (hb hby at_366) ?_
      show Steps p.tables e below (T109.setTop (mkF m 367 #[.val (.int p1), .val (.int p2), .val (.int p3), .val (.int p4), .val (.int p5), .val (.long p6), .second, .val (.int mo), .val (.int ss), .val (.int gw), .val (.int ff), .val (.ref q), .val (.int (1 : Int32)), .val (.int (5 : Int32))] [(.int (3 : Int32)), (.int (5 : Int32)), (.int (Int32.ofNat 2)), (.int (1 : Int32))])) _
      refine XS.isub X109.here hx rfl (hb hby at_367) rfl ?_
      show Steps p.tables e below (T109.setTop (mkF m 368 #[.val (.int p1), .val (.int p2), .val (.int p3), .val (.int p4), .val (.int p5), .val (.long p6), .second, .val (.int mo), .val (.int ss), .val (.int gw), .val (.int ff), .val (.ref q), .val (.int (1 : Int32)), .val (.int (5 : Int32))] [(.int ((5 : Int32) - (3 : Int32))), (.int (Int32.ofNat 2)), (.int (1 : Int32))])) _
      refine XS.icmpNo X109.here hx rfl (hb hby at_368) rfl (teq (by decide : Int32.ofNat 2 = ((5 : Int32) - (3 : Int32)))).2 ?_
      show Steps p.tables e below (T109.setTop (mkF m 371 #[.val (.int p1), .val (.int p2), .val (.int p3), .val (.int p4), .val (.int p5), .val (.long p6), .second, .val (.int mo), .val (.int ss), .val (.int gw), .val (.int ff), .val (.ref q), .val (.int (1 : Int32)), .val (.int (5 : Int32))] [(.int (1 : Int32))])) _
      refine XS.iconst X109.here hx rfl (hb hby at_371) ?_
      show Steps p.tables e below (T109.setTop (mkF m 372 #[.val (.int p1), .val (.int p2), .val (.int p3), .val (.int p4), .val (.int p5), .val (.long p6), .second, .val (.int mo), .val (.int ss), .val (.int gw), .val (.int ff), .val (.ref q), .val (.int (1 : Int32)), .val (.int (5 : Int32))] [(.int (1 : Int32)), (.int (1 : Int32))])) _
      refine XS.goto X109.here hx rfl (pc0 := 372) (pc' := 376) rfl (hb hby at_372) (by decide) (by decide) ?_
      show Steps p.tables e below (T109.setTop (mkF m 376 #[.val (.int p1), .val (.int p2), .val (.int p3), .val (.int p4), .val (.int p5), .val (.long p6), .second, .val (.int mo), .val (.int ss), .val (.int gw), .val (.int ff), .val (.ref q), .val (.int (1 : Int32)), .val (.int (5 : Int32))] [(.int (1 : Int32)), (.int (1 : Int32))])) _
      refine XS.iand X109.here hx rfl (hb hby at_376) rfl ?_
      exact Steps.refl _)
    rw [e111] at pre110
    have pre111 : Steps p.tables e below _ (T109.setTop (mkF m 388 #[.val (.int p1), .val (.int p2), .val (.int p3), .val (.int p4), .val (.int p5), .val (.long p6), .second, .val (.int mo), .val (.int ss), .val (.int gw), .val (.int ff), .val (.ref q), .val (.int (1 : Int32)), .val (.int (5 : Int32))] [(.ref q), (.int (1 : Int32))])) := pre110.trans (by
      show Steps p.tables e below (T109.setTop (mkF m 377 #[.val (.int p1), .val (.int p2), .val (.int p3), .val (.int p4), .val (.int p5), .val (.long p6), .second, .val (.int mo), .val (.int ss), .val (.int gw), .val (.int ff), .val (.ref q), .val (.int (1 : Int32)), .val (.int (5 : Int32))] [(.int (1 : Int32))])) _
      refine XS.istore X109.here hx rfl (hb hby at_377) rfl (l' := #[.val (.int p1), .val (.int p2), .val (.int p3), .val (.int p4), .val (.int p5), .val (.long p6), .second, .val (.int mo), .val (.int ss), .val (.int gw), .val (.int ff), .val (.ref q), .val (.int (1 : Int32)), .val (.int (5 : Int32))]) rfl ?_
      show Steps p.tables e below (T109.setTop (mkF m 379 #[.val (.int p1), .val (.int p2), .val (.int p3), .val (.int p4), .val (.int p5), .val (.long p6), .second, .val (.int mo), .val (.int ss), .val (.int gw), .val (.int ff), .val (.ref q), .val (.int (1 : Int32)), .val (.int (5 : Int32))] [])) _
      refine XS.iload X109.here hx rfl (hb hby at_379) rfl ?_
      show Steps p.tables e below (T109.setTop (mkF m 381 #[.val (.int p1), .val (.int p2), .val (.int p3), .val (.int p4), .val (.int p5), .val (.long p6), .second, .val (.int mo), .val (.int ss), .val (.int gw), .val (.int ff), .val (.ref q), .val (.int (1 : Int32)), .val (.int (5 : Int32))] [(.int gw)])) _
      refine XS.ifNo X109.here hx rfl (hb hby at_381) rfl ((if0 _ _).trans (feq hgw).1) ?_
      show Steps p.tables e below (T109.setTop (mkF m 384 #[.val (.int p1), .val (.int p2), .val (.int p3), .val (.int p4), .val (.int p5), .val (.long p6), .second, .val (.int mo), .val (.int ss), .val (.int gw), .val (.int ff), .val (.ref q), .val (.int (1 : Int32)), .val (.int (5 : Int32))] [])) _
      refine XS.iload X109.here hx rfl (hb hby at_384) rfl ?_
      show Steps p.tables e below (T109.setTop (mkF m 386 #[.val (.int p1), .val (.int p2), .val (.int p3), .val (.int p4), .val (.int p5), .val (.long p6), .second, .val (.int mo), .val (.int ss), .val (.int gw), .val (.int ff), .val (.ref q), .val (.int (1 : Int32)), .val (.int (5 : Int32))] [(.int (1 : Int32))])) _
      refine XS.aload X109.here hx rfl (hb hby at_386) rfl rfl ?_
      exact Steps.refl _)
    obtain ⟨cq112, kq112, q112a, q112b, q112c⟩ := isOf hZ (rfl : T109.heap = T109.heap) J109.exa
    obtain ⟨_, _, ⟨T112, L112, k112, n112⟩, -, X112, ⟨Lc112, hQ112, l112, y112, z112⟩, st112⟩ := X109.virtualBack hx (y := (⟨"com/example/trips_into_trajectories/tripsintotrajectories/simulation/IntQueue", "poll", "()I"⟩ : MethodName)) (z := (⟨"com/example/trips_into_trajectories/tripsintotrajectories/simulation/IntQueue", "poll", "()I"⟩ : MethodName)) hown (mvT hZ (hw _ (List.mem_of_getElem? (i := 27) rfl))) (mvT hZ (hw _ (List.mem_of_getElem? (i := 28) rfl))) (notFace_of_selects (args := #[]) (mvT hZ (hw _ (List.mem_of_getElem? (i := 30) rfl)))) (mvT hZ (hw _ (List.mem_of_getElem? (i := 30) rfl))) (mvT hZ (hw _ (List.mem_of_getElem? (i := 29) rfl))) (by decide) (backOf (W := 1) (rmP l Z a0 hw [] q 1 (fun i => own_md [p1, p2, p3, p4, p5, ff] (i + 4)) T109.heap n0 J109.le J109) hZ (hw _ (List.mem_of_getElem? (i := 31) rfl)) (hw _ (List.mem_of_getElem? (i := 3) rfl)) (by decide) (by decide)) q112a q112c (g := (mkF m 388 #[.val (.int p1), .val (.int p2), .val (.int p3), .val (.int p4), .val (.int p5), .val (.long p6), .second, .val (.int mo), .val (.int ss), .val (.int gw), .val (.int ff), .val (.ref q), .val (.int (1 : Int32)), .val (.int (5 : Int32))] [(.ref q), (.int (1 : Int32))])) rfl (by rw [hml]; rfl) (Steps.refl _) (argsL := []) (rest := [(.int (1 : Int32))]) (lenOf pd_rm0_2 rfl) rfl (by show 2 * 0 + _ ≤ _; exact Nat.le_of_eq rfl) (hb hby at_388) (fun _ _ => ⟨rfl, (rfl : T109.heap = T109.heap), (by decide : 11 + 0 ≤ _), (by decide : 79 + 0 ≤ _)⟩)
    dsimp only [Pt.U, Pt.locs, Pt.cells, Pt.slots] at X112 l112 y112 z112 st112 hQ112
    subst l112 y112 z112
    obtain ⟨rfl, N112q, I112⟩ := hQ112
    have N112 := Fr.app N109 N112q
    have pre112 : Steps p.tables e below _ (T112.setTop (mkF m 391 #[.val (.int p1), .val (.int p2), .val (.int p3), .val (.int p4), .val (.int p5), .val (.long p6), .second, .val (.int mo), .val (.int ss), .val (.int gw), .val (.int ff), .val (.ref q), .val (.int (1 : Int32)), .val (.int (5 : Int32))] [(.int p5), (.int (1 : Int32))])) := pre111.trans (st112)
    have J112 : IQ Z n0 T112.heap q 1 (fun i => own_md [p1, p2, p3, p4, p5, ff] (i + 5)) := IQ.less I112
    have pre113 : Steps p.tables e below _ (T112.setTop (mkF m 402 #[.val (.int p1), .val (.int p2), .val (.int p3), .val (.int p4), .val (.int p5), .val (.long p6), .second, .val (.int mo), .val (.int ss), .val (.int gw), .val (.int ff), .val (.ref q), .val (.int (1 : Int32)), .val (.int (5 : Int32))] [(.int ((1 : Int32) &&& (1 : Int32)))])) := pre112.trans (by
      show Steps p.tables e below (T112.setTop (mkF m 391 #[.val (.int p1), .val (.int p2), .val (.int p3), .val (.int p4), .val (.int p5), .val (.long p6), .second, .val (.int mo), .val (.int ss), .val (.int gw), .val (.int ff), .val (.ref q), .val (.int (1 : Int32)), .val (.int (5 : Int32))] [(.int p5), (.int (1 : Int32))])) _
      refine XS.iload X112.here hx rfl (hb hby at_391) rfl ?_
      show Steps p.tables e below (T112.setTop (mkF m 393 #[.val (.int p1), .val (.int p2), .val (.int p3), .val (.int p4), .val (.int p5), .val (.long p6), .second, .val (.int mo), .val (.int ss), .val (.int gw), .val (.int ff), .val (.ref q), .val (.int (1 : Int32)), .val (.int (5 : Int32))] [(.int p5), (.int p5), (.int (1 : Int32))])) _
      refine XS.icmpNo X112.here hx rfl (hb hby at_393) rfl (teq (rfl : p5 = p5)).2 ?_
      show Steps p.tables e below (T112.setTop (mkF m 396 #[.val (.int p1), .val (.int p2), .val (.int p3), .val (.int p4), .val (.int p5), .val (.long p6), .second, .val (.int mo), .val (.int ss), .val (.int gw), .val (.int ff), .val (.ref q), .val (.int (1 : Int32)), .val (.int (5 : Int32))] [(.int (1 : Int32))])) _
      refine XS.iconst X112.here hx rfl (hb hby at_396) ?_
      show Steps p.tables e below (T112.setTop (mkF m 397 #[.val (.int p1), .val (.int p2), .val (.int p3), .val (.int p4), .val (.int p5), .val (.long p6), .second, .val (.int mo), .val (.int ss), .val (.int gw), .val (.int ff), .val (.ref q), .val (.int (1 : Int32)), .val (.int (5 : Int32))] [(.int (1 : Int32)), (.int (1 : Int32))])) _
      refine XS.goto X112.here hx rfl (pc0 := 397) (pc' := 401) rfl (hb hby at_397) (by decide) (by decide) ?_
      show Steps p.tables e below (T112.setTop (mkF m 401 #[.val (.int p1), .val (.int p2), .val (.int p3), .val (.int p4), .val (.int p5), .val (.long p6), .second, .val (.int mo), .val (.int ss), .val (.int gw), .val (.int ff), .val (.ref q), .val (.int (1 : Int32)), .val (.int (5 : Int32))] [(.int (1 : Int32)), (.int (1 : Int32))])) _
      refine XS.iand X112.here hx rfl (hb hby at_401) rfl ?_
      exact Steps.refl _)
    rw [e111] at pre113
    have pre114 : Steps p.tables e below _ (T112.setTop (mkF m 408 #[.val (.int p1), .val (.int p2), .val (.int p3), .val (.int p4), .val (.int p5), .val (.long p6), .second, .val (.int mo), .val (.int ss), .val (.int gw), .val (.int ff), .val (.ref q), .val (.int (1 : Int32)), .val (.int (5 : Int32))] [(.ref q), (.int (1 : Int32))])) := pre113.trans (by
      show Steps p.tables e below (T112.setTop (mkF m 402 #[.val (.int p1), .val (.int p2), .val (.int p3), .val (.int p4), .val (.int p5), .val (.long p6), .second, .val (.int mo), .val (.int ss), .val (.int gw), .val (.int ff), .val (.ref q), .val (.int (1 : Int32)), .val (.int (5 : Int32))] [(.int (1 : Int32))])) _
      refine XS.istore X112.here hx rfl (hb hby at_402) rfl (l' := #[.val (.int p1), .val (.int p2), .val (.int p3), .val (.int p4), .val (.int p5), .val (.long p6), .second, .val (.int mo), .val (.int ss), .val (.int gw), .val (.int ff), .val (.ref q), .val (.int (1 : Int32)), .val (.int (5 : Int32))]) rfl ?_
      show Steps p.tables e below (T112.setTop (mkF m 404 #[.val (.int p1), .val (.int p2), .val (.int p3), .val (.int p4), .val (.int p5), .val (.long p6), .second, .val (.int mo), .val (.int ss), .val (.int gw), .val (.int ff), .val (.ref q), .val (.int (1 : Int32)), .val (.int (5 : Int32))] [])) _
      refine XS.iload X112.here hx rfl (hb hby at_404) rfl ?_
      show Steps p.tables e below (T112.setTop (mkF m 406 #[.val (.int p1), .val (.int p2), .val (.int p3), .val (.int p4), .val (.int p5), .val (.long p6), .second, .val (.int mo), .val (.int ss), .val (.int gw), .val (.int ff), .val (.ref q), .val (.int (1 : Int32)), .val (.int (5 : Int32))] [(.int (1 : Int32))])) _
      refine XS.aload X112.here hx rfl (hb hby at_406) rfl rfl ?_
      exact Steps.refl _)
    obtain ⟨cq115, kq115, q115a, q115b, q115c⟩ := isOf hZ (rfl : T112.heap = T112.heap) J112.exa
    obtain ⟨_, _, ⟨T115, L115, k115, n115⟩, -, X115, ⟨Lc115, hQ115, l115, y115, z115⟩, st115⟩ := X112.virtualBack hx (y := (⟨"com/example/trips_into_trajectories/tripsintotrajectories/simulation/IntQueue", "size", "()I"⟩ : MethodName)) (z := (⟨"com/example/trips_into_trajectories/tripsintotrajectories/simulation/IntQueue", "size", "()I"⟩ : MethodName)) hown (mvT hZ (hw _ (List.mem_of_getElem? (i := 13) rfl))) (mvT hZ (hw _ (List.mem_of_getElem? (i := 14) rfl))) (notFace_of_selects (args := #[]) (mvT hZ (hw _ (List.mem_of_getElem? (i := 16) rfl)))) (mvT hZ (hw _ (List.mem_of_getElem? (i := 16) rfl))) (mvT hZ (hw _ (List.mem_of_getElem? (i := 15) rfl))) (by decide) (backOf (W := 1) (rmS l Z a0 hw [] q 1 (fun i => own_md [p1, p2, p3, p4, p5, ff] (i + 5)) T112.heap n0 J112.le J112) hZ (hw _ (List.mem_of_getElem? (i := 17) rfl)) (hw _ (List.mem_of_getElem? (i := 3) rfl)) (by decide) (by decide)) q115a q115c (g := (mkF m 408 #[.val (.int p1), .val (.int p2), .val (.int p3), .val (.int p4), .val (.int p5), .val (.long p6), .second, .val (.int mo), .val (.int ss), .val (.int gw), .val (.int ff), .val (.ref q), .val (.int (1 : Int32)), .val (.int (5 : Int32))] [(.ref q), (.int (1 : Int32))])) rfl (by rw [hml]; rfl) (Steps.refl _) (argsL := []) (rest := [(.int (1 : Int32))]) (lenOf pd_rm0_2 rfl) rfl (by show 2 * 0 + _ ≤ _; exact Nat.le_of_eq rfl) (hb hby at_408) (fun _ _ => ⟨rfl, (rfl : T112.heap = T112.heap), (by decide : 11 + 0 ≤ _), (by decide : 79 + 0 ≤ _)⟩)
    dsimp only [Pt.U, Pt.locs, Pt.cells, Pt.slots] at X115 l115 y115 z115 st115 hQ115
    subst l115 y115 z115
    obtain ⟨rfl, N115q, hh115⟩ := hQ115
    have N115 := Fr.app N112 N115q
    have pre115 : Steps p.tables e below _ (T115.setTop (mkF m 411 #[.val (.int p1), .val (.int p2), .val (.int p3), .val (.int p4), .val (.int p5), .val (.long p6), .second, .val (.int mo), .val (.int ss), .val (.int gw), .val (.int ff), .val (.ref q), .val (.int (1 : Int32)), .val (.int (5 : Int32))] [(.int (Int32.ofNat 1)), (.int (1 : Int32))])) := pre114.trans (st115)
    have J115 : IQ Z n0 T115.heap q 1 (fun i => own_md [p1, p2, p3, p4, p5, ff] (i + 5)) := by rw [hh115]; exact J112
    have pre116 : Steps p.tables e below _ (T115.setTop (mkF m 421 #[.val (.int p1), .val (.int p2), .val (.int p3), .val (.int p4), .val (.int p5), .val (.long p6), .second, .val (.int mo), .val (.int ss), .val (.int gw), .val (.int ff), .val (.ref q), .val (.int (1 : Int32)), .val (.int (5 : Int32))] [(.int ((1 : Int32) &&& (1 : Int32)))])) := pre115.trans (by
      show Steps p.tables e below (T115.setTop (mkF m 411 #[.val (.int p1), .val (.int p2), .val (.int p3), .val (.int p4), .val (.int p5), .val (.long p6), .second, .val (.int mo), .val (.int ss), .val (.int gw), .val (.int ff), .val (.ref q), .val (.int (1 : Int32)), .val (.int (5 : Int32))] [(.int (Int32.ofNat 1)), (.int (1 : Int32))])) _
      refine XS.iconst X115.here hx rfl (hb hby at_411) ?_
      show Steps p.tables e below (T115.setTop (mkF m 412 #[.val (.int p1), .val (.int p2), .val (.int p3), .val (.int p4), .val (.int p5), .val (.long p6), .second, .val (.int mo), .val (.int ss), .val (.int gw), .val (.int ff), .val (.ref q), .val (.int (1 : Int32)), .val (.int (5 : Int32))] [(.int (1 : Int32)), (.int (Int32.ofNat 1)), (.int (1 : Int32))])) _
      refine XS.icmpNo X115.here hx rfl (hb hby at_412) rfl (teq (by decide : Int32.ofNat 1 = (1 : Int32))).2 ?_
      show Steps p.tables e below (T115.setTop (mkF m 415 #[.val (.int p1), .val (.int p2), .val (.int p3), .val (.int p4), .val (.int p5), .val (.long p6), .second, .val (.int mo), .val (.int ss), .val (.int gw), .val (.int ff), .val (.ref q), .val (.int (1 : Int32)), .val (.int (5 : Int32))] [(.int (1 : Int32))])) _
      refine XS.iconst X115.here hx rfl (hb hby at_415) ?_
      show Steps p.tables e below (T115.setTop (mkF m 416 #[.val (.int p1), .val (.int p2), .val (.int p3), .val (.int p4), .val (.int p5), .val (.long p6), .second, .val (.int mo), .val (.int ss), .val (.int gw), .val (.int ff), .val (.ref q), .val (.int (1 : Int32)), .val (.int (5 : Int32))] [(.int (1 : Int32)), (.int (1 : Int32))])) _
      refine XS.goto X115.here hx rfl (pc0 := 416) (pc' := 420) rfl (hb hby at_416) (by decide) (by decide) ?_
      show Steps p.tables e below (T115.setTop (mkF m 420 #[.val (.int p1), .val (.int p2), .val (.int p3), .val (.int p4), .val (.int p5), .val (.long p6), .second, .val (.int mo), .val (.int ss), .val (.int gw), .val (.int ff), .val (.ref q), .val (.int (1 : Int32)), .val (.int (5 : Int32))] [(.int (1 : Int32)), (.int (1 : Int32))])) _
      refine XS.iand X115.here hx rfl (hb hby at_420) rfl ?_
      exact Steps.refl _)
    rw [e111] at pre116
    have pre117 : Steps p.tables e below _ (T115.setTop (mkF m 427 #[.val (.int p1), .val (.int p2), .val (.int p3), .val (.int p4), .val (.int p5), .val (.long p6), .second, .val (.int mo), .val (.int ss), .val (.int gw), .val (.int ff), .val (.ref q), .val (.int (1 : Int32)), .val (.int (5 : Int32))] [(.ref q), (.int (1 : Int32))])) := pre116.trans (by
      show Steps p.tables e below (T115.setTop (mkF m 421 #[.val (.int p1), .val (.int p2), .val (.int p3), .val (.int p4), .val (.int p5), .val (.long p6), .second, .val (.int mo), .val (.int ss), .val (.int gw), .val (.int ff), .val (.ref q), .val (.int (1 : Int32)), .val (.int (5 : Int32))] [(.int (1 : Int32))])) _
      refine XS.istore X115.here hx rfl (hb hby at_421) rfl (l' := #[.val (.int p1), .val (.int p2), .val (.int p3), .val (.int p4), .val (.int p5), .val (.long p6), .second, .val (.int mo), .val (.int ss), .val (.int gw), .val (.int ff), .val (.ref q), .val (.int (1 : Int32)), .val (.int (5 : Int32))]) rfl ?_
      show Steps p.tables e below (T115.setTop (mkF m 423 #[.val (.int p1), .val (.int p2), .val (.int p3), .val (.int p4), .val (.int p5), .val (.long p6), .second, .val (.int mo), .val (.int ss), .val (.int gw), .val (.int ff), .val (.ref q), .val (.int (1 : Int32)), .val (.int (5 : Int32))] [])) _
      refine XS.iload X115.here hx rfl (hb hby at_423) rfl ?_
      show Steps p.tables e below (T115.setTop (mkF m 425 #[.val (.int p1), .val (.int p2), .val (.int p3), .val (.int p4), .val (.int p5), .val (.long p6), .second, .val (.int mo), .val (.int ss), .val (.int gw), .val (.int ff), .val (.ref q), .val (.int (1 : Int32)), .val (.int (5 : Int32))] [(.int (1 : Int32))])) _
      refine XS.aload X115.here hx rfl (hb hby at_425) rfl rfl ?_
      exact Steps.refl _)
    obtain ⟨cq118, kq118, q118a, q118b, q118c⟩ := isOf hZ (rfl : T115.heap = T115.heap) J115.exa
    obtain ⟨_, _, ⟨T118, L118, k118, n118⟩, -, X118, ⟨Lc118, hQ118, l118, y118, z118⟩, st118⟩ := X115.virtualBack hx (y := (⟨"com/example/trips_into_trajectories/tripsintotrajectories/simulation/IntQueue", "poll", "()I"⟩ : MethodName)) (z := (⟨"com/example/trips_into_trajectories/tripsintotrajectories/simulation/IntQueue", "poll", "()I"⟩ : MethodName)) hown (mvT hZ (hw _ (List.mem_of_getElem? (i := 27) rfl))) (mvT hZ (hw _ (List.mem_of_getElem? (i := 28) rfl))) (notFace_of_selects (args := #[]) (mvT hZ (hw _ (List.mem_of_getElem? (i := 30) rfl)))) (mvT hZ (hw _ (List.mem_of_getElem? (i := 30) rfl))) (mvT hZ (hw _ (List.mem_of_getElem? (i := 29) rfl))) (by decide) (backOf (W := 1) (rmP l Z a0 hw [] q 0 (fun i => own_md [p1, p2, p3, p4, p5, ff] (i + 5)) T115.heap n0 J115.le J115) hZ (hw _ (List.mem_of_getElem? (i := 31) rfl)) (hw _ (List.mem_of_getElem? (i := 3) rfl)) (by decide) (by decide)) q118a q118c (g := (mkF m 427 #[.val (.int p1), .val (.int p2), .val (.int p3), .val (.int p4), .val (.int p5), .val (.long p6), .second, .val (.int mo), .val (.int ss), .val (.int gw), .val (.int ff), .val (.ref q), .val (.int (1 : Int32)), .val (.int (5 : Int32))] [(.ref q), (.int (1 : Int32))])) rfl (by rw [hml]; rfl) (Steps.refl _) (argsL := []) (rest := [(.int (1 : Int32))]) (lenOf pd_rm0_2 rfl) rfl (by show 2 * 0 + _ ≤ _; exact Nat.le_of_eq rfl) (hb hby at_427) (fun _ _ => ⟨rfl, (rfl : T115.heap = T115.heap), (by decide : 11 + 0 ≤ _), (by decide : 79 + 0 ≤ _)⟩)
    dsimp only [Pt.U, Pt.locs, Pt.cells, Pt.slots] at X118 l118 y118 z118 st118 hQ118
    subst l118 y118 z118
    obtain ⟨rfl, N118q, I118⟩ := hQ118
    have N118 := Fr.app N115 N118q
    have pre118 : Steps p.tables e below _ (T118.setTop (mkF m 430 #[.val (.int p1), .val (.int p2), .val (.int p3), .val (.int p4), .val (.int p5), .val (.long p6), .second, .val (.int mo), .val (.int ss), .val (.int gw), .val (.int ff), .val (.ref q), .val (.int (1 : Int32)), .val (.int (5 : Int32))] [(.int ff), (.int (1 : Int32))])) := pre117.trans (st118)
    have J118 : IQ Z n0 T118.heap q 0 (fun i => own_md [p1, p2, p3, p4, p5, ff] (i + 6)) := IQ.less I118
    have pre119 : Steps p.tables e below _ (T118.setTop (mkF m 441 #[.val (.int p1), .val (.int p2), .val (.int p3), .val (.int p4), .val (.int p5), .val (.long p6), .second, .val (.int mo), .val (.int ss), .val (.int gw), .val (.int ff), .val (.ref q), .val (.int (1 : Int32)), .val (.int (5 : Int32))] [(.int ((1 : Int32) &&& (1 : Int32)))])) := pre118.trans (by
      show Steps p.tables e below (T118.setTop (mkF m 430 #[.val (.int p1), .val (.int p2), .val (.int p3), .val (.int p4), .val (.int p5), .val (.long p6), .second, .val (.int mo), .val (.int ss), .val (.int gw), .val (.int ff), .val (.ref q), .val (.int (1 : Int32)), .val (.int (5 : Int32))] [(.int ff), (.int (1 : Int32))])) _
      refine XS.iload X118.here hx rfl (hb hby at_430) rfl ?_
      show Steps p.tables e below (T118.setTop (mkF m 432 #[.val (.int p1), .val (.int p2), .val (.int p3), .val (.int p4), .val (.int p5), .val (.long p6), .second, .val (.int mo), .val (.int ss), .val (.int gw), .val (.int ff), .val (.ref q), .val (.int (1 : Int32)), .val (.int (5 : Int32))] [(.int ff), (.int ff), (.int (1 : Int32))])) _
      refine XS.icmpNo X118.here hx rfl (hb hby at_432) rfl (teq (rfl : ff = ff)).2 ?_
      show Steps p.tables e below (T118.setTop (mkF m 435 #[.val (.int p1), .val (.int p2), .val (.int p3), .val (.int p4), .val (.int p5), .val (.long p6), .second, .val (.int mo), .val (.int ss), .val (.int gw), .val (.int ff), .val (.ref q), .val (.int (1 : Int32)), .val (.int (5 : Int32))] [(.int (1 : Int32))])) _
      refine XS.iconst X118.here hx rfl (hb hby at_435) ?_
      show Steps p.tables e below (T118.setTop (mkF m 436 #[.val (.int p1), .val (.int p2), .val (.int p3), .val (.int p4), .val (.int p5), .val (.long p6), .second, .val (.int mo), .val (.int ss), .val (.int gw), .val (.int ff), .val (.ref q), .val (.int (1 : Int32)), .val (.int (5 : Int32))] [(.int (1 : Int32)), (.int (1 : Int32))])) _
      refine XS.goto X118.here hx rfl (pc0 := 436) (pc' := 440) rfl (hb hby at_436) (by decide) (by decide) ?_
      show Steps p.tables e below (T118.setTop (mkF m 440 #[.val (.int p1), .val (.int p2), .val (.int p3), .val (.int p4), .val (.int p5), .val (.long p6), .second, .val (.int mo), .val (.int ss), .val (.int gw), .val (.int ff), .val (.ref q), .val (.int (1 : Int32)), .val (.int (5 : Int32))] [(.int (1 : Int32)), (.int (1 : Int32))])) _
      refine XS.iand X118.here hx rfl (hb hby at_440) rfl ?_
      exact Steps.refl _)
    rw [e111] at pre119
    have pre120 : Steps p.tables e below _ (T118.setTop (mkF m 447 #[.val (.int p1), .val (.int p2), .val (.int p3), .val (.int p4), .val (.int p5), .val (.long p6), .second, .val (.int mo), .val (.int ss), .val (.int gw), .val (.int ff), .val (.ref q), .val (.int (1 : Int32)), .val (.int (5 : Int32))] [(.ref q), (.int (1 : Int32))])) := pre119.trans (by
      show Steps p.tables e below (T118.setTop (mkF m 441 #[.val (.int p1), .val (.int p2), .val (.int p3), .val (.int p4), .val (.int p5), .val (.long p6), .second, .val (.int mo), .val (.int ss), .val (.int gw), .val (.int ff), .val (.ref q), .val (.int (1 : Int32)), .val (.int (5 : Int32))] [(.int (1 : Int32))])) _
      refine XS.istore X118.here hx rfl (hb hby at_441) rfl (l' := #[.val (.int p1), .val (.int p2), .val (.int p3), .val (.int p4), .val (.int p5), .val (.long p6), .second, .val (.int mo), .val (.int ss), .val (.int gw), .val (.int ff), .val (.ref q), .val (.int (1 : Int32)), .val (.int (5 : Int32))]) rfl ?_
      show Steps p.tables e below (T118.setTop (mkF m 443 #[.val (.int p1), .val (.int p2), .val (.int p3), .val (.int p4), .val (.int p5), .val (.long p6), .second, .val (.int mo), .val (.int ss), .val (.int gw), .val (.int ff), .val (.ref q), .val (.int (1 : Int32)), .val (.int (5 : Int32))] [])) _
      refine XS.iload X118.here hx rfl (hb hby at_443) rfl ?_
      show Steps p.tables e below (T118.setTop (mkF m 445 #[.val (.int p1), .val (.int p2), .val (.int p3), .val (.int p4), .val (.int p5), .val (.long p6), .second, .val (.int mo), .val (.int ss), .val (.int gw), .val (.int ff), .val (.ref q), .val (.int (1 : Int32)), .val (.int (5 : Int32))] [(.int (1 : Int32))])) _
      refine XS.aload X118.here hx rfl (hb hby at_445) rfl rfl ?_
      exact Steps.refl _)
    obtain ⟨cq121, kq121, q121a, q121b, q121c⟩ := isOf hZ (rfl : T118.heap = T118.heap) J118.exa
    obtain ⟨_, _, ⟨T121, L121, k121, n121⟩, -, X121, ⟨Lc121, hQ121, l121, y121, z121⟩, st121⟩ := X118.virtualBack hx (y := (⟨"com/example/trips_into_trajectories/tripsintotrajectories/simulation/IntQueue", "size", "()I"⟩ : MethodName)) (z := (⟨"com/example/trips_into_trajectories/tripsintotrajectories/simulation/IntQueue", "size", "()I"⟩ : MethodName)) hown (mvT hZ (hw _ (List.mem_of_getElem? (i := 13) rfl))) (mvT hZ (hw _ (List.mem_of_getElem? (i := 14) rfl))) (notFace_of_selects (args := #[]) (mvT hZ (hw _ (List.mem_of_getElem? (i := 16) rfl)))) (mvT hZ (hw _ (List.mem_of_getElem? (i := 16) rfl))) (mvT hZ (hw _ (List.mem_of_getElem? (i := 15) rfl))) (by decide) (backOf (W := 1) (rmS l Z a0 hw [] q 0 (fun i => own_md [p1, p2, p3, p4, p5, ff] (i + 6)) T118.heap n0 J118.le J118) hZ (hw _ (List.mem_of_getElem? (i := 17) rfl)) (hw _ (List.mem_of_getElem? (i := 3) rfl)) (by decide) (by decide)) q121a q121c (g := (mkF m 447 #[.val (.int p1), .val (.int p2), .val (.int p3), .val (.int p4), .val (.int p5), .val (.long p6), .second, .val (.int mo), .val (.int ss), .val (.int gw), .val (.int ff), .val (.ref q), .val (.int (1 : Int32)), .val (.int (5 : Int32))] [(.ref q), (.int (1 : Int32))])) rfl (by rw [hml]; rfl) (Steps.refl _) (argsL := []) (rest := [(.int (1 : Int32))]) (lenOf pd_rm0_2 rfl) rfl (by show 2 * 0 + _ ≤ _; exact Nat.le_of_eq rfl) (hb hby at_447) (fun _ _ => ⟨rfl, (rfl : T118.heap = T118.heap), (by decide : 11 + 0 ≤ _), (by decide : 79 + 0 ≤ _)⟩)
    dsimp only [Pt.U, Pt.locs, Pt.cells, Pt.slots] at X121 l121 y121 z121 st121 hQ121
    subst l121 y121 z121
    obtain ⟨rfl, N121q, hh121⟩ := hQ121
    have N121 := Fr.app N118 N121q
    have pre121 : Steps p.tables e below _ (T121.setTop (mkF m 450 #[.val (.int p1), .val (.int p2), .val (.int p3), .val (.int p4), .val (.int p5), .val (.long p6), .second, .val (.int mo), .val (.int ss), .val (.int gw), .val (.int ff), .val (.ref q), .val (.int (1 : Int32)), .val (.int (5 : Int32))] [(.int (Int32.ofNat 0)), (.int (1 : Int32))])) := pre120.trans (st121)
    have J121 : IQ Z n0 T121.heap q 0 (fun i => own_md [p1, p2, p3, p4, p5, ff] (i + 6)) := by rw [hh121]; exact J118
    have pre122 : Steps p.tables e below _ (T121.setTop (mkF m 459 #[.val (.int p1), .val (.int p2), .val (.int p3), .val (.int p4), .val (.int p5), .val (.long p6), .second, .val (.int mo), .val (.int ss), .val (.int gw), .val (.int ff), .val (.ref q), .val (.int (1 : Int32)), .val (.int (5 : Int32))] [(.int ((1 : Int32) &&& (1 : Int32)))])) := pre121.trans (by
      show Steps p.tables e below (T121.setTop (mkF m 450 #[.val (.int p1), .val (.int p2), .val (.int p3), .val (.int p4), .val (.int p5), .val (.long p6), .second, .val (.int mo), .val (.int ss), .val (.int gw), .val (.int ff), .val (.ref q), .val (.int (1 : Int32)), .val (.int (5 : Int32))] [(.int (Int32.ofNat 0)), (.int (1 : Int32))])) _
      refine XS.ifNo X121.here hx rfl (hb hby at_450) rfl ((if0 _ _).trans (teq (by decide : Int32.ofNat 0 = (0 : Int32))).2) ?_
      show Steps p.tables e below (T121.setTop (mkF m 453 #[.val (.int p1), .val (.int p2), .val (.int p3), .val (.int p4), .val (.int p5), .val (.long p6), .second, .val (.int mo), .val (.int ss), .val (.int gw), .val (.int ff), .val (.ref q), .val (.int (1 : Int32)), .val (.int (5 : Int32))] [(.int (1 : Int32))])) _
      refine XS.iconst X121.here hx rfl (hb hby at_453) ?_
      show Steps p.tables e below (T121.setTop (mkF m 454 #[.val (.int p1), .val (.int p2), .val (.int p3), .val (.int p4), .val (.int p5), .val (.long p6), .second, .val (.int mo), .val (.int ss), .val (.int gw), .val (.int ff), .val (.ref q), .val (.int (1 : Int32)), .val (.int (5 : Int32))] [(.int (1 : Int32)), (.int (1 : Int32))])) _
      refine XS.goto X121.here hx rfl (pc0 := 454) (pc' := 458) rfl (hb hby at_454) (by decide) (by decide) ?_
      show Steps p.tables e below (T121.setTop (mkF m 458 #[.val (.int p1), .val (.int p2), .val (.int p3), .val (.int p4), .val (.int p5), .val (.long p6), .second, .val (.int mo), .val (.int ss), .val (.int gw), .val (.int ff), .val (.ref q), .val (.int (1 : Int32)), .val (.int (5 : Int32))] [(.int (1 : Int32)), (.int (1 : Int32))])) _
      refine XS.iand X121.here hx rfl (hb hby at_458) rfl ?_
      exact Steps.refl _)
    rw [e111] at pre122
    have pre123 : Steps p.tables e below _ (T121.setTop (mkF m 463 #[.val (.int p1), .val (.int p2), .val (.int p3), .val (.int p4), .val (.int p5), .val (.long p6), .second, .val (.int mo), .val (.int ss), .val (.int gw), .val (.int ff), .val (.ref q), .val (.int (1 : Int32)), .val (.int (5 : Int32))] [(.int (1 : Int32))])) := pre122.trans (by
      show Steps p.tables e below (T121.setTop (mkF m 459 #[.val (.int p1), .val (.int p2), .val (.int p3), .val (.int p4), .val (.int p5), .val (.long p6), .second, .val (.int mo), .val (.int ss), .val (.int gw), .val (.int ff), .val (.ref q), .val (.int (1 : Int32)), .val (.int (5 : Int32))] [(.int (1 : Int32))])) _
      refine XS.istore X121.here hx rfl (hb hby at_459) rfl (l' := #[.val (.int p1), .val (.int p2), .val (.int p3), .val (.int p4), .val (.int p5), .val (.long p6), .second, .val (.int mo), .val (.int ss), .val (.int gw), .val (.int ff), .val (.ref q), .val (.int (1 : Int32)), .val (.int (5 : Int32))]) rfl ?_
      show Steps p.tables e below (T121.setTop (mkF m 461 #[.val (.int p1), .val (.int p2), .val (.int p3), .val (.int p4), .val (.int p5), .val (.long p6), .second, .val (.int mo), .val (.int ss), .val (.int gw), .val (.int ff), .val (.ref q), .val (.int (1 : Int32)), .val (.int (5 : Int32))] [])) _
      refine XS.iload X121.here hx rfl (hb hby at_461) rfl ?_
      exact Steps.refl _)
    obtain ⟨fs, hr, hrun, hended, hW, hsame⟩ := X121.leave (v := some (.int (1 : Int32))) (fun h => by rw [Bd.returns] at h; cases h)
    refine ⟨_, _, pre123.trans ?_, hrun, hended, _, _, rfl, ?_, ⟨_, rfl⟩, hW, hsame.mono (by decide) (by decide)⟩
    · exact retN X121 hx (t := .boolean) Bd.returns (by simp) (hb hby at_463) hr
    · exact ⟨rfl, N121⟩
set_option maxRecDepth 65536 in
set_option maxHeartbeats 40000000 in
theorem comes_1 {Post : Tables → Env → Array Value → State → Outcome → State → Prop} (hpost : ∀ tb e args s v u, (limb_1_1.after args s (.returned v) u = true ∧ limb_1_2.after args s (.returned v) u = true ∧ True) → FrameEnd s (.returned v) u (Jvm.fieldLocs frame_1_writes args s ++ Jvm.arrayLocs frame_1_arrays args s ++ Jvm.staticLocs frame_1_statics s) 16 128 → Post tb e args s (.returned v) u) :
    ArmFor flags0 classFile x code maxLocals ret World_1 tables_1 room_1 Calls_1 rest_1 Pre_1 Post := by
  intro l hfl _ _ p e ha hc hk s m args below hf hA hF happ hP
  obtain ⟨hcalls, hrest, hpre⟩ := hP
  obtain ⟨-, -, -, hnamed, -, -, -, hat⟩ := (Spec.applies_iff hf).mp happ
  obtain ⟨hg, hn⟩ := and_e (Cond.before_iff.mp (show (Jvm.Cond.and given_1 narrow_1).before args s = true from hpre))
  obtain ⟨g0, r0⟩ := and_e hg
  obtain ⟨w0, w1, w2, w3, w4, w5, rfl⟩ : ∃ w0 w1 w2 w3 w4 w5 : Value, args = #[w0, w1, w2, w3, w4, w5] := by
    have hs : args.size = 6 := by simpa [Cond.value, given_1] using g0
    obtain ⟨L⟩ := args
    match L, hs with
    | [w0, w1, w2, w3, w4, w5], _ => exact ⟨w0, w1, w2, w3, w4, w5, rfl⟩
  have hw := fun d (hd : d ∈ tables_1) => atoms_spec (ws := Jvm.Cond.code x code maxLocals ret :: tables_1) hat d (List.mem_cons_of_mem _ hd)
  have hfit : Fit s := fun {y c} hc i hi => by
    obtain ⟨ha, rfl⟩ := Array.getElem?_eq_some_iff.mp hc
    have q := List.all_eq_true.mp ((Array.all_eq_true_iff_forall_mem.mp hF) _ (Array.getElem_mem ha)) i (List.mem_range.mpr hi)
    simpa [Array.getElem?_eq_getElem hi] using q
  obtain ⟨g1, r1⟩ := and_e r0
  obtain ⟨i0, ei0⟩ := is_v g1
  obtain rfl : w0 = (.int i0) := Option.some.inj ei0
  obtain ⟨g2, r2⟩ := and_e r1
  obtain ⟨i1, ei1⟩ := is_v g2
  obtain rfl : w1 = (.int i1) := Option.some.inj ei1
  obtain ⟨g3, r3⟩ := and_e r2
  obtain ⟨i2, ei2⟩ := is_v g3
  obtain rfl : w2 = (.int i2) := Option.some.inj ei2
  obtain ⟨g4, r4⟩ := and_e r3
  obtain ⟨i3, ei3⟩ := is_v g4
  obtain rfl : w3 = (.int i3) := Option.some.inj ei3
  obtain ⟨g5, r5⟩ := and_e r4
  obtain ⟨i4, ei4⟩ := is_v g5
  obtain rfl : w4 = (.int i4) := Option.some.inj ei4
  obtain ⟨i5, ei5⟩ := isL_v r5
  obtain rfl : w5 = (.long i5) := Option.some.inj ei5
  obtain ⟨n, o, h1, h2, h3, _, L, rfl, ⟨rfl, N⟩, hq⟩ := rm0 l s _ hw tables_1 i0 i1 i2 i3 i4 i5 s.heap s.heap.size (Nat.le_refl _)  p e ha hc hk s m _ below hf ((Spec.applies_iff_loose hf).mp happ).1 ⟨rfl, State.Warmed39.refl s, rfl⟩ trivial
  refine ⟨n, _, h1, h2, h3, hpost _ _ _ _ _ _ ⟨Cond.after_iff.mpr rfl, Cond.after_iff.mpr (eq_i res_at (Term.int_eval (1)) rfl), trivial⟩ ⟨hq.1, hq.2.1, (hq.2.2.sift fun y hy => Or.inr (N y hy)).mono (by decide) (by decide)⟩⟩
theorem main_1_1 : Claimed_1_1 := comes_1 fun _ _ _ _ _ _ h hF => ⟨h.1, hF⟩
theorem main_1_2 : Claimed_1_2 := comes_1 fun _ _ _ _ _ _ h hF => ⟨h.2.1, hF⟩
end Jvm.Pilot.@@N@@
namespace Jvm.Pilot.@@N@@
open Jvm Jvm.ClassFile Sem Op Lib Jvm.Free Jvm.Stand Jvm.Pilot.@@N@@.Jvm.D
/-! MADE BY PROGRAM (witnessworld.py) out of the Statement's table words and the real class files: 9 classes; the members and pool entries that the words name. The judged class is class 1, her method 1. -/
namespace start1
open Jvm.ClassFile
def u (s : String) : CpInfo := .utf8 (stringToUtf16 s)
/-- a pool by its gaps: so many unusable entries, then the entry; so many at the end -/
def gap : Nat → List CpInfo → List CpInfo
  | 0, r => r
  | n + 1, r => .unusable :: gap n r
def poolList (es : List (Nat × CpInfo)) (last : Nat) : List CpInfo := es.foldr (fun e r => gap e.1 (e.2 :: r)) (gap last [])
def pool (es : List (Nat × CpInfo)) (last : Nat) : Array CpInfo := ⟨poolList es last⟩
def fileOf (pool : Array CpInfo) (this : Nat) (attrs : Array Attribute := #[]) (ms : Array MethodInfo := #[]) (fl : Nat := 33) (sup : Nat := 0) (ifs : Array Nat := #[]) (fds : Array FieldInfo := #[]) : ClassFile where
  minorVersion := 0
  majorVersion := 65
  constantPool := pool
  accessFlags := fl
  thisClass := this
  superClass := sup
  interfaces := ifs
  fields := fds
  methods := ms
  attributes := attrs
def plain (name : String) (sup : Option ClassId) : Class where
  name := name
  kind := .ordinary
  loader := none
  accessFlags := 33
  super := sup
  interfaces := #[]
  cf := none
  fields := #[]
  methods := #[]
  instanceTypes := #[]
  staticTypes := #[]
  resolved := #[]
  callSites := []
  init := .initialized
  statics := none
  mirror := none

def pool0 : Array CpInfo := pool [(5, u "<init>"), (0, u "()V"), (1, .class_ 10), (1, u "java/lang/Object")] 113

def k0c0 : Code := { maxStack := 0, maxLocals := 1, code := object_method_1_code, exceptionTable := #[], attributes := #[] }
def k0m0 : Method := { name := "<init>", desc := "()V", sig := { parameters := [], returnType := none }, accessFlags := 1, code := some k0c0 }
/-- java/lang/Object -/
def k0 : Class := { plain "java/lang/Object" none with
  accessFlags := 33
  interfaces := #[]
  cf := some (fileOf pool0 8 #[] #[{ accessFlags := 1, nameIndex := 5, descriptorIndex := 6, attributes := #[] }] 33 0 #[] #[])
  fields := #[]
  methods := #[k0m0]
  instanceTypes := #[]
  staticTypes := #[]
  resolved := Array.replicate 124 none
  statics := none }

def pool1 : Array CpInfo := pool [(2, .class_ 4), (0, .nameAndType 5 6), (0, u "java/lang/Object"), (0, u "<init>"), (0, u "()V"), (0, .long 7), (1, .class_ 10), (0, u "com/example/trips_into_trajectories/tripsintotrajectories/simulation/IntQueue"), (0, .methodref 9 3), (0, .methodref 9 13), (0, .nameAndType 14 15), (0, u "add"), (0, u "(I)V"), (0, .methodref 9 17), (0, .nameAndType 18 19), (0, u "poll"), (0, u "()I"), (0, .methodref 9 21), (0, .nameAndType 22 19), (0, u "size"), (0, .class_ 24), (0, u "com/example/trips_into_trajectories/tripsintotrajectories/simulation/IntQueuePollPinLaw"), (2, u "law"), (0, u "(IIIIIJ)Z")] 3

def k1m0 : Method := { name := "<init>", desc := "()V", sig := { parameters := [], returnType := none }, accessFlags := 1, code := none }
def k1c1 : Code := { maxStack := 4, maxLocals := 14, code := code, exceptionTable := #[], attributes := #[] }
def k1m1 : Method := { name := "law", desc := "(IIIIIJ)Z", sig := { parameters := [.int, .int, .int, .int, .int, .long], returnType := some .boolean }, accessFlags := 9, code := some k1c1 }
/-- com/example/trips_into_trajectories/tripsintotrajectories/simulation/IntQueuePollPinLaw -/
def k1 : Class := { plain "com/example/trips_into_trajectories/tripsintotrajectories/simulation/IntQueuePollPinLaw" (some 0) with
  accessFlags := 49
  interfaces := #[]
  cf := some (fileOf pool1 23 #[] #[{ accessFlags := 1, nameIndex := 5, descriptorIndex := 6, attributes := #[] }, { accessFlags := 9, nameIndex := 27, descriptorIndex := 28, attributes := #[] }] 49 2 #[] #[])
  fields := #[]
  methods := #[k1m0, k1m1]
  instanceTypes := #[]
  staticTypes := #[]
  resolved := Array.replicate 32 none
  statics := none }

def pool2 : Array CpInfo := pool [(1, .methodref 2 3), (0, .class_ 4), (0, .nameAndType 5 6), (0, u "java/lang/Object"), (0, u "<init>"), (0, u "()V"), (0, .fieldref 8 9), (0, .class_ 10), (0, .nameAndType 11 12), (0, u "com/example/trips_into_trajectories/tripsintotrajectories/simulation/IntQueue"), (0, u "items"), (0, u "[I"), (0, .fieldref 8 14), (0, .nameAndType 15 16), (0, u "size"), (0, u "I"), (0, .methodref 8 18), (0, .nameAndType 19 20), (0, u "get"), (0, u "(I)I"), (0, .fieldref 8 22), (0, .nameAndType 23 16), (0, u "head"), (2, u "add"), (0, u "(I)V"), (2, u "poll"), (0, u "()I")] 2

def k2c0 : Code := { maxStack := 2, maxLocals := 1, code := prog_47_method_1_code, exceptionTable := #[], attributes := #[] }
def k2m0 : Method := { name := "<init>", desc := "()V", sig := { parameters := [], returnType := none }, accessFlags := 0, code := some k2c0 }
def k2c1 : Code := { maxStack := 4, maxLocals := 4, code := prog_47_method_2_code, exceptionTable := #[], attributes := #[] }
def k2m1 : Method := { name := "add", desc := "(I)V", sig := { parameters := [.int], returnType := none }, accessFlags := 0, code := some k2c1 }
def k2c2 : Code := { maxStack := 3, maxLocals := 2, code := prog_47_method_3_code, exceptionTable := #[], attributes := #[] }
def k2m2 : Method := { name := "get", desc := "(I)I", sig := { parameters := [.int], returnType := some .int }, accessFlags := 0, code := some k2c2 }
def k2c3 : Code := { maxStack := 3, maxLocals := 2, code := prog_47_method_4_code, exceptionTable := #[], attributes := #[] }
def k2m3 : Method := { name := "poll", desc := "()I", sig := { parameters := [], returnType := some .int }, accessFlags := 0, code := some k2c3 }
def k2c4 : Code := { maxStack := 1, maxLocals := 1, code := prog_47_method_5_code, exceptionTable := #[], attributes := #[] }
def k2m4 : Method := { name := "size", desc := "()I", sig := { parameters := [], returnType := some .int }, accessFlags := 0, code := some k2c4 }
/-- com/example/trips_into_trajectories/tripsintotrajectories/simulation/IntQueue -/
def k2 : Class := { plain "com/example/trips_into_trajectories/tripsintotrajectories/simulation/IntQueue" (some 0) with
  accessFlags := 48
  interfaces := #[]
  cf := some (fileOf pool2 8 #[] #[{ accessFlags := 0, nameIndex := 5, descriptorIndex := 6, attributes := #[] }, { accessFlags := 0, nameIndex := 26, descriptorIndex := 27, attributes := #[] }, { accessFlags := 0, nameIndex := 19, descriptorIndex := 20, attributes := #[] }, { accessFlags := 0, nameIndex := 30, descriptorIndex := 31, attributes := #[] }, { accessFlags := 0, nameIndex := 15, descriptorIndex := 31, attributes := #[] }] 48 2 #[] #[{ accessFlags := 2, nameIndex := 11, descriptorIndex := 12, attributes := #[] }, { accessFlags := 2, nameIndex := 23, descriptorIndex := 16, attributes := #[] }, { accessFlags := 2, nameIndex := 15, descriptorIndex := 16, attributes := #[] }])
  fields := #[{ name := "items", type := (.array .int), accessFlags := 2, slot := 0, constantValue := 0 }, { name := "head", type := .int, accessFlags := 2, slot := 1, constantValue := 0 }, { name := "size", type := .int, accessFlags := 2, slot := 2, constantValue := 0 }]
  methods := #[k2m0, k2m1, k2m2, k2m3, k2m4]
  instanceTypes := #[(.array .int), .int, .int]
  staticTypes := #[]
  resolved := Array.replicate 34 none
  statics := none }

def pool3 : Array CpInfo := pool [(1, u "java/lang/Cloneable"), (0, .class_ 1), (0, u "java/lang/Object"), (0, .class_ 3)] 3

/-- java/lang/Cloneable -/
def k3 : Class := { plain "java/lang/Cloneable" (some 0) with
  accessFlags := 1537
  interfaces := #[]
  cf := some (fileOf pool3 2 #[] #[] 1537 4 #[] #[])
  fields := #[]
  methods := #[]
  instanceTypes := #[]
  staticTypes := #[]
  resolved := Array.replicate 8 none
  statics := none }

def pool4 : Array CpInfo := pool [(1, u "java/io/Serializable"), (0, .class_ 1), (0, u "java/lang/Object"), (0, .class_ 3)] 3

/-- java/io/Serializable -/
def k4 : Class := { plain "java/io/Serializable" (some 0) with
  accessFlags := 1537
  interfaces := #[]
  cf := some (fileOf pool4 2 #[] #[] 1537 4 #[] #[])
  fields := #[]
  methods := #[]
  instanceTypes := #[]
  staticTypes := #[]
  resolved := Array.replicate 8 none
  statics := none }

/-- the primitive byte -/
def k5 : Class := { plain "byte" none with kind := .primitive 'B', accessFlags := 0x411 }
/-- [B -/
def k6 : Class := { plain "[B" (some 0) with kind := .array 5 .byte, interfaces := #[3, 4], accessFlags := 1041 }

/-- the primitive int -/
def k7 : Class := { plain "int" none with kind := .primitive 'I', accessFlags := 0x411 }
/-- [I -/
def k8 : Class := { plain "[I" (some 0) with kind := .array 7 .int, interfaces := #[3, 4], accessFlags := 1041 }

def heap : Heap := #[]
def classes : Array Class := #[k0, k1, k2, k3, k4, k5, k6, k7, k8]
def interned : List (Array UInt16 × Addr) := []
def slotsUsed : Nat := 0
def theMethod : MethodId := ⟨1, 1⟩
def args0 : Array Value := #[.int 1, .int 2, .int 3, .int 4, .int 5, .long 13]
def aboutOver (below : List Frame) : State where
  vm := { classes := classes, interned := interned.toArray }
  heap := heap
  slotsUsed := slotsUsed
  threads := #[{ frames := .invoking theMethod args0 :: below }]
def below0 : List Frame := [.native { method := ⟨0, 0⟩, args := #[] }]
def about1 : State := aboutOver below0
def p0 : Program := .bare "" "" ""
def e0 : Env := launch0.env 0 0 0
theorem w_frames : about1.frames = Frame.invoking theMethod args0 :: below0 := rfl
set_option maxRecDepth 65536 in
theorem w_args : argsFit about1.vm theMethod args0 = true := by decide +kernel
set_option maxRecDepth 65536 in
theorem w_heap : heapFits about1 = true := by decide +kernel
set_option maxRecDepth 65536 in
theorem w_runnable : about1.curStatus? = some .runnable := by decide +kernel
set_option maxRecDepth 65536 in
theorem w_alone : about1.alone = true := by decide +kernel
set_option maxRecDepth 65536 in
theorem w_named : about1.methodNamed? x = some theMethod := by decide +kernel
set_option maxRecDepth 65536 in
theorem w_hears : about1.hears theMethod below0 = true := by decide +kernel
set_option maxRecDepth 65536 in
theorem w_ripe : about1.ripe theMethod args0 below0 = true := by decide +kernel
theorem w_running : about1.status = .running := rfl
set_option maxRecDepth 65536 in
theorem w_room : about1.hasRoom e0.platform room_1 = true :=
  launch0.hasRoom_least _ room_1 (by decide +kernel) (by decide +kernel) (by decide +kernel) (by decide +kernel) (by decide +kernel) (by decide +kernel)
theorem allAtoms_all (ts : List Jvm.Cond) (a : Array Jvm.Value) (st : Jvm.State) : (allAtoms ts).before a st = ts.all (fun c => c.before a st) := by
  induction ts with
  | nil => rfl
  | cons c t ih =>
    show (Jvm.Cond.and c (allAtoms t)).before a st = _
    rw [Jvm.Cond.before_and, ih, List.all_cons]
def words1 : List Jvm.Cond := Jvm.Cond.code x code maxLocals ret :: tables_1
/-- a 'code' word, met by the world's own term for the bytes: nothing is compared byte by byte -/
theorem code_word {y : MethodName} {bytes : ByteArray} {mx : Nat} {rt : Option FieldType} {a : Array Value} {s : State} {m : MethodId} {meth : Method} {c : Code} (h1 : s.methodNamed? y = some m) (h2 : s.vm.method? m = some meth) (h3 : meth.code = some c) (h4 : c.code = bytes)
    (h5 : (c.maxLocals == mx && c.exceptionTable.isEmpty && decide (c.maxStack ≤ mostOperands) && decide (meth.sig.returnType = rt) && !meth.locks && decide (parseMethodDescriptor y.desc = some meth.sig)) = true) : (Jvm.Cond.code y bytes mx rt).before a s = true := by
  simp only [Bool.and_eq_true, beq_iff_eq, Bool.not_eq_true', decide_eq_true_eq] at h5
  obtain ⟨⟨⟨⟨⟨g1, g2⟩, g3⟩, g4⟩, g5⟩, g6⟩ := h5
  simp [Cond.before, Cond.holds, Cond.value, h1, h2, h3, h4, g1, g2, g3, g4, g5, g6]
def isCode : Jvm.Cond → Bool
  | .code _ _ _ _ => true
  | _ => false
theorem all_split {L : List Jvm.Cond} {P : Jvm.Cond → Bool} (h1 : L.all (fun c => isCode c || P c) = true) (h2 : ∀ c ∈ L.filter isCode, P c = true) : L.all P = true := by
  refine List.all_eq_true.mpr fun c hc => ?_
  have h := List.all_eq_true.mp h1 c hc
  rcases Bool.eq_false_or_eq_true (isCode c) with hi | hi
  · exact h2 c (List.mem_filter.mpr ⟨hc, hi⟩)
  · simpa [hi] using h
set_option maxRecDepth 65536 in
theorem w_c0 : (Jvm.Cond.code x code maxLocals ret).before args0 about1 = true := code_word (m := ⟨1, 1⟩) (meth := k1m1) (c := k1c1) (by decide +kernel) rfl rfl rfl (by decide +kernel)
set_option maxRecDepth 65536 in
theorem w_c1 : (Jvm.Cond.code ({ cls := "com/example/trips_into_trajectories/tripsintotrajectories/simulation/IntQueue", name := "<init>", desc := "()V" } : Jvm.MethodName) prog_47_method_1_code (1 : Nat) (Option.none : Option Jvm.ClassFile.FieldType)).before args0 about1 = true := code_word (m := ⟨2, 0⟩) (meth := k2m0) (c := k2c0) (by decide +kernel) rfl rfl rfl (by decide +kernel)
set_option maxRecDepth 65536 in
theorem w_c2 : (Jvm.Cond.code ({ cls := "java/lang/Object", name := "<init>", desc := "()V" } : Jvm.MethodName) object_method_1_code (1 : Nat) (Option.none : Option Jvm.ClassFile.FieldType)).before args0 about1 = true := code_word (m := ⟨0, 0⟩) (meth := k0m0) (c := k0c0) (by decide +kernel) rfl rfl rfl (by decide +kernel)
set_option maxRecDepth 65536 in
theorem w_c3 : (Jvm.Cond.code ({ cls := "com/example/trips_into_trajectories/tripsintotrajectories/simulation/IntQueue", name := "size", desc := "()I" } : Jvm.MethodName) prog_47_method_5_code (1 : Nat) (Option.some Jvm.ClassFile.FieldType.int)).before args0 about1 = true := code_word (m := ⟨2, 4⟩) (meth := k2m4) (c := k2c4) (by decide +kernel) rfl rfl rfl (by decide +kernel)
set_option maxRecDepth 65536 in
theorem w_c4 : (Jvm.Cond.code ({ cls := "com/example/trips_into_trajectories/tripsintotrajectories/simulation/IntQueue", name := "add", desc := "(I)V" } : Jvm.MethodName) prog_47_method_2_code (4 : Nat) (Option.none : Option Jvm.ClassFile.FieldType)).before args0 about1 = true := code_word (m := ⟨2, 1⟩) (meth := k2m1) (c := k2c1) (by decide +kernel) rfl rfl rfl (by decide +kernel)
set_option maxRecDepth 65536 in
theorem w_c5 : (Jvm.Cond.code ({ cls := "com/example/trips_into_trajectories/tripsintotrajectories/simulation/IntQueue", name := "poll", desc := "()I" } : Jvm.MethodName) prog_47_method_4_code (2 : Nat) (Option.some Jvm.ClassFile.FieldType.int)).before args0 about1 = true := code_word (m := ⟨2, 3⟩) (meth := k2m3) (c := k2c3) (by decide +kernel) rfl rfl rfl (by decide +kernel)
set_option maxRecDepth 65536 in
theorem w_c6 : (Jvm.Cond.code ({ cls := "com/example/trips_into_trajectories/tripsintotrajectories/simulation/IntQueue", name := "get", desc := "(I)I" } : Jvm.MethodName) prog_47_method_3_code (2 : Nat) (Option.some Jvm.ClassFile.FieldType.int)).before args0 about1 = true := code_word (m := ⟨2, 2⟩) (meth := k2m2) (c := k2c2) (by decide +kernel) rfl rfl rfl (by decide +kernel)
def codes1 : List Jvm.Cond := [Jvm.Cond.code x code maxLocals ret, Jvm.Cond.code ({ cls := "com/example/trips_into_trajectories/tripsintotrajectories/simulation/IntQueue", name := "<init>", desc := "()V" } : Jvm.MethodName) prog_47_method_1_code (1 : Nat) (Option.none : Option Jvm.ClassFile.FieldType), Jvm.Cond.code ({ cls := "java/lang/Object", name := "<init>", desc := "()V" } : Jvm.MethodName) object_method_1_code (1 : Nat) (Option.none : Option Jvm.ClassFile.FieldType), Jvm.Cond.code ({ cls := "com/example/trips_into_trajectories/tripsintotrajectories/simulation/IntQueue", name := "size", desc := "()I" } : Jvm.MethodName) prog_47_method_5_code (1 : Nat) (Option.some Jvm.ClassFile.FieldType.int), Jvm.Cond.code ({ cls := "com/example/trips_into_trajectories/tripsintotrajectories/simulation/IntQueue", name := "add", desc := "(I)V" } : Jvm.MethodName) prog_47_method_2_code (4 : Nat) (Option.none : Option Jvm.ClassFile.FieldType), Jvm.Cond.code ({ cls := "com/example/trips_into_trajectories/tripsintotrajectories/simulation/IntQueue", name := "poll", desc := "()I" } : Jvm.MethodName) prog_47_method_4_code (2 : Nat) (Option.some Jvm.ClassFile.FieldType.int), Jvm.Cond.code ({ cls := "com/example/trips_into_trajectories/tripsintotrajectories/simulation/IntQueue", name := "get", desc := "(I)I" } : Jvm.MethodName) prog_47_method_3_code (2 : Nat) (Option.some Jvm.ClassFile.FieldType.int)]
set_option maxRecDepth 65536 in
theorem codes_eq : words1.filter isCode = codes1 := rfl
theorem w_codes : ∀ c ∈ words1.filter isCode, c.before args0 about1 = true := by
  rw [codes_eq]
  intro c hc
  simp only [codes1, List.mem_cons, List.not_mem_nil, or_false] at hc
  rcases hc with rfl | rfl | rfl | rfl | rfl | rfl | rfl
  · exact w_c0
  · exact w_c1
  · exact w_c2
  · exact w_c3
  · exact w_c4
  · exact w_c5
  · exact w_c6
set_option maxRecDepth 65536 in
theorem w_t1 : (words1.take 24).all (fun c => isCode c || c.before args0 about1) = true := by decide +kernel
set_option maxRecDepth 65536 in
theorem w_t2 : (words1.drop 24).all (fun c => isCode c || c.before args0 about1) = true := by decide +kernel
theorem w_tables : (allAtoms (Jvm.Cond.code x code maxLocals ret :: tables_1)).before args0 about1 = true := by
  rw [allAtoms_all]
  show words1.all (fun c => c.before args0 about1) = true
  refine all_split ?_ w_codes
  rw [← List.take_append_drop 24 words1, List.all_append, w_t1, w_t2]
  rfl
set_option maxRecDepth 65536 in
theorem w_case : (Jvm.Cond.and given_1 narrow_1).before args0 about1 = true := by decide +kernel
theorem w_applies : (headSpec (Jvm.Cond.code x code maxLocals ret :: tables_1) room_1).applies x e0.platform about1 = true :=
  (Spec.applies_iff w_frames).mpr ⟨w_running, w_runnable, w_alone, w_named, w_hears, w_ripe, w_room, w_tables⟩
theorem atStart : AtStart classFile x code maxLocals ret World_1 tables_1 room_1 Calls_1 rest_1 Pre_1 launch0 p0 e0 about1 theMethod args0 below0 :=
  ⟨lists_1, trivial, launch0.admits_env _ _ _, launch0.least_env, fairChoices_fair.cas, fairChoices_fair.clock, w_frames, w_args, w_heap, w_applies, trivial, trivial, w_case⟩
end start1
theorem witness_1 : WitnessClaimed_1 := ⟨start1.p0, start1.e0, start1.about1, start1.theMethod, start1.args0, start1.below0, start1.atStart⟩
end Jvm.Pilot.@@N@@
