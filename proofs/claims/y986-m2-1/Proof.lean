import JvmDerived
import JvmDerived.Pilot.@@N@@Statement
import JvmDerived.Pilot.@@N@@Code
set_option linter.unusedVariables false
set_option linter.unusedSimpArgs false
namespace Jvm.RoadKit
open Sem ClassFile Op Lib Jvm.Stand Jvm.Free Jvm.LawKit
section New
variable {p : Program} {l : Launch} {e : Env} {R : Room} {s : State} {m : MethodId} {args : Array Value} {below : List Frame} {meth : Method} {c : Code} {T : State} {locs : List Loc} {cells slots : Nat}
theorem retI (X : Stand p l e R s m args below meth c T locs cells slots) (hx : p.tables.exec = Jvm.exec) {pc : Nat} {Ls : Array Slot} {z : Int32} {rest : List Value} (hret : meth.sig.returnType = some .int) (hd : decode c.code pc = .ok (.ireturn, 1)) {fs : List Frame}
    (hl : ∀ (f : JFrame) (acts : List Action), f.method = m → f.locked = none → f.entered = [] → (doReturn e (T.setTop f) acts (some (.int z))).1 = T.setFrames fs) : Steps p.tables e below (T.setTop (mkF m pc Ls (.int z :: rest))) (T.setFrames fs) := by
  have hm' : T.vm.method? m = some meth := X.method'
  have hn : narrow .int (.int z) = .int z := rfl
  show Steps p.tables e below (T.setTop { method := m, pc := pc, locals := Ls, stack := _ :: rest, locked := none }) _
  jvm_step X.here [X.here.top, hx, hd, hm', hret, hn]
  first | (intro acts; rw [hl _ acts rfl rfl rfl]) | rw [hl _ _ rfl rfl rfl]
  exact Steps.refl _
end New
end Jvm.RoadKit
namespace Jvm.Pilot.@@N@@
open Jvm Jvm.ClassFile Sem Op Lib Jvm.Free Jvm.Stand Jvm.LawKit Jvm.RoadKit Bundle Jvm.Pilot.@@N@@.Jvm.D
def Far (Z : State) (h : Heap) (a : Addr) (ty : FieldType) (n : Int32) (f : Nat → Int32) : Prop := ∃ c : Cell, Arr Z h a c ty ∧ c.slots.size = n.toNatClampNeg ∧ ¬ n < 0 ∧ ∀ k, k < c.slots.size → c.slots[k]? = some (.int (f k))
section FarLaws
variable {Z : State} {h h' : Heap} {a b : Addr} {ty : FieldType} {n : Int32} {f g : Nat → Int32} {sl : Nat} {v : Value} {ws : List Addr}
theorem Far.lt (F : Far Z h a ty n f) : a < h.size := by obtain ⟨c, A, -⟩ := F; exact A.lt
theorem Far.ext (F : Far Z h a ty n f) (E : Ext h h') : Far Z h' a ty n f := by obtain ⟨c, A, r⟩ := F; exact ⟨c, A.ext E, r⟩
theorem Far.other (F : Far Z h b ty n f) (W : Wr h h' a sl v) (q : b ≠ a) : Far Z h' b ty n f := by obtain ⟨c, A, r⟩ := F; exact ⟨c, A.other W q, r⟩
theorem Far.keep (F : Far Z h a ty n f) (K : Keep h h' ws) (q : a ∉ ws) : Far Z h' a ty n f := by obtain ⟨c, A, r⟩ := F; exact ⟨c, ⟨K.2.1 a c A.1 q, A.2⟩, r⟩
theorem Far.new {k : ClassId} (A : Arr Z h a (newA k ty n) ty) (q : ¬ n < 0) (hd : defaultValue ty = .int 0) : Far Z h a ty n (fun _ => 0) := ⟨_, A, sz_new _ _ _, q, fun i hi => by
  rw [sz_new] at hi
  simp [newA, hi, hd]⟩
theorem Far.congr (F : Far Z h a ty n f) (q : ∀ k, k < n.toNatClampNeg → f k = g k) : Far Z h a ty n g := by
  obtain ⟨c, A, S, M, H⟩ := F
  exact ⟨c, A, S, M, fun k hk => by rw [← q k (S ▸ hk)]; exact H k hk⟩
theorem Far.set {c : Cell} {j x : Int32} (A : Arr Z h a c ty) (S : c.slots.size = n.toNatClampNeg) (M : ¬ n < 0) (H : ∀ k, k < c.slots.size → c.slots[k]? = some (.int (f k))) (W : Wr h h' a j.toNatClampNeg (.int x)) : Far Z h' a ty n (fun k => if k = j.toNatClampNeg then x else f k) := by
  refine ⟨c.setSlot j.toNatClampNeg (.int x), A.same W, by rw [sz_set]; exact S, M, fun k hk => ?_⟩
  rw [sz_set] at hk
  show _ = some (Value.int (if k = j.toNatClampNeg then x else f k))
  by_cases e : k = j.toNatClampNeg
  · rw [if_pos e]; subst e; exact Cell.slots_setSlot_self _ hk
  · rw [if_neg e, Cell.slots_setSlot_ne _ (Ne.symm e)]; exact H k hk
theorem own_at {c : Cell} {j : Int32} (H : ∀ k, k < c.slots.size → c.slots[k]? = some (.int (f k))) (hin : ¬ (j < 0 ∨ c.slots.size ≤ j.toNatClampNeg)) : c.slots[j.toNatClampNeg]? = some (.int (f j.toNatClampNeg)) := H _ (Nat.lt_of_not_le fun q => hin (Or.inr q))
end FarLaws
theorem own_lt (a b : Int32) : a < b ↔ a.toInt < b.toInt := Int32.lt_iff_toInt_lt
theorem own_irr (n : Int32) : ¬ n < n := by rw [own_lt]; omega
theorem own_nat (j : Int32) (h : 0 ≤ j.toInt) : (j.toNatClampNeg : Int) = j.toInt := Int.toNat_of_nonneg h
def own_l (c : Int32) : Int32 := c.toInt8.toInt32
def own_h (c : Int32) : Int32 := (c >>> ((8 : Int32) &&& 31)).toInt8.toInt32
theorem own_nb (c : Int32) : nar .byte (own_l c) = own_l c := by show (own_l c).toInt8.toInt32 = own_l c; simp [own_l]
theorem own_nbh (c : Int32) : nar .byte (own_h c) = own_h c := by show (own_h c).toInt8.toInt32 = own_h c; simp [own_h]
theorem own_sh0 (c : Int32) : c >>> ((0 : Int32) &&& 31) = c := by
  have q : (c >>> ((0 : Int32) &&& 31)).toInt = c.toInt / 1 := c_ishr c 0 0 (by decide)
  exact Int32.toInt_inj.mp (by omega)
theorem own_shl0 (c : Int32) : c <<< ((0 : Int32) &&& 31) = c := by
  have q : ((c <<< ((0 : Int32) &&& 31)).toInt - c.toInt * 1) % 4294967296 = 0 := c_ishl c 0 0 (by decide)
  have := rng32 (c <<< ((0 : Int32) &&& 31)); have := rng32 c
  exact Int32.toInt_inj.mp (by omega)
theorem own_gc (c : Int32) (h0 : 0 ≤ c.toInt) (h1 : c.toInt < 65536) : (((own_l c &&& (255 : Int32)) <<< ((0 : Int32) &&& 31)) ||| ((own_h c &&& (255 : Int32)) <<< ((8 : Int32) &&& 31))) = c := by
  rw [own_shl0]
  have a1 : (own_l c &&& (255 : Int32)).toInt = (own_l c).toInt % 256 := c_mask (own_l c) 255 8 (by decide) (by decide)
  have a2 : (own_h c &&& (255 : Int32)).toInt = (own_h c).toInt % 256 := c_mask (own_h c) 255 8 (by decide) (by decide)
  have b1 := c_i2b c
  have b2 := c_i2b (c >>> ((8 : Int32) &&& 31))
  have b3 : (c >>> ((8 : Int32) &&& 31)).toInt = c.toInt / 256 := c_ishr c 8 8 (by decide)
  have c1 : (own_l c).toInt = c.toInt8.toInt32.toInt := rfl
  have c2 : (own_h c).toInt = (c >>> ((8 : Int32) &&& 31)).toInt8.toInt32.toInt := rfl
  have d1 : (((own_h c &&& (255 : Int32)) <<< ((8 : Int32) &&& 31)).toInt - (own_h c &&& (255 : Int32)).toInt * 256) % 4294967296 = 0 := c_ishl (own_h c &&& (255 : Int32)) 8 8 (by decide)
  have r1 := rng32 ((own_h c &&& (255 : Int32)) <<< ((8 : Int32) &&& 31))
  have d2 : ((own_h c &&& (255 : Int32)) <<< ((8 : Int32) &&& 31)).toInt = (c.toInt / 256) * 256 := by omega
  have e1 := c_or' (own_l c &&& (255 : Int32)) ((own_h c &&& (255 : Int32)) <<< ((8 : Int32) &&& 31)) 8 (by decide) 256 (by decide) (by omega) (by omega) (by omega)
  have r2 := rng32 ((own_l c &&& (255 : Int32)) ||| ((own_h c &&& (255 : Int32)) <<< ((8 : Int32) &&& 31)))
  exact Int32.toInt_inj.mp (by omega)
theorem own_i2c (c : Int32) (h0 : 0 ≤ c.toInt) (h1 : c.toInt < 65536) : c.toUInt32.toUInt16.toUInt32.toInt32 = c := by
  have q := c_i2c c
  exact Int32.toInt_inj.mp (by omega)
theorem Far.nostat {Z : State} {h : Heap} {a : Addr} {ty : FieldType} {n : Int32} {f : Nat → Int32} (F : Far Z h a ty n f) : ∀ cell : Cell, h[a]? = some cell → cell.vm.isStatics = false := by
  obtain ⟨c, A, -⟩ := F
  exact Arr.nostat A
theorem Sta.keepN {Z : State} {h h' : Heap} {C n d : String} {v : Value} {ws : List Addr} (F : Sta Z h C n d v) (K : Keep h h' ws) (hf : ∀ x ∈ ws, ∀ cell : Cell, h[x]? = some cell → cell.vm.isStatics = false) : Sta Z h' C n d v := by
  obtain ⟨cf, i, k, f, st, cell, h1, h2, h3, h4, h5, h6, h7⟩ := F
  exact ⟨cf, i, k, f, st, cell, h1, h2, h3, h4, K.2.1 st cell h5 (fun q => by rw [hf st q cell h5] at h6; cases h6), h6, h7⟩
theorem own_one {h : Heap} {a : Addr} (q : ∀ cell : Cell, h[a]? = some cell → cell.vm.isStatics = false) : ∀ x ∈ [a], ∀ cell : Cell, h[x]? = some cell → cell.vm.isStatics = false := fun x hx => by rw [List.mem_singleton.mp hx]; exact q
def own_dbl (i : Int32) : Int32 := i <<< ((1 : Int32) &&& 31)
theorem own_dbl_i (i : Int32) (h0 : 0 ≤ i.toInt) (h1 : i.toInt ≤ 1000) : (own_dbl i).toInt = 2 * i.toInt := by
  have q : ((own_dbl i).toInt - i.toInt * 2) % 4294967296 = 0 := c_ishl i 1 1 (by decide)
  have := rng32 (own_dbl i)
  omega
theorem own_inc (i : Int32) (h0 : 0 ≤ i.toInt) (h1 : i.toInt ≤ 2001) : (i + (1 : Int32)).toInt = i.toInt + 1 := by
  have q := c_iadd i 1
  simp only [Int32.reduceToInt] at q
  have := rng32 (i + 1)
  omega
theorem own_in2 (i n : Int32) (h0 : 0 ≤ i.toInt) (h1 : i.toInt < n.toInt) (h2 : n.toInt ≤ 4) : (¬ own_dbl i < 0 ∧ own_dbl i < own_dbl n) ∧ (¬ (own_dbl i + (1 : Int32)) < 0 ∧ (own_dbl i + (1 : Int32)) < own_dbl n) ∧ (own_dbl i).toNatClampNeg = 2 * i.toNatClampNeg ∧ (own_dbl i + (1 : Int32)).toNatClampNeg = 2 * i.toNatClampNeg + 1 := by
  have a := own_dbl_i i h0 (by omega)
  have b := own_dbl_i n (by omega) (by omega)
  have c := own_inc (own_dbl i) (by omega) (by omega)
  have e : (0 : Int32).toInt = 0 := rfl
  have w1 := own_nat i h0
  have w2 := own_nat (own_dbl i) (by omega)
  have w3 := own_nat (own_dbl i + (1 : Int32)) (by omega)
  exact ⟨⟨by rw [own_lt]; omega, by rw [own_lt]; omega⟩, ⟨by rw [own_lt]; omega, by rw [own_lt]; omega⟩, by omega, by omega⟩
def Str (Z : State) (h : Heap) (a : Addr) (n : Int32) (f : Nat → Int32) : Prop := Exa Z h a "java/lang/String" ∧ ∃ (b : Addr) (cd m2 : Int32) (g : Nat → Int32), Fld Z h a "java/lang/String" "value" "[B" (.ref b) ∧ Fld Z h a "java/lang/String" "coder" "B" (.int cd) ∧ Far Z h b .byte m2 g ∧ ((cd = 0 ∧ m2 = n ∧ ∀ k : Nat, (k : Int) < n.toInt → g k = own_l (f k) ∧ ¬ (255 : Int32) < f k) ∨ (cd = 1 ∧ m2 = own_dbl n ∧ ∀ k : Nat, (k : Int) < n.toInt → g (2 * k) = own_l (f k) ∧ g (2 * k + 1) = own_h (f k)))
theorem own_small (n : Int32) (h0 : 0 ≤ n.toInt) (h4 : n.toInt ≤ 4) : n = 0 ∨ n = 1 ∨ n = 2 ∨ n = 3 ∨ n = 4 := by
  have q : n.toInt = 0 ∨ n.toInt = 1 ∨ n.toInt = 2 ∨ n.toInt = 3 ∨ n.toInt = 4 := by omega
  rcases q with q | q | q | q | q
  · exact Or.inl (Int32.toInt_inj.mp (q.trans (by decide)))
  · exact Or.inr (Or.inl (Int32.toInt_inj.mp (q.trans (by decide))))
  · exact Or.inr (Or.inr (Or.inl (Int32.toInt_inj.mp (q.trans (by decide)))))
  · exact Or.inr (Or.inr (Or.inr (Or.inl (Int32.toInt_inj.mp (q.trans (by decide))))))
  · exact Or.inr (Or.inr (Or.inr (Or.inr (Int32.toInt_inj.mp (q.trans (by decide))))))
theorem own_cd0 (n : Int32) (h1 : 1 ≤ n.toInt) (h4 : n.toInt ≤ 4) : (((n - n).toUInt32 >>> ((31 : Int32) &&& 31).toUInt32).toInt32).toInt8.toInt32 = 0 := by
  rcases own_small n (by omega) h4 with rfl | rfl | rfl | rfl | rfl <;> decide
theorem own_cd1 (n : Int32) (h1 : 1 ≤ n.toInt) (h4 : n.toInt ≤ 4) : (((n - own_dbl n).toUInt32 >>> ((31 : Int32) &&& 31).toUInt32).toInt32).toInt8.toInt32 = 1 := by
  rcases own_small n (by omega) h4 with rfl | rfl | rfl | rfl | rfl
  · exact absurd h1 (by decide)
  all_goals decide
theorem own_len0 (n : Int32) : n >>> ((0 : Int32) &&& 31) = n := own_sh0 n
theorem own_len1 (n : Int32) (h1 : 0 ≤ n.toInt) (h4 : n.toInt ≤ 4) : own_dbl n >>> ((1 : Int32) &&& 31) = n := by
  rcases own_small n h1 h4 with rfl | rfl | rfl | rfl | rfl <;> decide
theorem own_la (c : Int32) (h0 : 0 ≤ c.toInt) (h1 : ¬ (255 : Int32) < c) : ((own_l c &&& (255 : Int32)).toUInt32.toUInt16.toUInt32.toInt32) = c := by
  rw [own_lt] at h1
  have e : (255 : Int32).toInt = 255 := rfl
  have a1 : (own_l c &&& (255 : Int32)).toInt = (own_l c).toInt % 256 := c_mask (own_l c) 255 8 (by decide) (by decide)
  have b1 := c_i2b c
  have c1 : (own_l c).toInt = c.toInt8.toInt32.toInt := rfl
  have q := c_i2c (own_l c &&& (255 : Int32))
  exact Int32.toInt_inj.mp (by omega)
theorem ne_value_coder {Z : State} {a0 : Array Value} (hw : ∀ d ∈ tables_1, d.before a0 Z = true) : Jvm.RoadKit.slotOf Z "java/lang/String" "value" "[B" ≠ Jvm.RoadKit.slotOf Z "java/lang/String" "coder" "B" := slot_ne (Or.inr (hw _ (List.mem_of_getElem? (i := 21) rfl))) (Or.inr (hw _ (List.mem_of_getElem? (i := 22) rfl))) (by decide) (t := (.array .byte)) (t' := .byte) (by decide) (by decide)
theorem ne_coder_value {Z : State} {a0 : Array Value} (hw : ∀ d ∈ tables_1, d.before a0 Z = true) : Jvm.RoadKit.slotOf Z "java/lang/String" "coder" "B" ≠ Jvm.RoadKit.slotOf Z "java/lang/String" "value" "[B" := slot_ne (Or.inr (hw _ (List.mem_of_getElem? (i := 22) rfl))) (Or.inr (hw _ (List.mem_of_getElem? (i := 21) rfl))) (by decide) (t := .byte) (t' := (.array .byte)) (by decide) (by decide)
theorem own_EW {Z : State} {a0 : Array Value} (hw : ∀ d ∈ tables_1, d.before a0 Z = true) : EW Z a0 [("java/lang/String", (7 : Nat))] := EW.cons (hw _ (List.mem_of_getElem? (i := 19) rfl)) (by first | decide | simp) EW.nil
theorem own_backE {p : Program} {l : Launch} {e : Env} {R : Room} {s : State} {args : Array Value} {below : List Frame} {Z : State} {a0 : Array Value} {EL : List (String × Nat)} {h : Heap} {vm0 : Vm} {y : MethodName} {bytes : ByteArray} {maxL : Nat} {ret : Option FieldType} {rm : Room} {len W : Nat} {as' : Array Value} {Q : Option Value → Heap → List Loc → Prop}
    (hM : MetFree l y (head1 [Jvm.Cond.code y bytes maxL ret] rm) (fun a U => a = as' ∧ Z.Warmed39 U.vm ∧ U.heap = h ∧ CHv Z EL U.vm h) (fun _ _ _ _ _ => True) (fun _ U o U' => ∃ v L, o = .returned v ∧ Q v U'.heap L ∧ ReturnedEndW U o U' L rm.cells rm.slots))
    (hZ : Z.Warmed39 vm0) (wc : (Jvm.Cond.code y bytes maxL ret).before a0 Z = true) (wz : (Jvm.Cond.initialized y.cls).before a0 Z = true) (hf : rm.frames + 1 ≤ R.frames) (hl : W + (maxL + 11) + rm.locals ≤ R.locals) (hEL : EW Z a0 EL) (H : CHv Z EL vm0 h) :
    BackS l R p e below (s.setVm vm0) args y len W (fun A a => a = as' ∧ A.U.heap = h ∧ A.cells + rm.cells ≤ R.cells ∧ A.slots + rm.slots ≤ R.slots)
      (fun A _ v B => ∃ L, Q v B.U.heap L ∧ B.locs = A.locs ++ L ∧ B.cells = A.cells + rm.cells ∧ B.slots = A.slots + rm.slots) := by
  refine BackS.of_freeW (bytes := bytes) (maxL := maxL) (ret := ret) (E := fun _ _ o t L k n => k = rm.cells ∧ n = rm.slots ∧ ∃ v, o = .returned v ∧ Q v t.heap L) hM hf hl ?_ ?_ (fun _ _ _ _ _ _ _ _ _ => trivial) ?_ ?_
  · intro m meth c A a Y hp
    have hU : Z.Warmed39 A.U.vm := wtrans (s := s.setVm vm0) hZ Y.warmed
    exact ⟨by show (Jvm.Cond.and _ .tt).before a A.U = true; rw [Jvm.Cond.before_and, mv hU wc]; rfl, mv hU wc, mv hU wz, hp.2.2.1, hp.2.2.2⟩
  · intro m meth c A a g mk Y hp
    exact ⟨hp.1, wtrans (s := s.setVm vm0) hZ Y.warmed, hp.2.1, (CHv.at Y hZ hEL H).1⟩
  · rintro _ _ _ _ ⟨v, L, q1, q2, q3⟩
    exact ⟨L, _, _, q3, rfl, rfl, v, q1, q2⟩
  · rintro m meth c A a g mk v t L k n Y hp _ _ ⟨e1, e2, v', e3, e4⟩
    cases e3; subst e1 e2; exact ⟨L, e4, rfl, rfl, rfl⟩
theorem d1_0 : decode method_3_code 0 = .ok (.iload_n 0, 1) := by decide +kernel
theorem d1_1 : decode method_3_code 1 = .ok (.bipush 7, 2) := by decide +kernel
theorem d1_3 : decode method_3_code 3 = .ok (.iand, 1) := by decide +kernel
theorem d1_4 : decode method_3_code 4 = .ok (.istore_n 1, 1) := by decide +kernel
theorem d1_5 : decode method_3_code 5 = .ok (.iload_n 1, 1) := by decide +kernel
theorem d1_6 : decode method_3_code 6 = .ok (.ifCond .ne 6, 3) := by decide +kernel
theorem d1_9 : decode method_3_code 9 = .ok (.bipush 32, 2) := by decide +kernel
theorem d1_11 : decode method_3_code 11 = .ok (.ireturn, 1) := by decide +kernel
theorem d1_12 : decode method_3_code 12 = .ok (.iload_n 1, 1) := by decide +kernel
theorem d1_13 : decode method_3_code 13 = .ok (.iconst 1, 1) := by decide +kernel
theorem d1_14 : decode method_3_code 14 = .ok (.if_icmp .ne 6, 3) := by decide +kernel
theorem d1_17 : decode method_3_code 17 = .ok (.bipush 9, 2) := by decide +kernel
theorem d1_19 : decode method_3_code 19 = .ok (.ireturn, 1) := by decide +kernel
theorem d1_20 : decode method_3_code 20 = .ok (.iload_n 1, 1) := by decide +kernel
theorem d1_21 : decode method_3_code 21 = .ok (.iconst 2, 1) := by decide +kernel
theorem d1_22 : decode method_3_code 22 = .ok (.if_icmp .ne 6, 3) := by decide +kernel
theorem d1_25 : decode method_3_code 25 = .ok (.bipush 13, 2) := by decide +kernel
theorem d1_27 : decode method_3_code 27 = .ok (.ireturn, 1) := by decide +kernel
theorem d1_28 : decode method_3_code 28 = .ok (.iload_n 1, 1) := by decide +kernel
theorem d1_29 : decode method_3_code 29 = .ok (.iconst 3, 1) := by decide +kernel
theorem d1_30 : decode method_3_code 30 = .ok (.if_icmp .ne 6, 3) := by decide +kernel
theorem d1_33 : decode method_3_code 33 = .ok (.bipush 10, 2) := by decide +kernel
theorem d1_35 : decode method_3_code 35 = .ok (.ireturn, 1) := by decide +kernel
theorem d1_36 : decode method_3_code 36 = .ok (.iload_n 0, 1) := by decide +kernel
theorem d1_37 : decode method_3_code 37 = .ok (.iconst 3, 1) := by decide +kernel
theorem d1_38 : decode method_3_code 38 = .ok (.iushr, 1) := by decide +kernel
theorem d1_39 : decode method_3_code 39 = .ok (.i2c, 1) := by decide +kernel
theorem d1_40 : decode method_3_code 40 = .ok (.ireturn, 1) := by decide +kernel
theorem pn_rmPk : plainName "com/example/summarium/summarium/cda/CdaElementsIsWhiteSpacePinLaw" = true := by first | (simp [plainName, overriddenIn]; done) | decide +kernel
theorem ef_rmPk (m : MethodId) (p1 : Int32) : entryFrame m #[(.int p1)] 2 = (mkF m 0 #[.val (.int p1), .unset] []) := by first | (simp [entryFrame, mkF, argsToLocals, Value.category]; done) | rfl
def own_pk_0_1 (p1 : Int32) : Int32 := (nar .char (((p1.toUInt32 >>> ((3 : Int32) &&& 31).toUInt32).toInt32).toUInt32.toUInt16.toUInt32.toInt32))
def own_pk_0_2 (p1 : Int32) : Int32 := (nar .char (10 : Int32))
def own_pk_0_3 (p1 : Int32) : Int32 := if (p1 &&& (7 : Int32)) = (3 : Int32) then own_pk_0_2 p1 else own_pk_0_1 p1
def own_pk_0_4 (p1 : Int32) : Int32 := (nar .char (13 : Int32))
def own_pk_0_5 (p1 : Int32) : Int32 := if (p1 &&& (7 : Int32)) = (2 : Int32) then own_pk_0_4 p1 else own_pk_0_3 p1
def own_pk_0_6 (p1 : Int32) : Int32 := (nar .char (9 : Int32))
def own_pk_0_7 (p1 : Int32) : Int32 := if (p1 &&& (7 : Int32)) = (1 : Int32) then own_pk_0_6 p1 else own_pk_0_5 p1
def own_pk_0_8 (p1 : Int32) : Int32 := (nar .char (32 : Int32))
def own_pk_0_9 (p1 : Int32) : Int32 := if (p1 &&& (7 : Int32)) = (0 : Int32) then own_pk_0_8 p1 else own_pk_0_7 p1
def Q_rmPk (Z : State) (p1 : Int32)  (h0 : Heap) (n0 : Nat) (v : Option Value) (h : Heap) (L : List Loc) : Prop := v = some (.int (own_pk_0_9 p1)) ∧ Fr n0 L ∧ h = h0
set_option maxRecDepth 65536 in
set_option maxHeartbeats 40000000 in
theorem rmPk (l : Launch) (Z : State) (a0 : Array Value) (hw : ∀ d ∈ tables_1, d.before a0 Z = true) (ws : List Jvm.Cond) (p1 : Int32)  (h0 : Heap) (n0 : Nat) (Z0 : n0 ≤ h0.size)  :
    MetFree l (⟨"com/example/summarium/summarium/cda/CdaElementsIsWhiteSpacePinLaw", "pick", "(I)C"⟩ : MethodName) (head1 (Jvm.Cond.code (⟨"com/example/summarium/summarium/cda/CdaElementsIsWhiteSpacePinLaw", "pick", "(I)C"⟩ : MethodName) method_3_code 2 (some .char) :: ws) ({ frames := 0, cells := 0, slots := 0, locals := 0 } : Room)) (fun a U => a = #[(.int p1)] ∧ Z.Warmed39 U.vm ∧ U.heap = h0) (fun _ _ _ _ _ => True) (fun _ U o U' => ∃ v L, o = .returned v ∧ Q_rmPk Z p1 h0 n0 v U'.heap L ∧ FrameEnd U o U' L ({ frames := 0, cells := 0, slots := 0, locals := 0 } : Room).cells ({ frames := 0, cells := 0, slots := 0, locals := 0 } : Room).slots) := by
  refine MetFree.of_bodySF (plainFor_of_name pn_rmPk) hisR ?_
  intro p e s m args below meth c s₁ Bd hml0 hP hK
  obtain ⟨rfl, hZ, hh⟩ := hP
  have hx := Bd.exec
  have hby := Bd.bytes
  have hml : c.maxLocals = 2 := hml0
  have hown : s.vm.findClass "com/example/summarium/summarium/cda/CdaElementsIsWhiteSpacePinLaw" = some m.cls := findClass_of_methodNamed Bd.named
  have hnm := (name_of_methodNamed Bd.named Bd.method).1
  have X0 : Stand p l e ({ frames := 0, cells := 0, slots := 0, locals := 0 } : Room) s m #[(.int p1)] below meth c s₁ [] 0 0 := Stand.of_body Bd
  have e0 : s₁.heap = h0 := by rw [← hh, Bd.state]; rfl
  have N0 := Fr.nil n0
  have pre0 : Steps p.tables e below (s₁.setTop (entryFrame m #[(.int p1)] 2)) (s₁.setTop (mkF m 0 #[.val (.int p1), .unset] [])) := castTop (ef_rmPk m p1) (Steps.refl _)
  obtain ⟨v_pk_0, h_v_pk_0⟩ : ∃ z, z = own_pk_0_9 p1 := ⟨_, rfl⟩
  obtain ⟨fs, hr, hrun, hended, hW, hsame⟩ := X0.leave (v := some (.int v_pk_0)) (fun h => by rw [Bd.returns] at h; cases h)
  have Bpk_1 (hv0 : v_pk_0 = own_pk_0_1 p1) : Steps p.tables e below (s₁.setTop (mkF m 36 #[.val (.int p1), .val (.int (p1 &&& (7 : Int32)))] [])) (s₁.setFrames fs) := by
    have hw0 : v_pk_0 = (nar .char (((p1.toUInt32 >>> ((3 : Int32) &&& 31).toUInt32).toInt32).toUInt32.toUInt16.toUInt32.toInt32)) := hv0
    rw [hw0] at hr
    show Steps p.tables e below (s₁.setTop (mkF m 36 #[.val (.int p1), .val (.int (p1 &&& (7 : Int32)))] [])) _
    refine XS.iloadN X0.here hx rfl (hb hby d1_36) rfl ?_
    show Steps p.tables e below (s₁.setTop (mkF m 37 #[.val (.int p1), .val (.int (p1 &&& (7 : Int32)))] [(.int p1)])) _
    refine XS.iconst X0.here hx rfl (hb hby d1_37) ?_
    show Steps p.tables e below (s₁.setTop (mkF m 38 #[.val (.int p1), .val (.int (p1 &&& (7 : Int32)))] [(.int (3 : Int32)), (.int p1)])) _
    refine XS.iushr X0.here hx rfl (hb hby d1_38) rfl ?_
    show Steps p.tables e below (s₁.setTop (mkF m 39 #[.val (.int p1), .val (.int (p1 &&& (7 : Int32)))] [(.int ((p1.toUInt32 >>> ((3 : Int32) &&& 31).toUInt32).toInt32))])) _
    refine XS.i2c X0.here hx rfl (hb hby d1_39) rfl ?_
    show Steps p.tables e below (s₁.setTop (mkF m 40 #[.val (.int p1), .val (.int (p1 &&& (7 : Int32)))] [(.int (((p1.toUInt32 >>> ((3 : Int32) &&& 31).toUInt32).toInt32).toUInt32.toUInt16.toUInt32.toInt32))])) _
    exact retN X0 hx (t := .char) Bd.returns (by simp) (hb hby d1_40) hr
  have Bpk_2 (hv0 : v_pk_0 = own_pk_0_2 p1) : Steps p.tables e below (s₁.setTop (mkF m 33 #[.val (.int p1), .val (.int (p1 &&& (7 : Int32)))] [])) (s₁.setFrames fs) := by
    have hw0 : v_pk_0 = (nar .char (10 : Int32)) := hv0
    rw [hw0] at hr
    show Steps p.tables e below (s₁.setTop (mkF m 33 #[.val (.int p1), .val (.int (p1 &&& (7 : Int32)))] [])) _
    refine XS.bipush X0.here hx rfl (hb hby d1_33) ?_
    show Steps p.tables e below (s₁.setTop (mkF m 35 #[.val (.int p1), .val (.int (p1 &&& (7 : Int32)))] [(.int (10 : Int32))])) _
    exact retN X0 hx (t := .char) Bd.returns (by simp) (hb hby d1_35) hr
  have Bpk_3 (hv0 : v_pk_0 = own_pk_0_3 p1) : Steps p.tables e below (s₁.setTop (mkF m 28 #[.val (.int p1), .val (.int (p1 &&& (7 : Int32)))] [])) (s₁.setFrames fs) := by
    show Steps p.tables e below (s₁.setTop (mkF m 28 #[.val (.int p1), .val (.int (p1 &&& (7 : Int32)))] [])) _
    refine XS.iloadN X0.here hx rfl (hb hby d1_28) rfl ?_
    show Steps p.tables e below (s₁.setTop (mkF m 29 #[.val (.int p1), .val (.int (p1 &&& (7 : Int32)))] [(.int (p1 &&& (7 : Int32)))])) _
    refine XS.iconst X0.here hx rfl (hb hby d1_29) ?_
    show Steps p.tables e below (s₁.setTop (mkF m 30 #[.val (.int p1), .val (.int (p1 &&& (7 : Int32)))] [(.int (3 : Int32)), (.int (p1 &&& (7 : Int32)))])) _
    by_cases h30 : (p1 &&& (7 : Int32)) = (3 : Int32)
    · refine XS.icmpNo X0.here hx rfl (hb hby d1_30) rfl (teq h30).2 ?_
      exact Bpk_2 (hv0.trans (if_pos h30))
    · refine XS.icmpYes X0.here hx rfl (pc0 := 30) (pc' := 36) rfl (hb hby d1_30) rfl (feq h30).2 (by decide) (by decide) ?_
      exact Bpk_1 (hv0.trans (if_neg h30))
  have Bpk_4 (hv0 : v_pk_0 = own_pk_0_4 p1) : Steps p.tables e below (s₁.setTop (mkF m 25 #[.val (.int p1), .val (.int (p1 &&& (7 : Int32)))] [])) (s₁.setFrames fs) := by
    have hw0 : v_pk_0 = (nar .char (13 : Int32)) := hv0
    rw [hw0] at hr
    show Steps p.tables e below (s₁.setTop (mkF m 25 #[.val (.int p1), .val (.int (p1 &&& (7 : Int32)))] [])) _
    refine XS.bipush X0.here hx rfl (hb hby d1_25) ?_
    show Steps p.tables e below (s₁.setTop (mkF m 27 #[.val (.int p1), .val (.int (p1 &&& (7 : Int32)))] [(.int (13 : Int32))])) _
    exact retN X0 hx (t := .char) Bd.returns (by simp) (hb hby d1_27) hr
  have Bpk_5 (hv0 : v_pk_0 = own_pk_0_5 p1) : Steps p.tables e below (s₁.setTop (mkF m 20 #[.val (.int p1), .val (.int (p1 &&& (7 : Int32)))] [])) (s₁.setFrames fs) := by
    show Steps p.tables e below (s₁.setTop (mkF m 20 #[.val (.int p1), .val (.int (p1 &&& (7 : Int32)))] [])) _
    refine XS.iloadN X0.here hx rfl (hb hby d1_20) rfl ?_
    show Steps p.tables e below (s₁.setTop (mkF m 21 #[.val (.int p1), .val (.int (p1 &&& (7 : Int32)))] [(.int (p1 &&& (7 : Int32)))])) _
    refine XS.iconst X0.here hx rfl (hb hby d1_21) ?_
    show Steps p.tables e below (s₁.setTop (mkF m 22 #[.val (.int p1), .val (.int (p1 &&& (7 : Int32)))] [(.int (2 : Int32)), (.int (p1 &&& (7 : Int32)))])) _
    by_cases h22 : (p1 &&& (7 : Int32)) = (2 : Int32)
    · refine XS.icmpNo X0.here hx rfl (hb hby d1_22) rfl (teq h22).2 ?_
      exact Bpk_4 (hv0.trans (if_pos h22))
    · refine XS.icmpYes X0.here hx rfl (pc0 := 22) (pc' := 28) rfl (hb hby d1_22) rfl (feq h22).2 (by decide) (by decide) ?_
      exact Bpk_3 (hv0.trans (if_neg h22))
  have Bpk_6 (hv0 : v_pk_0 = own_pk_0_6 p1) : Steps p.tables e below (s₁.setTop (mkF m 17 #[.val (.int p1), .val (.int (p1 &&& (7 : Int32)))] [])) (s₁.setFrames fs) := by
    have hw0 : v_pk_0 = (nar .char (9 : Int32)) := hv0
    rw [hw0] at hr
    show Steps p.tables e below (s₁.setTop (mkF m 17 #[.val (.int p1), .val (.int (p1 &&& (7 : Int32)))] [])) _
    refine XS.bipush X0.here hx rfl (hb hby d1_17) ?_
    show Steps p.tables e below (s₁.setTop (mkF m 19 #[.val (.int p1), .val (.int (p1 &&& (7 : Int32)))] [(.int (9 : Int32))])) _
    exact retN X0 hx (t := .char) Bd.returns (by simp) (hb hby d1_19) hr
  have Bpk_7 (hv0 : v_pk_0 = own_pk_0_7 p1) : Steps p.tables e below (s₁.setTop (mkF m 12 #[.val (.int p1), .val (.int (p1 &&& (7 : Int32)))] [])) (s₁.setFrames fs) := by
    show Steps p.tables e below (s₁.setTop (mkF m 12 #[.val (.int p1), .val (.int (p1 &&& (7 : Int32)))] [])) _
    refine XS.iloadN X0.here hx rfl (hb hby d1_12) rfl ?_
    show Steps p.tables e below (s₁.setTop (mkF m 13 #[.val (.int p1), .val (.int (p1 &&& (7 : Int32)))] [(.int (p1 &&& (7 : Int32)))])) _
    refine XS.iconst X0.here hx rfl (hb hby d1_13) ?_
    show Steps p.tables e below (s₁.setTop (mkF m 14 #[.val (.int p1), .val (.int (p1 &&& (7 : Int32)))] [(.int (1 : Int32)), (.int (p1 &&& (7 : Int32)))])) _
    by_cases h14 : (p1 &&& (7 : Int32)) = (1 : Int32)
    · refine XS.icmpNo X0.here hx rfl (hb hby d1_14) rfl (teq h14).2 ?_
      exact Bpk_6 (hv0.trans (if_pos h14))
    · refine XS.icmpYes X0.here hx rfl (pc0 := 14) (pc' := 20) rfl (hb hby d1_14) rfl (feq h14).2 (by decide) (by decide) ?_
      exact Bpk_5 (hv0.trans (if_neg h14))
  have Bpk_8 (hv0 : v_pk_0 = own_pk_0_8 p1) : Steps p.tables e below (s₁.setTop (mkF m 9 #[.val (.int p1), .val (.int (p1 &&& (7 : Int32)))] [])) (s₁.setFrames fs) := by
    have hw0 : v_pk_0 = (nar .char (32 : Int32)) := hv0
    rw [hw0] at hr
    show Steps p.tables e below (s₁.setTop (mkF m 9 #[.val (.int p1), .val (.int (p1 &&& (7 : Int32)))] [])) _
    refine XS.bipush X0.here hx rfl (hb hby d1_9) ?_
    show Steps p.tables e below (s₁.setTop (mkF m 11 #[.val (.int p1), .val (.int (p1 &&& (7 : Int32)))] [(.int (32 : Int32))])) _
    exact retN X0 hx (t := .char) Bd.returns (by simp) (hb hby d1_11) hr
  have Bpk_9 (hv0 : v_pk_0 = own_pk_0_9 p1) : Steps p.tables e below (s₁.setTop (mkF m 0 #[.val (.int p1), .unset] [])) (s₁.setFrames fs) := by
    show Steps p.tables e below (s₁.setTop (mkF m 0 #[.val (.int p1), .unset] [])) _
    refine XS.iloadN X0.here hx rfl (hb hby d1_0) rfl ?_
    show Steps p.tables e below (s₁.setTop (mkF m 1 #[.val (.int p1), .unset] [(.int p1)])) _
    refine XS.bipush X0.here hx rfl (hb hby d1_1) ?_
    show Steps p.tables e below (s₁.setTop (mkF m 3 #[.val (.int p1), .unset] [(.int (7 : Int32)), (.int p1)])) _
    refine XS.iand X0.here hx rfl (hb hby d1_3) rfl ?_
    show Steps p.tables e below (s₁.setTop (mkF m 4 #[.val (.int p1), .unset] [(.int (p1 &&& (7 : Int32)))])) _
    refine XS.istoreN X0.here hx rfl (hb hby d1_4) rfl (l' := #[.val (.int p1), .val (.int (p1 &&& (7 : Int32)))]) rfl ?_
    show Steps p.tables e below (s₁.setTop (mkF m 5 #[.val (.int p1), .val (.int (p1 &&& (7 : Int32)))] [])) _
    refine XS.iloadN X0.here hx rfl (hb hby d1_5) rfl ?_
    show Steps p.tables e below (s₁.setTop (mkF m 6 #[.val (.int p1), .val (.int (p1 &&& (7 : Int32)))] [(.int (p1 &&& (7 : Int32)))])) _
    by_cases h6 : (p1 &&& (7 : Int32)) = (0 : Int32)
    · refine XS.ifNo X0.here hx rfl (hb hby d1_6) rfl ((if0 _ _).trans (teq h6).2) ?_
      exact Bpk_8 (hv0.trans (if_pos h6))
    · refine XS.ifYes X0.here hx rfl (pc0 := 6) (pc' := 12) rfl (hb hby d1_6) rfl ((if0 _ _).trans (feq h6).2) (by decide) (by decide) ?_
      exact Bpk_7 (hv0.trans (if_neg h6))
  have pre1 : Steps p.tables e below _ (s₁.setFrames fs) := pre0.trans (Bpk_9 h_v_pk_0)
  refine ⟨_, _, pre1, hrun, hended, _, _, rfl, ?_, ⟨_, rfl⟩, hW, hsame.mono (by decide) (by decide)⟩
  exact ⟨by rw [h_v_pk_0], N0, e0⟩
theorem d11_0 : decode method_4_code 0 = .ok (.iload_n 0, 1) := by decide +kernel
theorem d11_1 : decode method_4_code 1 = .ok (.istore_n 1, 1) := by decide +kernel
theorem d11_2 : decode method_4_code 2 = .ok (.iload_n 1, 1) := by decide +kernel
theorem d11_3 : decode method_4_code 3 = .ok (.bipush 32, 2) := by decide +kernel
theorem d11_5 : decode method_4_code 5 = .ok (.if_icmp .eq 21, 3) := by decide +kernel
theorem d11_8 : decode method_4_code 8 = .ok (.iload_n 1, 1) := by decide +kernel
theorem d11_9 : decode method_4_code 9 = .ok (.bipush 9, 2) := by decide +kernel
theorem d11_11 : decode method_4_code 11 = .ok (.if_icmp .eq 15, 3) := by decide +kernel
theorem d11_14 : decode method_4_code 14 = .ok (.iload_n 1, 1) := by decide +kernel
theorem d11_15 : decode method_4_code 15 = .ok (.bipush 13, 2) := by decide +kernel
theorem d11_17 : decode method_4_code 17 = .ok (.if_icmp .eq 9, 3) := by decide +kernel
theorem d11_20 : decode method_4_code 20 = .ok (.iload_n 1, 1) := by decide +kernel
theorem d11_21 : decode method_4_code 21 = .ok (.bipush 10, 2) := by decide +kernel
theorem d11_23 : decode method_4_code 23 = .ok (.if_icmp .ne 7, 3) := by decide +kernel
theorem d11_26 : decode method_4_code 26 = .ok (.iconst 1, 1) := by decide +kernel
theorem d11_27 : decode method_4_code 27 = .ok (.goto 4, 3) := by decide +kernel
theorem d11_30 : decode method_4_code 30 = .ok (.iconst 0, 1) := by decide +kernel
theorem d11_31 : decode method_4_code 31 = .ok (.ireturn, 1) := by decide +kernel
theorem pn_rmWs : plainName "com/example/summarium/summarium/cda/CdaElementsIsWhiteSpacePinLaw" = true := by first | (simp [plainName, overriddenIn]; done) | decide +kernel
theorem ef_rmWs (m : MethodId) (p1 : Int32) : entryFrame m #[(.int p1)] 2 = (mkF m 0 #[.val (.int p1), .unset] []) := by first | (simp [entryFrame, mkF, argsToLocals, Value.category]; done) | rfl
def own_ws_0_1 (p1 : Int32) : Int32 := (1 : Int32)
def own_ws_0_2 (p1 : Int32) : Int32 := (0 : Int32)
def own_ws_0_3 (p1 : Int32) : Int32 := if p1 = (10 : Int32) then own_ws_0_1 p1 else own_ws_0_2 p1
def own_ws_0_4 (p1 : Int32) : Int32 := if p1 = (13 : Int32) then own_ws_0_1 p1 else own_ws_0_3 p1
def own_ws_0_5 (p1 : Int32) : Int32 := if p1 = (9 : Int32) then own_ws_0_1 p1 else own_ws_0_4 p1
def own_ws_0_6 (p1 : Int32) : Int32 := if p1 = (32 : Int32) then own_ws_0_1 p1 else own_ws_0_5 p1
def Q_rmWs (Z : State) (p1 : Int32)  (h0 : Heap) (n0 : Nat) (v : Option Value) (h : Heap) (L : List Loc) : Prop := v = some (.int (own_ws_0_6 p1)) ∧ Fr n0 L ∧ h = h0
set_option maxRecDepth 65536 in
set_option maxHeartbeats 40000000 in
theorem rmWs (l : Launch) (Z : State) (a0 : Array Value) (hw : ∀ d ∈ tables_1, d.before a0 Z = true) (ws : List Jvm.Cond) (p1 : Int32)  (h0 : Heap) (n0 : Nat) (Z0 : n0 ≤ h0.size)  :
    MetFree l (⟨"com/example/summarium/summarium/cda/CdaElementsIsWhiteSpacePinLaw", "ws", "(C)Z"⟩ : MethodName) (head1 (Jvm.Cond.code (⟨"com/example/summarium/summarium/cda/CdaElementsIsWhiteSpacePinLaw", "ws", "(C)Z"⟩ : MethodName) method_4_code 2 (some .boolean) :: ws) ({ frames := 0, cells := 0, slots := 0, locals := 0 } : Room)) (fun a U => a = #[(.int p1)] ∧ Z.Warmed39 U.vm ∧ U.heap = h0) (fun _ _ _ _ _ => True) (fun _ U o U' => ∃ v L, o = .returned v ∧ Q_rmWs Z p1 h0 n0 v U'.heap L ∧ FrameEnd U o U' L ({ frames := 0, cells := 0, slots := 0, locals := 0 } : Room).cells ({ frames := 0, cells := 0, slots := 0, locals := 0 } : Room).slots) := by
  refine MetFree.of_bodySF (plainFor_of_name pn_rmWs) hisR ?_
  intro p e s m args below meth c s₁ Bd hml0 hP hK
  obtain ⟨rfl, hZ, hh⟩ := hP
  have hx := Bd.exec
  have hby := Bd.bytes
  have hml : c.maxLocals = 2 := hml0
  have hown : s.vm.findClass "com/example/summarium/summarium/cda/CdaElementsIsWhiteSpacePinLaw" = some m.cls := findClass_of_methodNamed Bd.named
  have hnm := (name_of_methodNamed Bd.named Bd.method).1
  have X0 : Stand p l e ({ frames := 0, cells := 0, slots := 0, locals := 0 } : Room) s m #[(.int p1)] below meth c s₁ [] 0 0 := Stand.of_body Bd
  have e0 : s₁.heap = h0 := by rw [← hh, Bd.state]; rfl
  have N0 := Fr.nil n0
  have pre0 : Steps p.tables e below (s₁.setTop (entryFrame m #[(.int p1)] 2)) (s₁.setTop (mkF m 0 #[.val (.int p1), .unset] [])) := castTop (ef_rmWs m p1) (Steps.refl _)
  obtain ⟨v_ws_0, h_v_ws_0⟩ : ∃ z, z = own_ws_0_6 p1 := ⟨_, rfl⟩
  obtain ⟨fs, hr, hrun, hended, hW, hsame⟩ := X0.leave (v := some (.int v_ws_0)) (fun h => by rw [Bd.returns] at h; cases h)
  have Bws_1 (hv0 : v_ws_0 = own_ws_0_1 p1) : Steps p.tables e below (s₁.setTop (mkF m 26 #[.val (.int p1), .val (.int p1)] [])) (s₁.setFrames fs) := by
    have hw0 : v_ws_0 = (1 : Int32) := hv0
    rw [hw0] at hr
    show Steps p.tables e below (s₁.setTop (mkF m 26 #[.val (.int p1), .val (.int p1)] [])) _
    refine XS.iconst X0.here hx rfl (hb hby d11_26) ?_
    show Steps p.tables e below (s₁.setTop (mkF m 27 #[.val (.int p1), .val (.int p1)] [(.int (1 : Int32))])) _
    refine XS.goto X0.here hx rfl (pc0 := 27) (pc' := 31) rfl (hb hby d11_27) (by decide) (by decide) ?_
    show Steps p.tables e below (s₁.setTop (mkF m 31 #[.val (.int p1), .val (.int p1)] [(.int (1 : Int32))])) _
    exact retN X0 hx (t := .boolean) Bd.returns (by simp) (hb hby d11_31) hr
  have Bws_2 (hv0 : v_ws_0 = own_ws_0_2 p1) : Steps p.tables e below (s₁.setTop (mkF m 30 #[.val (.int p1), .val (.int p1)] [])) (s₁.setFrames fs) := by
    have hw0 : v_ws_0 = (0 : Int32) := hv0
    rw [hw0] at hr
    show Steps p.tables e below (s₁.setTop (mkF m 30 #[.val (.int p1), .val (.int p1)] [])) _
    refine XS.iconst X0.here hx rfl (hb hby d11_30) ?_
    show Steps p.tables e below (s₁.setTop (mkF m 31 #[.val (.int p1), .val (.int p1)] [(.int (0 : Int32))])) _
    exact retN X0 hx (t := .boolean) Bd.returns (by simp) (hb hby d11_31) hr
  have Bws_3 (hv0 : v_ws_0 = own_ws_0_3 p1) : Steps p.tables e below (s₁.setTop (mkF m 20 #[.val (.int p1), .val (.int p1)] [])) (s₁.setFrames fs) := by
    show Steps p.tables e below (s₁.setTop (mkF m 20 #[.val (.int p1), .val (.int p1)] [])) _
    refine XS.iloadN X0.here hx rfl (hb hby d11_20) rfl ?_
    show Steps p.tables e below (s₁.setTop (mkF m 21 #[.val (.int p1), .val (.int p1)] [(.int p1)])) _
    refine XS.bipush X0.here hx rfl (hb hby d11_21) ?_
    show Steps p.tables e below (s₁.setTop (mkF m 23 #[.val (.int p1), .val (.int p1)] [(.int (10 : Int32)), (.int p1)])) _
    by_cases h23 : p1 = (10 : Int32)
    · refine XS.icmpNo X0.here hx rfl (hb hby d11_23) rfl (teq h23).2 ?_
      exact Bws_1 (hv0.trans (if_pos h23))
    · refine XS.icmpYes X0.here hx rfl (pc0 := 23) (pc' := 30) rfl (hb hby d11_23) rfl (feq h23).2 (by decide) (by decide) ?_
      exact Bws_2 (hv0.trans (if_neg h23))
  have Bws_4 (hv0 : v_ws_0 = own_ws_0_4 p1) : Steps p.tables e below (s₁.setTop (mkF m 14 #[.val (.int p1), .val (.int p1)] [])) (s₁.setFrames fs) := by
    show Steps p.tables e below (s₁.setTop (mkF m 14 #[.val (.int p1), .val (.int p1)] [])) _
    refine XS.iloadN X0.here hx rfl (hb hby d11_14) rfl ?_
    show Steps p.tables e below (s₁.setTop (mkF m 15 #[.val (.int p1), .val (.int p1)] [(.int p1)])) _
    refine XS.bipush X0.here hx rfl (hb hby d11_15) ?_
    show Steps p.tables e below (s₁.setTop (mkF m 17 #[.val (.int p1), .val (.int p1)] [(.int (13 : Int32)), (.int p1)])) _
    by_cases h17 : p1 = (13 : Int32)
    · refine XS.icmpYes X0.here hx rfl (pc0 := 17) (pc' := 26) rfl (hb hby d11_17) rfl (teq h17).1 (by decide) (by decide) ?_
      exact Bws_1 (hv0.trans (if_pos h17))
    · refine XS.icmpNo X0.here hx rfl (hb hby d11_17) rfl (feq h17).1 ?_
      exact Bws_3 (hv0.trans (if_neg h17))
  have Bws_5 (hv0 : v_ws_0 = own_ws_0_5 p1) : Steps p.tables e below (s₁.setTop (mkF m 8 #[.val (.int p1), .val (.int p1)] [])) (s₁.setFrames fs) := by
    show Steps p.tables e below (s₁.setTop (mkF m 8 #[.val (.int p1), .val (.int p1)] [])) _
    refine XS.iloadN X0.here hx rfl (hb hby d11_8) rfl ?_
    show Steps p.tables e below (s₁.setTop (mkF m 9 #[.val (.int p1), .val (.int p1)] [(.int p1)])) _
    refine XS.bipush X0.here hx rfl (hb hby d11_9) ?_
    show Steps p.tables e below (s₁.setTop (mkF m 11 #[.val (.int p1), .val (.int p1)] [(.int (9 : Int32)), (.int p1)])) _
    by_cases h11 : p1 = (9 : Int32)
    · refine XS.icmpYes X0.here hx rfl (pc0 := 11) (pc' := 26) rfl (hb hby d11_11) rfl (teq h11).1 (by decide) (by decide) ?_
      exact Bws_1 (hv0.trans (if_pos h11))
    · refine XS.icmpNo X0.here hx rfl (hb hby d11_11) rfl (feq h11).1 ?_
      exact Bws_4 (hv0.trans (if_neg h11))
  have Bws_6 (hv0 : v_ws_0 = own_ws_0_6 p1) : Steps p.tables e below (s₁.setTop (mkF m 0 #[.val (.int p1), .unset] [])) (s₁.setFrames fs) := by
    show Steps p.tables e below (s₁.setTop (mkF m 0 #[.val (.int p1), .unset] [])) _
    refine XS.iloadN X0.here hx rfl (hb hby d11_0) rfl ?_
    show Steps p.tables e below (s₁.setTop (mkF m 1 #[.val (.int p1), .unset] [(.int p1)])) _
    refine XS.istoreN X0.here hx rfl (hb hby d11_1) rfl (l' := #[.val (.int p1), .val (.int p1)]) rfl ?_
    show Steps p.tables e below (s₁.setTop (mkF m 2 #[.val (.int p1), .val (.int p1)] [])) _
    refine XS.iloadN X0.here hx rfl (hb hby d11_2) rfl ?_
    show Steps p.tables e below (s₁.setTop (mkF m 3 #[.val (.int p1), .val (.int p1)] [(.int p1)])) _
    refine XS.bipush X0.here hx rfl (hb hby d11_3) ?_
    show Steps p.tables e below (s₁.setTop (mkF m 5 #[.val (.int p1), .val (.int p1)] [(.int (32 : Int32)), (.int p1)])) _
    by_cases h5 : p1 = (32 : Int32)
    · refine XS.icmpYes X0.here hx rfl (pc0 := 5) (pc' := 26) rfl (hb hby d11_5) rfl (teq h5).1 (by decide) (by decide) ?_
      exact Bws_1 (hv0.trans (if_pos h5))
    · refine XS.icmpNo X0.here hx rfl (hb hby d11_5) rfl (feq h5).1 ?_
      exact Bws_5 (hv0.trans (if_neg h5))
  have pre1 : Steps p.tables e below _ (s₁.setFrames fs) := pre0.trans (Bws_6 h_v_ws_0)
  refine ⟨_, _, pre1, hrun, hended, _, _, rfl, ?_, ⟨_, rfl⟩, hW, hsame.mono (by decide) (by decide)⟩
  exact ⟨by rw [h_v_ws_0], N0, e0⟩
theorem d17_0 : decode prog_10_method_23_code 0 = .ok (.iload_n 0, 1) := by decide +kernel
theorem d17_1 : decode prog_10_method_23_code 1 = .ok (.bipush 32, 2) := by decide +kernel
theorem d17_3 : decode prog_10_method_23_code 3 = .ok (.if_icmp .eq 21, 3) := by decide +kernel
theorem d17_6 : decode prog_10_method_23_code 6 = .ok (.iload_n 0, 1) := by decide +kernel
theorem d17_7 : decode prog_10_method_23_code 7 = .ok (.bipush 9, 2) := by decide +kernel
theorem d17_9 : decode prog_10_method_23_code 9 = .ok (.if_icmp .eq 15, 3) := by decide +kernel
theorem d17_12 : decode prog_10_method_23_code 12 = .ok (.iload_n 0, 1) := by decide +kernel
theorem d17_13 : decode prog_10_method_23_code 13 = .ok (.bipush 13, 2) := by decide +kernel
theorem d17_15 : decode prog_10_method_23_code 15 = .ok (.if_icmp .eq 9, 3) := by decide +kernel
theorem d17_18 : decode prog_10_method_23_code 18 = .ok (.iload_n 0, 1) := by decide +kernel
theorem d17_19 : decode prog_10_method_23_code 19 = .ok (.bipush 10, 2) := by decide +kernel
theorem d17_21 : decode prog_10_method_23_code 21 = .ok (.if_icmp .ne 7, 3) := by decide +kernel
theorem d17_24 : decode prog_10_method_23_code 24 = .ok (.iconst 1, 1) := by decide +kernel
theorem d17_25 : decode prog_10_method_23_code 25 = .ok (.goto 4, 3) := by decide +kernel
theorem d17_28 : decode prog_10_method_23_code 28 = .ok (.iconst 0, 1) := by decide +kernel
theorem d17_29 : decode prog_10_method_23_code 29 = .ok (.ireturn, 1) := by decide +kernel
theorem pn_rmIw : plainName "com/example/summarium/summarium/cda/CdaElements" = true := by first | (simp [plainName, overriddenIn]; done) | decide +kernel
theorem ef_rmIw (m : MethodId) (p1 : Int32) : entryFrame m #[(.int p1)] 1 = (mkF m 0 #[.val (.int p1)] []) := by first | (simp [entryFrame, mkF, argsToLocals, Value.category]; done) | rfl
def own_iw_0_1 (p1 : Int32) : Int32 := (1 : Int32)
def own_iw_0_2 (p1 : Int32) : Int32 := (0 : Int32)
def own_iw_0_3 (p1 : Int32) : Int32 := if p1 = (10 : Int32) then own_iw_0_1 p1 else own_iw_0_2 p1
def own_iw_0_4 (p1 : Int32) : Int32 := if p1 = (13 : Int32) then own_iw_0_1 p1 else own_iw_0_3 p1
def own_iw_0_5 (p1 : Int32) : Int32 := if p1 = (9 : Int32) then own_iw_0_1 p1 else own_iw_0_4 p1
def own_iw_0_6 (p1 : Int32) : Int32 := if p1 = (32 : Int32) then own_iw_0_1 p1 else own_iw_0_5 p1
def Q_rmIw (Z : State) (p1 : Int32)  (h0 : Heap) (n0 : Nat) (v : Option Value) (h : Heap) (L : List Loc) : Prop := v = some (.int (own_iw_0_6 p1)) ∧ Fr n0 L ∧ h = h0
set_option maxRecDepth 65536 in
set_option maxHeartbeats 40000000 in
theorem rmIw (l : Launch) (Z : State) (a0 : Array Value) (hw : ∀ d ∈ tables_1, d.before a0 Z = true) (ws : List Jvm.Cond) (p1 : Int32)  (h0 : Heap) (n0 : Nat) (Z0 : n0 ≤ h0.size)  :
    MetFree l (⟨"com/example/summarium/summarium/cda/CdaElements", "isWhiteSpace", "(C)Z"⟩ : MethodName) (head1 (Jvm.Cond.code (⟨"com/example/summarium/summarium/cda/CdaElements", "isWhiteSpace", "(C)Z"⟩ : MethodName) prog_10_method_23_code 1 (some .boolean) :: ws) ({ frames := 0, cells := 0, slots := 0, locals := 0 } : Room)) (fun a U => a = #[(.int p1)] ∧ Z.Warmed39 U.vm ∧ U.heap = h0) (fun _ _ _ _ _ => True) (fun _ U o U' => ∃ v L, o = .returned v ∧ Q_rmIw Z p1 h0 n0 v U'.heap L ∧ FrameEnd U o U' L ({ frames := 0, cells := 0, slots := 0, locals := 0 } : Room).cells ({ frames := 0, cells := 0, slots := 0, locals := 0 } : Room).slots) := by
  refine MetFree.of_bodySF (plainFor_of_name pn_rmIw) hisR ?_
  intro p e s m args below meth c s₁ Bd hml0 hP hK
  obtain ⟨rfl, hZ, hh⟩ := hP
  have hx := Bd.exec
  have hby := Bd.bytes
  have hml : c.maxLocals = 1 := hml0
  have hown : s.vm.findClass "com/example/summarium/summarium/cda/CdaElements" = some m.cls := findClass_of_methodNamed Bd.named
  have hnm := (name_of_methodNamed Bd.named Bd.method).1
  have X0 : Stand p l e ({ frames := 0, cells := 0, slots := 0, locals := 0 } : Room) s m #[(.int p1)] below meth c s₁ [] 0 0 := Stand.of_body Bd
  have e0 : s₁.heap = h0 := by rw [← hh, Bd.state]; rfl
  have N0 := Fr.nil n0
  have pre0 : Steps p.tables e below (s₁.setTop (entryFrame m #[(.int p1)] 1)) (s₁.setTop (mkF m 0 #[.val (.int p1)] [])) := castTop (ef_rmIw m p1) (Steps.refl _)
  obtain ⟨v_iw_0, h_v_iw_0⟩ : ∃ z, z = own_iw_0_6 p1 := ⟨_, rfl⟩
  obtain ⟨fs, hr, hrun, hended, hW, hsame⟩ := X0.leave (v := some (.int v_iw_0)) (fun h => by rw [Bd.returns] at h; cases h)
  have Biw_1 (hv0 : v_iw_0 = own_iw_0_1 p1) : Steps p.tables e below (s₁.setTop (mkF m 24 #[.val (.int p1)] [])) (s₁.setFrames fs) := by
    have hw0 : v_iw_0 = (1 : Int32) := hv0
    rw [hw0] at hr
    show Steps p.tables e below (s₁.setTop (mkF m 24 #[.val (.int p1)] [])) _
    refine XS.iconst X0.here hx rfl (hb hby d17_24) ?_
    show Steps p.tables e below (s₁.setTop (mkF m 25 #[.val (.int p1)] [(.int (1 : Int32))])) _
    refine XS.goto X0.here hx rfl (pc0 := 25) (pc' := 29) rfl (hb hby d17_25) (by decide) (by decide) ?_
    show Steps p.tables e below (s₁.setTop (mkF m 29 #[.val (.int p1)] [(.int (1 : Int32))])) _
    exact retN X0 hx (t := .boolean) Bd.returns (by simp) (hb hby d17_29) hr
  have Biw_2 (hv0 : v_iw_0 = own_iw_0_2 p1) : Steps p.tables e below (s₁.setTop (mkF m 28 #[.val (.int p1)] [])) (s₁.setFrames fs) := by
    have hw0 : v_iw_0 = (0 : Int32) := hv0
    rw [hw0] at hr
    show Steps p.tables e below (s₁.setTop (mkF m 28 #[.val (.int p1)] [])) _
    refine XS.iconst X0.here hx rfl (hb hby d17_28) ?_
    show Steps p.tables e below (s₁.setTop (mkF m 29 #[.val (.int p1)] [(.int (0 : Int32))])) _
    exact retN X0 hx (t := .boolean) Bd.returns (by simp) (hb hby d17_29) hr
  have Biw_3 (hv0 : v_iw_0 = own_iw_0_3 p1) : Steps p.tables e below (s₁.setTop (mkF m 18 #[.val (.int p1)] [])) (s₁.setFrames fs) := by
    show Steps p.tables e below (s₁.setTop (mkF m 18 #[.val (.int p1)] [])) _
    refine XS.iloadN X0.here hx rfl (hb hby d17_18) rfl ?_
    show Steps p.tables e below (s₁.setTop (mkF m 19 #[.val (.int p1)] [(.int p1)])) _
    refine XS.bipush X0.here hx rfl (hb hby d17_19) ?_
    show Steps p.tables e below (s₁.setTop (mkF m 21 #[.val (.int p1)] [(.int (10 : Int32)), (.int p1)])) _
    by_cases h21 : p1 = (10 : Int32)
    · refine XS.icmpNo X0.here hx rfl (hb hby d17_21) rfl (teq h21).2 ?_
      exact Biw_1 (hv0.trans (if_pos h21))
    · refine XS.icmpYes X0.here hx rfl (pc0 := 21) (pc' := 28) rfl (hb hby d17_21) rfl (feq h21).2 (by decide) (by decide) ?_
      exact Biw_2 (hv0.trans (if_neg h21))
  have Biw_4 (hv0 : v_iw_0 = own_iw_0_4 p1) : Steps p.tables e below (s₁.setTop (mkF m 12 #[.val (.int p1)] [])) (s₁.setFrames fs) := by
    show Steps p.tables e below (s₁.setTop (mkF m 12 #[.val (.int p1)] [])) _
    refine XS.iloadN X0.here hx rfl (hb hby d17_12) rfl ?_
    show Steps p.tables e below (s₁.setTop (mkF m 13 #[.val (.int p1)] [(.int p1)])) _
    refine XS.bipush X0.here hx rfl (hb hby d17_13) ?_
    show Steps p.tables e below (s₁.setTop (mkF m 15 #[.val (.int p1)] [(.int (13 : Int32)), (.int p1)])) _
    by_cases h15 : p1 = (13 : Int32)
    · refine XS.icmpYes X0.here hx rfl (pc0 := 15) (pc' := 24) rfl (hb hby d17_15) rfl (teq h15).1 (by decide) (by decide) ?_
      exact Biw_1 (hv0.trans (if_pos h15))
    · refine XS.icmpNo X0.here hx rfl (hb hby d17_15) rfl (feq h15).1 ?_
      exact Biw_3 (hv0.trans (if_neg h15))
  have Biw_5 (hv0 : v_iw_0 = own_iw_0_5 p1) : Steps p.tables e below (s₁.setTop (mkF m 6 #[.val (.int p1)] [])) (s₁.setFrames fs) := by
    show Steps p.tables e below (s₁.setTop (mkF m 6 #[.val (.int p1)] [])) _
    refine XS.iloadN X0.here hx rfl (hb hby d17_6) rfl ?_
    show Steps p.tables e below (s₁.setTop (mkF m 7 #[.val (.int p1)] [(.int p1)])) _
    refine XS.bipush X0.here hx rfl (hb hby d17_7) ?_
    show Steps p.tables e below (s₁.setTop (mkF m 9 #[.val (.int p1)] [(.int (9 : Int32)), (.int p1)])) _
    by_cases h9 : p1 = (9 : Int32)
    · refine XS.icmpYes X0.here hx rfl (pc0 := 9) (pc' := 24) rfl (hb hby d17_9) rfl (teq h9).1 (by decide) (by decide) ?_
      exact Biw_1 (hv0.trans (if_pos h9))
    · refine XS.icmpNo X0.here hx rfl (hb hby d17_9) rfl (feq h9).1 ?_
      exact Biw_4 (hv0.trans (if_neg h9))
  have Biw_6 (hv0 : v_iw_0 = own_iw_0_6 p1) : Steps p.tables e below (s₁.setTop (mkF m 0 #[.val (.int p1)] [])) (s₁.setFrames fs) := by
    show Steps p.tables e below (s₁.setTop (mkF m 0 #[.val (.int p1)] [])) _
    refine XS.iloadN X0.here hx rfl (hb hby d17_0) rfl ?_
    show Steps p.tables e below (s₁.setTop (mkF m 1 #[.val (.int p1)] [(.int p1)])) _
    refine XS.bipush X0.here hx rfl (hb hby d17_1) ?_
    show Steps p.tables e below (s₁.setTop (mkF m 3 #[.val (.int p1)] [(.int (32 : Int32)), (.int p1)])) _
    by_cases h3 : p1 = (32 : Int32)
    · refine XS.icmpYes X0.here hx rfl (pc0 := 3) (pc' := 24) rfl (hb hby d17_3) rfl (teq h3).1 (by decide) (by decide) ?_
      exact Biw_1 (hv0.trans (if_pos h3))
    · refine XS.icmpNo X0.here hx rfl (hb hby d17_3) rfl (feq h3).1 ?_
      exact Biw_5 (hv0.trans (if_neg h3))
  have pre1 : Steps p.tables e below _ (s₁.setFrames fs) := pre0.trans (Biw_6 h_v_iw_0)
  refine ⟨_, _, pre1, hrun, hended, _, _, rfl, ?_, ⟨_, rfl⟩, hW, hsame.mono (by decide) (by decide)⟩
  exact ⟨by rw [h_v_iw_0], N0, e0⟩
theorem d20_0 : decode jdk_52_method_3_code 0 = .ok (.iload_n 0, 1) := by decide +kernel
theorem d20_1 : decode jdk_52_method_3_code 1 = .ok (.ifCond .ge 11, 3) := by decide +kernel
theorem d20_12 : decode jdk_52_method_3_code 12 = .ok (.iload_n 0, 1) := by decide +kernel
theorem d20_13 : decode jdk_52_method_3_code 13 = .ok (.ldc 20, 2) := by decide +kernel
theorem d20_15 : decode jdk_52_method_3_code 15 = .ok (.if_icmp .lt 40, 3) := by decide +kernel
theorem d20_55 : decode jdk_52_method_3_code 55 = .ok (.iload_n 0, 1) := by decide +kernel
theorem d20_56 : decode jdk_52_method_3_code 56 = .ok (.iconst 1, 1) := by decide +kernel
theorem d20_57 : decode jdk_52_method_3_code 57 = .ok (.ishl, 1) := by decide +kernel
theorem d20_58 : decode jdk_52_method_3_code 58 = .ok (.ireturn, 1) := by decide +kernel
theorem pn_rmNL : plainName "java/lang/StringUTF16" = true := by first | (simp [plainName, overriddenIn]; done) | decide +kernel
theorem ef_rmNL (m : MethodId) (p1 : Int32) : entryFrame m #[(.int p1)] 1 = (mkF m 0 #[.val (.int p1)] []) := by first | (simp [entryFrame, mkF, argsToLocals, Value.category]; done) | rfl
def Q_rmNL (Z : State) (p1 : Int32)  (h0 : Heap) (n0 : Nat) (v : Option Value) (h : Heap) (L : List Loc) : Prop := v = some (.int (p1 <<< ((1 : Int32) &&& 31))) ∧ Fr n0 L ∧ h = h0
set_option maxRecDepth 65536 in
set_option maxHeartbeats 40000000 in
theorem rmNL (l : Launch) (Z : State) (a0 : Array Value) (hw : ∀ d ∈ tables_1, d.before a0 Z = true) (ws : List Jvm.Cond) (p1 : Int32)  (h0 : Heap) (n0 : Nat) (Z0 : n0 ≤ h0.size) (u1 : ¬ p1 < (0 : Int32)) (u2 : p1 < (1073741823 : Int32)) :
    MetFree l (⟨"java/lang/StringUTF16", "newBytesLength", "(I)I"⟩ : MethodName) (head1 (Jvm.Cond.code (⟨"java/lang/StringUTF16", "newBytesLength", "(I)I"⟩ : MethodName) jdk_52_method_3_code 1 (some .int) :: ws) ({ frames := 0, cells := 0, slots := 0, locals := 0 } : Room)) (fun a U => a = #[(.int p1)] ∧ Z.Warmed39 U.vm ∧ U.heap = h0) (fun _ _ _ _ _ => True) (fun _ U o U' => ∃ v L, o = .returned v ∧ Q_rmNL Z p1 h0 n0 v U'.heap L ∧ FrameEnd U o U' L ({ frames := 0, cells := 0, slots := 0, locals := 0 } : Room).cells ({ frames := 0, cells := 0, slots := 0, locals := 0 } : Room).slots) := by
  refine MetFree.of_bodySF (plainFor_of_name pn_rmNL) hisR ?_
  intro p e s m args below meth c s₁ Bd hml0 hP hK
  obtain ⟨rfl, hZ, hh⟩ := hP
  have hx := Bd.exec
  have hby := Bd.bytes
  have hml : c.maxLocals = 1 := hml0
  have hown : s.vm.findClass "java/lang/StringUTF16" = some m.cls := findClass_of_methodNamed Bd.named
  have hnm := (name_of_methodNamed Bd.named Bd.method).1
  have X0 : Stand p l e ({ frames := 0, cells := 0, slots := 0, locals := 0 } : Room) s m #[(.int p1)] below meth c s₁ [] 0 0 := Stand.of_body Bd
  have e0 : s₁.heap = h0 := by rw [← hh, Bd.state]; rfl
  have N0 := Fr.nil n0
  have pre0 : Steps p.tables e below (s₁.setTop (entryFrame m #[(.int p1)] 1)) (s₁.setTop (mkF m 0 #[.val (.int p1)] [])) := castTop (ef_rmNL m p1) (Steps.refl _)
  have pre1 : Steps p.tables e below _ (s₁.setTop (mkF m 58 #[.val (.int p1)] [(.int (p1 <<< ((1 : Int32) &&& 31)))])) := pre0.trans (by
    show Steps p.tables e below (s₁.setTop (mkF m 0 #[.val (.int p1)] [])) _
    refine XS.iloadN X0.here hx rfl (hb hby d20_0) rfl ?_
    show Steps p.tables e below (s₁.setTop (mkF m 1 #[.val (.int p1)] [(.int p1)])) _
    refine XS.ifYes X0.here hx rfl (pc0 := 1) (pc' := 12) rfl (hb hby d20_1) rfl ((if0 _ _).trans (flt u1).2.1) (by decide) (by decide) ?_
    show Steps p.tables e below (s₁.setTop (mkF m 12 #[.val (.int p1)] [])) _
    refine XS.iloadN X0.here hx rfl (hb hby d20_12) rfl ?_
    show Steps p.tables e below (s₁.setTop (mkF m 13 #[.val (.int p1)] [(.int p1)])) _
    refine X0.ldcInt hx hown (mvT hZ (hw _ (List.mem_of_getElem? (i := 89) rfl))) (g := (mkF m 13 #[.val (.int p1)] [(.int p1)])) rfl (hb hby d20_13) _ ?_
    show Steps p.tables e below (s₁.setTop (mkF m 15 #[.val (.int p1)] [(.int (1073741823 : Int32)), (.int p1)])) _
    refine XS.icmpYes X0.here hx rfl (pc0 := 15) (pc' := 55) rfl (hb hby d20_15) rfl (tlt u2).1 (by decide) (by decide) ?_
    show Steps p.tables e below (s₁.setTop (mkF m 55 #[.val (.int p1)] [])) _
    refine XS.iloadN X0.here hx rfl (hb hby d20_55) rfl ?_
    show Steps p.tables e below (s₁.setTop (mkF m 56 #[.val (.int p1)] [(.int p1)])) _
    refine XS.iconst X0.here hx rfl (hb hby d20_56) ?_
    show Steps p.tables e below (s₁.setTop (mkF m 57 #[.val (.int p1)] [(.int (1 : Int32)), (.int p1)])) _
    refine XS.ishl X0.here hx rfl (hb hby d20_57) rfl ?_
    exact Steps.refl _)
  obtain ⟨fs, hr, hrun, hended, hW, hsame⟩ := X0.leave (v := some (.int (p1 <<< ((1 : Int32) &&& 31)))) (fun h => by rw [Bd.returns] at h; cases h)
  refine ⟨_, _, pre1.trans ?_, hrun, hended, _, _, rfl, ?_, ⟨_, rfl⟩, hW, hsame.mono (by decide) (by decide)⟩
  · exact retI X0 hx Bd.returns (hb hby d20_58) hr
  · exact ⟨rfl, N0, e0⟩
theorem d19_0 : decode jdk_52_method_2_code 0 = .ok (.iload_n 0, 1) := by decide +kernel
theorem d19_1 : decode jdk_52_method_2_code 1 = .ok (.invokestatic 11, 3) := by decide +kernel
theorem d19_4 : decode jdk_52_method_2_code 4 = .ok (.newarray .byte, 2) := by decide +kernel
theorem d19_6 : decode jdk_52_method_2_code 6 = .ok (.areturn, 1) := by decide +kernel
theorem pn_rmNF : plainName "java/lang/StringUTF16" = true := by first | (simp [plainName, overriddenIn]; done) | decide +kernel
theorem pd_rmNF_0 : parseMethodDescriptor "(I)I" = some ⟨[.int], some .int⟩ := by decide +kernel
theorem ef_rmNF (m : MethodId) (p1 : Int32) : entryFrame m #[(.int p1)] 1 = (mkF m 0 #[.val (.int p1)] []) := by first | (simp [entryFrame, mkF, argsToLocals, Value.category]; done) | rfl
def Q_rmNF (Z : State) (p1 : Int32) (m2 : Int32) (h0 : Heap) (n0 : Nat) (v : Option Value) (h : Heap) (L : List Loc) : Prop := v = some (.ref h0.size) ∧ Fr n0 L ∧ Ext h0 h ∧ Far Z h h0.size .byte m2 (fun _ => 0)
set_option maxRecDepth 65536 in
set_option maxHeartbeats 40000000 in
theorem rmNF (l : Launch) (Z : State) (a0 : Array Value) (hw : ∀ d ∈ tables_1, d.before a0 Z = true) (ws : List Jvm.Cond) (p1 : Int32) (m2 : Int32) (h0 : Heap) (n0 : Nat) (Z0 : n0 ≤ h0.size) (u1 : ¬ p1 < (0 : Int32)) (u2 : p1 < (1073741823 : Int32)) (hm : p1 <<< ((1 : Int32) &&& 31) = m2) (u3 : ¬ m2 < 0) (u4 : m2.toNatClampNeg ≤ 8) :
    MetFree l (⟨"java/lang/StringUTF16", "newBytesFor", "(I)[B"⟩ : MethodName) (head1 (Jvm.Cond.code (⟨"java/lang/StringUTF16", "newBytesFor", "(I)[B"⟩ : MethodName) jdk_52_method_2_code 1 (some (.array .byte)) :: ws) ({ frames := 1, cells := 1, slots := 8, locals := 12 } : Room)) (fun a U => a = #[(.int p1)] ∧ Z.Warmed39 U.vm ∧ U.heap = h0) (fun _ _ _ _ _ => True) (fun _ U o U' => ∃ v L, o = .returned v ∧ Q_rmNF Z p1 m2 h0 n0 v U'.heap L ∧ FrameEnd U o U' L ({ frames := 1, cells := 1, slots := 8, locals := 12 } : Room).cells ({ frames := 1, cells := 1, slots := 8, locals := 12 } : Room).slots) := by
  refine MetFree.of_bodySF (plainFor_of_name pn_rmNF) hisR ?_
  intro p e s m args below meth c s₁ Bd hml0 hP hK
  obtain ⟨rfl, hZ, hh⟩ := hP
  have hx := Bd.exec
  have hby := Bd.bytes
  have hml : c.maxLocals = 1 := hml0
  have hown : s.vm.findClass "java/lang/StringUTF16" = some m.cls := findClass_of_methodNamed Bd.named
  have hnm := (name_of_methodNamed Bd.named Bd.method).1
  have X0 : Stand p l e ({ frames := 1, cells := 1, slots := 8, locals := 12 } : Room) s m #[(.int p1)] below meth c s₁ [] 0 0 := Stand.of_body Bd
  have e0 : s₁.heap = h0 := by rw [← hh, Bd.state]; rfl
  have N0 := Fr.nil n0
  have pre0 : Steps p.tables e below (s₁.setTop (entryFrame m #[(.int p1)] 1)) (s₁.setTop (mkF m 0 #[.val (.int p1)] [])) := castTop (ef_rmNF m p1) (Steps.refl _)
  have pre1 : Steps p.tables e below _ (s₁.setTop (mkF m 1 #[.val (.int p1)] [(.int p1)])) := pre0.trans (by
    show Steps p.tables e below (s₁.setTop (mkF m 0 #[.val (.int p1)] [])) _
    refine XS.iloadN X0.here hx rfl (hb hby d19_0) rfl ?_
    exact Steps.refl _)
  obtain ⟨_, _, ⟨T2, L2, k2, n2⟩, -, X2, ⟨Lc2, hQ2, l2, y2, z2⟩, st2⟩ := Jvm.LawKit.callS X0 hx (y := (⟨"java/lang/StringUTF16", "newBytesLength", "(I)I"⟩ : MethodName)) hown (mvT hZ (hw _ (List.mem_of_getElem? (i := 86) rfl))) (mvT hZ (hw _ (List.mem_of_getElem? (i := 87) rfl))) (mvT hZ (hw _ (List.mem_of_getElem? (i := 44) rfl))) (mvT hZ (hw _ (List.mem_of_getElem? (i := 88) rfl))) (by decide) (backOf (W := 0) (rmNL l Z a0 hw [] p1 h0 n0 Z0 u1 u2) hZ (hw _ (List.mem_of_getElem? (i := 88) rfl)) (hw _ (List.mem_of_getElem? (i := 44) rfl)) (by decide) (by decide)) (g := (mkF m 1 #[.val (.int p1)] [(.int p1)])) rfl (by rw [hml]; rfl) (argsL := [(.int p1)]) (rest := []) (lenOf pd_rmNF_0 rfl) rfl (by show 2 * 0 + _ ≤ _; exact Nat.le_of_eq rfl) (hb hby d19_1) (fun _ _ => ⟨rfl, e0, (by decide : 0 + 0 ≤ _), (by decide : 0 + 0 ≤ _)⟩)
  dsimp only [Pt.U, Pt.locs, Pt.cells, Pt.slots] at X2 l2 y2 z2 st2 hQ2
  subst l2 y2 z2
  obtain ⟨rfl, N2q, hh2⟩ := hQ2
  have N2 := Fr.app N0 N2q
  have pre2 : Steps p.tables e below _ (T2.setTop (mkF m 4 #[.val (.int p1)] [(.int (p1 <<< ((1 : Int32) &&& 31)))])) := pre1.trans (st2 _ (Steps.refl _))
  rw [hm] at pre2
  obtain ⟨T3, h3, k3, X3, e3, E3, A3, st3⟩ := newP X2 hx hZ (hw _ (List.mem_of_getElem? (i := 20) rfl)) hh2 (g := (mkF m 4 #[.val (.int p1)] [(.int m2)])) rfl (hb hby d19_4) rfl u3 (cap := 8) u4 (by decide) (by decide) (by decide)
  obtain ⟨bb, g3⟩ : ∃ z, z = h0.size := ⟨_, rfl⟩
  rw [← g3] at A3 st3
  have g_bb : n0 ≤ bb := Nat.le_trans Z0 (Nat.le_of_eq g3.symm)
  have lt_bb : bb < h3.size := A3.lt
  have F3 : Far Z h3 bb .byte m2 (fun _ => 0) := Far.new A3 u3 rfl
  have Z3 : n0 ≤ h3.size := Nat.le_trans Z0 E3.1
  have pre3 : Steps p.tables e below _ (T3.setTop (mkF m 6 #[.val (.int p1)] [(.ref bb)])) := pre2.trans (st3 _ (Steps.refl _))
  obtain ⟨fs, hr, hrun, hended, hW, hsame⟩ := X3.leave (v := some (.ref bb)) (fun h => by rw [Bd.returns] at h; cases h)
  refine ⟨_, _, pre3.trans ?_, hrun, hended, _, _, rfl, ?_, ⟨_, rfl⟩, hW, hsame.mono (by decide) (by decide)⟩
  · exact X3.areturnOut hx rfl Bd.returns rfl (hb hby d19_6) hr
  · exact ⟨by rw [g3], N2, by show Ext h0 T3.heap; rw [e3]; exact E3, by show Far Z T3.heap _ _ _ _; rw [e3, ← g3]; exact F3⟩
theorem d21_0 : decode jdk_52_method_4_code 0 = .ok (.getstatic 44, 3) := by decide +kernel
theorem d21_3 : decode jdk_52_method_4_code 3 = .ok (.ifCond .ne 25, 3) := by decide +kernel
theorem d21_28 : decode jdk_52_method_4_code 28 = .ok (.iload_n 1, 1) := by decide +kernel
theorem d21_29 : decode jdk_52_method_4_code 29 = .ok (.iconst 1, 1) := by decide +kernel
theorem d21_30 : decode jdk_52_method_4_code 30 = .ok (.ishl, 1) := by decide +kernel
theorem d21_31 : decode jdk_52_method_4_code 31 = .ok (.istore_n 1, 1) := by decide +kernel
theorem d21_32 : decode jdk_52_method_4_code 32 = .ok (.aload_n 0, 1) := by decide +kernel
theorem d21_33 : decode jdk_52_method_4_code 33 = .ok (.iload_n 1, 1) := by decide +kernel
theorem d21_34 : decode jdk_52_method_4_code 34 = .ok (.iinc 1 1, 3) := by decide +kernel
theorem d21_37 : decode jdk_52_method_4_code 37 = .ok (.iload_n 2, 1) := by decide +kernel
theorem d21_38 : decode jdk_52_method_4_code 38 = .ok (.getstatic 59, 3) := by decide +kernel
theorem d21_41 : decode jdk_52_method_4_code 41 = .ok (.ishr, 1) := by decide +kernel
theorem d21_42 : decode jdk_52_method_4_code 42 = .ok (.i2b, 1) := by decide +kernel
theorem d21_43 : decode jdk_52_method_4_code 43 = .ok (.bastore, 1) := by decide +kernel
theorem d21_44 : decode jdk_52_method_4_code 44 = .ok (.aload_n 0, 1) := by decide +kernel
theorem d21_45 : decode jdk_52_method_4_code 45 = .ok (.iload_n 1, 1) := by decide +kernel
theorem d21_46 : decode jdk_52_method_4_code 46 = .ok (.iload_n 2, 1) := by decide +kernel
theorem d21_47 : decode jdk_52_method_4_code 47 = .ok (.getstatic 63, 3) := by decide +kernel
theorem d21_50 : decode jdk_52_method_4_code 50 = .ok (.ishr, 1) := by decide +kernel
theorem d21_51 : decode jdk_52_method_4_code 51 = .ok (.i2b, 1) := by decide +kernel
theorem d21_52 : decode jdk_52_method_4_code 52 = .ok (.bastore, 1) := by decide +kernel
theorem d21_53 : decode jdk_52_method_4_code 53 = .ok (.return_, 1) := by decide +kernel
theorem pn_rmPC : plainName "java/lang/StringUTF16" = true := by first | (simp [plainName, overriddenIn]; done) | decide +kernel
theorem ef_rmPC (m : MethodId) (a1 : Addr) (p2 : Int32) (p3 : Int32) : entryFrame m #[(.ref a1), (.int p2), (.int p3)] 3 = (mkF m 0 #[.val (.ref a1), .val (.int p2), .val (.int p3)] []) := by first | (simp [entryFrame, mkF, argsToLocals, Value.category]; done) | rfl
def Q_rmPC (Z : State) (a1 : Addr) (p2 : Int32) (p3 : Int32) (m2 i2 : Int32) (g : Nat → Int32) (h0 : Heap) (n0 : Nat) (v : Option Value) (h : Heap) (L : List Loc) : Prop := v = none ∧ Fr n0 L ∧ Keep h0 h [a1] ∧ Far Z h a1 .byte m2 (fun k => if k = (i2 + (1 : Int32)).toNatClampNeg then own_h p3 else if k = i2.toNatClampNeg then own_l p3 else g k)
set_option maxRecDepth 65536 in
set_option maxHeartbeats 40000000 in
theorem rmPC (l : Launch) (Z : State) (a0 : Array Value) (hw : ∀ d ∈ tables_1, d.before a0 Z = true) (ws : List Jvm.Cond) (a1 : Addr) (p2 : Int32) (p3 : Int32) (m2 i2 : Int32) (g : Nat → Int32) (h0 : Heap) (n0 : Nat) (Z0 : n0 ≤ h0.size) (SA : Sta Z h0 "java/lang/StringUTF16" "$assertionsDisabled" "Z" (.int (1 : Int32))) (SH : Sta Z h0 "java/lang/StringUTF16" "HI_BYTE_SHIFT" "I" (.int (0 : Int32))) (SL : Sta Z h0 "java/lang/StringUTF16" "LO_BYTE_SHIFT" "I" (.int (8 : Int32))) (FB : Far Z h0 a1 .byte m2 g) (hi : p2 <<< ((1 : Int32) &&& 31) = i2) (hl : ¬ i2 < 0 ∧ i2 < m2) (hl2 : ¬ (i2 + (1 : Int32)) < 0 ∧ (i2 + (1 : Int32)) < m2) (g_a1 : n0 ≤ a1) :
    MetFree l (⟨"java/lang/StringUTF16", "putChar", "([BII)V"⟩ : MethodName) (head1 (Jvm.Cond.code (⟨"java/lang/StringUTF16", "putChar", "([BII)V"⟩ : MethodName) jdk_52_method_4_code 3 none :: ws) ({ frames := 0, cells := 0, slots := 0, locals := 0 } : Room)) (fun a U => a = #[(.ref a1), (.int p2), (.int p3)] ∧ Z.Warmed39 U.vm ∧ U.heap = h0) (fun _ _ _ _ _ => True) (fun _ U o U' => ∃ v L, o = .returned v ∧ Q_rmPC Z a1 p2 p3 m2 i2 g h0 n0 v U'.heap L ∧ FrameEnd U o U' L ({ frames := 0, cells := 0, slots := 0, locals := 0 } : Room).cells ({ frames := 0, cells := 0, slots := 0, locals := 0 } : Room).slots) := by
  refine MetFree.of_bodySF (plainFor_of_name pn_rmPC) hisR ?_
  intro p e s m args below meth c s₁ Bd hml0 hP hK
  obtain ⟨rfl, hZ, hh⟩ := hP
  have hx := Bd.exec
  have hby := Bd.bytes
  have hml : c.maxLocals = 3 := hml0
  have hown : s.vm.findClass "java/lang/StringUTF16" = some m.cls := findClass_of_methodNamed Bd.named
  have hnm := (name_of_methodNamed Bd.named Bd.method).1
  have X0 : Stand p l e ({ frames := 0, cells := 0, slots := 0, locals := 0 } : Room) s m #[(.ref a1), (.int p2), (.int p3)] below meth c s₁ [] 0 0 := Stand.of_body Bd
  have e0 : s₁.heap = h0 := by rw [← hh, Bd.state]; rfl
  have N0 := Fr.nil n0
  have pre0 : Steps p.tables e below (s₁.setTop (entryFrame m #[(.ref a1), (.int p2), (.int p3)] 3)) (s₁.setTop (mkF m 0 #[.val (.ref a1), .val (.int p2), .val (.int p3)] [])) := castTop (ef_rmPC m a1 p2 p3) (Steps.refl _)
  obtain ⟨T1, X1, e1, st1⟩ := getS (host := "") X0 hx hZ hown (hw _ (List.mem_of_getElem? (i := 93) rfl)) Via.refl e0 SA (g := (mkF m 0 #[.val (.ref a1), .val (.int p2), .val (.int p3)] [])) rfl (hb hby d21_0)
  have pre1 : Steps p.tables e below _ (T1.setTop (mkF m 3 #[.val (.ref a1), .val (.int p2), .val (.int p3)] [(.int (1 : Int32))])) := pre0.trans (st1 _ (Steps.refl _))
  have pre2 : Steps p.tables e below _ (T1.setTop (mkF m 31 #[.val (.ref a1), .val (.int p2), .val (.int p3)] [(.int (p2 <<< ((1 : Int32) &&& 31)))])) := pre1.trans (by
    show Steps p.tables e below (T1.setTop (mkF m 3 #[.val (.ref a1), .val (.int p2), .val (.int p3)] [(.int (1 : Int32))])) _
    refine XS.ifYes X1.here hx rfl (pc0 := 3) (pc' := 28) rfl (hb hby d21_3) rfl ((if0 _ _).trans (feq (by decide : ¬ (1 : Int32) = 0)).2) (by decide) (by decide) ?_
    show Steps p.tables e below (T1.setTop (mkF m 28 #[.val (.ref a1), .val (.int p2), .val (.int p3)] [])) _
    refine XS.iloadN X1.here hx rfl (hb hby d21_28) rfl ?_
    show Steps p.tables e below (T1.setTop (mkF m 29 #[.val (.ref a1), .val (.int p2), .val (.int p3)] [(.int p2)])) _
    refine XS.iconst X1.here hx rfl (hb hby d21_29) ?_
    show Steps p.tables e below (T1.setTop (mkF m 30 #[.val (.ref a1), .val (.int p2), .val (.int p3)] [(.int (1 : Int32)), (.int p2)])) _
    refine XS.ishl X1.here hx rfl (hb hby d21_30) rfl ?_
    exact Steps.refl _)
  rw [hi] at pre2
  have pre3 : Steps p.tables e below _ (T1.setTop (mkF m 38 #[.val (.ref a1), .val (.int (i2 + (1 : Int32))), .val (.int p3)] [(.int p3), (.int i2), (.ref a1)])) := pre2.trans (by
    show Steps p.tables e below (T1.setTop (mkF m 31 #[.val (.ref a1), .val (.int p2), .val (.int p3)] [(.int i2)])) _
    refine XS.istoreN X1.here hx rfl (hb hby d21_31) rfl (l' := #[.val (.ref a1), .val (.int i2), .val (.int p3)]) rfl ?_
    show Steps p.tables e below (T1.setTop (mkF m 32 #[.val (.ref a1), .val (.int i2), .val (.int p3)] [])) _
    refine XS.aloadN X1.here hx rfl (hb hby d21_32) rfl rfl ?_
    show Steps p.tables e below (T1.setTop (mkF m 33 #[.val (.ref a1), .val (.int i2), .val (.int p3)] [(.ref a1)])) _
    refine XS.iloadN X1.here hx rfl (hb hby d21_33) rfl ?_
    show Steps p.tables e below (T1.setTop (mkF m 34 #[.val (.ref a1), .val (.int i2), .val (.int p3)] [(.int i2), (.ref a1)])) _
    refine XS.iinc X1.here hx rfl (hb hby d21_34) rfl (l' := #[.val (.ref a1), .val (.int (i2 + (1 : Int32))), .val (.int p3)]) rfl ?_
    show Steps p.tables e below (T1.setTop (mkF m 37 #[.val (.ref a1), .val (.int (i2 + (1 : Int32))), .val (.int p3)] [(.int i2), (.ref a1)])) _
    refine XS.iloadN X1.here hx rfl (hb hby d21_37) rfl ?_
    exact Steps.refl _)
  obtain ⟨T4, X4, e4, st4⟩ := getS (host := "") X1 hx hZ hown (hw _ (List.mem_of_getElem? (i := 94) rfl)) Via.refl e1 SH (g := (mkF m 38 #[.val (.ref a1), .val (.int (i2 + (1 : Int32))), .val (.int p3)] [(.int p3), (.int i2), (.ref a1)])) rfl (hb hby d21_38)
  have pre4 : Steps p.tables e below _ (T4.setTop (mkF m 41 #[.val (.ref a1), .val (.int (i2 + (1 : Int32))), .val (.int p3)] [(.int (0 : Int32)), (.int p3), (.int i2), (.ref a1)])) := pre3.trans (st4 _ (Steps.refl _))
  have pre5 : Steps p.tables e below _ (T4.setTop (mkF m 43 #[.val (.ref a1), .val (.int (i2 + (1 : Int32))), .val (.int p3)] [(.int ((p3 >>> ((0 : Int32) &&& 31)).toInt8.toInt32)), (.int i2), (.ref a1)])) := pre4.trans (by
    show Steps p.tables e below (T4.setTop (mkF m 41 #[.val (.ref a1), .val (.int (i2 + (1 : Int32))), .val (.int p3)] [(.int (0 : Int32)), (.int p3), (.int i2), (.ref a1)])) _
    refine XS.ishr X4.here hx rfl (hb hby d21_41) rfl ?_
    show Steps p.tables e below (T4.setTop (mkF m 42 #[.val (.ref a1), .val (.int (i2 + (1 : Int32))), .val (.int p3)] [(.int (p3 >>> ((0 : Int32) &&& 31))), (.int i2), (.ref a1)])) _
    refine XS.i2b X4.here hx rfl (hb hby d21_42) rfl ?_
    exact Steps.refl _)
  have e1 : ((p3 >>> ((0 : Int32) &&& 31)).toInt8.toInt32) = own_l p3 := by rw [own_sh0]; rfl
  rw [e1] at pre5
  obtain ⟨cl6, Ar6, S6, M6, H6⟩ := id FB
  have hin6 : ¬ (i2 < 0 ∨ cl6.slots.size ≤ (i2).toNatClampNeg) := inb_of S6 hl
  obtain ⟨T6, h6, X6, e6, W6, st6⟩ := stB X4 hx hZ e4 Ar6 (j := i2) hin6 (g := (mkF m 43 #[.val (.ref a1), .val (.int (i2 + (1 : Int32))), .val (.int p3)] [(.int (own_l p3)), (.int i2), (.ref a1)])) rfl rfl (hb hby d21_43)
  have F6 := Far.set Ar6 S6 M6 H6 W6
  have N6 := Fr.snoc X6 N0 g_a1
  have Z6 : n0 ≤ h6.size := Nat.le_trans Z0 (Keep.of_wr W6).1
  have pre6 : Steps p.tables e below _ (T6.setTop (mkF m 44 #[.val (.ref a1), .val (.int (i2 + (1 : Int32))), .val (.int p3)] [])) := pre5.trans (st6 _ (Steps.refl _))
  have pre7 : Steps p.tables e below _ (T6.setTop (mkF m 47 #[.val (.ref a1), .val (.int (i2 + (1 : Int32))), .val (.int p3)] [(.int p3), (.int (i2 + (1 : Int32))), (.ref a1)])) := pre6.trans (by
    show Steps p.tables e below (T6.setTop (mkF m 44 #[.val (.ref a1), .val (.int (i2 + (1 : Int32))), .val (.int p3)] [])) _
    refine XS.aloadN X6.here hx rfl (hb hby d21_44) rfl rfl ?_
    show Steps p.tables e below (T6.setTop (mkF m 45 #[.val (.ref a1), .val (.int (i2 + (1 : Int32))), .val (.int p3)] [(.ref a1)])) _
    refine XS.iloadN X6.here hx rfl (hb hby d21_45) rfl ?_
    show Steps p.tables e below (T6.setTop (mkF m 46 #[.val (.ref a1), .val (.int (i2 + (1 : Int32))), .val (.int p3)] [(.int (i2 + (1 : Int32))), (.ref a1)])) _
    refine XS.iloadN X6.here hx rfl (hb hby d21_46) rfl ?_
    exact Steps.refl _)
  obtain ⟨T8, X8, e8, st8⟩ := getS (host := "") X6 hx hZ hown (hw _ (List.mem_of_getElem? (i := 95) rfl)) Via.refl e6 (SL.wr W6) (g := (mkF m 47 #[.val (.ref a1), .val (.int (i2 + (1 : Int32))), .val (.int p3)] [(.int p3), (.int (i2 + (1 : Int32))), (.ref a1)])) rfl (hb hby d21_47)
  have pre8 : Steps p.tables e below _ (T8.setTop (mkF m 50 #[.val (.ref a1), .val (.int (i2 + (1 : Int32))), .val (.int p3)] [(.int (8 : Int32)), (.int p3), (.int (i2 + (1 : Int32))), (.ref a1)])) := pre7.trans (st8 _ (Steps.refl _))
  have pre9 : Steps p.tables e below _ (T8.setTop (mkF m 52 #[.val (.ref a1), .val (.int (i2 + (1 : Int32))), .val (.int p3)] [(.int ((p3 >>> ((8 : Int32) &&& 31)).toInt8.toInt32)), (.int (i2 + (1 : Int32))), (.ref a1)])) := pre8.trans (by
    show Steps p.tables e below (T8.setTop (mkF m 50 #[.val (.ref a1), .val (.int (i2 + (1 : Int32))), .val (.int p3)] [(.int (8 : Int32)), (.int p3), (.int (i2 + (1 : Int32))), (.ref a1)])) _
    refine XS.ishr X8.here hx rfl (hb hby d21_50) rfl ?_
    show Steps p.tables e below (T8.setTop (mkF m 51 #[.val (.ref a1), .val (.int (i2 + (1 : Int32))), .val (.int p3)] [(.int (p3 >>> ((8 : Int32) &&& 31))), (.int (i2 + (1 : Int32))), (.ref a1)])) _
    refine XS.i2b X8.here hx rfl (hb hby d21_51) rfl ?_
    exact Steps.refl _)
  have e2 : ((p3 >>> ((8 : Int32) &&& 31)).toInt8.toInt32) = own_h p3 := rfl
  rw [e2] at pre9
  obtain ⟨cl10, Ar10, S10, M10, H10⟩ := id F6
  have hin10 : ¬ ((i2 + (1 : Int32)) < 0 ∨ cl10.slots.size ≤ ((i2 + (1 : Int32))).toNatClampNeg) := inb_of S10 hl2
  obtain ⟨T10, h10, X10, e10, W10, st10⟩ := stB X8 hx hZ e8 Ar10 (j := (i2 + (1 : Int32))) hin10 (g := (mkF m 52 #[.val (.ref a1), .val (.int (i2 + (1 : Int32))), .val (.int p3)] [(.int (own_h p3)), (.int (i2 + (1 : Int32))), (.ref a1)])) rfl rfl (hb hby d21_52)
  have F10 := Far.set Ar10 S10 M10 H10 W10
  have N10 := Fr.snoc X10 N6 g_a1
  have Z10 : n0 ≤ h10.size := Nat.le_trans Z6 (Keep.of_wr W10).1
  have pre10 : Steps p.tables e below _ (T10.setTop (mkF m 53 #[.val (.ref a1), .val (.int (i2 + (1 : Int32))), .val (.int p3)] [])) := pre9.trans (st10 _ (Steps.refl _))
  have KK : Keep h0 h10 [a1] := ((Keep.refl h0 [a1]).wr W6 (Or.inl (List.mem_singleton.mpr rfl))).wr W10 (Or.inl (List.mem_singleton.mpr rfl))
  have FF : Far Z h10 a1 .byte m2 (fun k => if k = (i2 + (1 : Int32)).toNatClampNeg then own_h p3 else if k = i2.toNatClampNeg then own_l p3 else g k) := F10.congr (fun k hk => by show (if k = (i2 + (1 : Int32)).toNatClampNeg then nar .byte (own_h p3) else if k = i2.toNatClampNeg then nar .byte (own_l p3) else g k) = _; rw [own_nb, own_nbh])
  obtain ⟨fs, hr, hrun, hended, hW, hsame⟩ := X10.leave (v := none) (fun h => by rfl)
  refine ⟨_, _, pre10.trans ?_, hrun, hended, _, _, rfl, ?_, ⟨_, rfl⟩, hW, hsame.mono (by decide) (by decide)⟩
  · exact X10.returnOut hx Bd.returns (hb hby d21_53) hr
  · exact ⟨rfl, N10, (by show Keep h0 T10.heap [a1]; rw [e10]; exact KK), (by show Far Z T10.heap _ _ _ _; rw [e10]; exact FF)⟩
theorem d22_0 : decode jdk_52_method_5_code 0 = .ok (.getstatic 44, 3) := by decide +kernel
theorem d22_3 : decode jdk_52_method_5_code 3 = .ok (.ifCond .ne 25, 3) := by decide +kernel
theorem d22_28 : decode jdk_52_method_5_code 28 = .ok (.iload_n 1, 1) := by decide +kernel
theorem d22_29 : decode jdk_52_method_5_code 29 = .ok (.iconst 1, 1) := by decide +kernel
theorem d22_30 : decode jdk_52_method_5_code 30 = .ok (.ishl, 1) := by decide +kernel
theorem d22_31 : decode jdk_52_method_5_code 31 = .ok (.istore_n 1, 1) := by decide +kernel
theorem d22_32 : decode jdk_52_method_5_code 32 = .ok (.aload_n 0, 1) := by decide +kernel
theorem d22_33 : decode jdk_52_method_5_code 33 = .ok (.iload_n 1, 1) := by decide +kernel
theorem d22_34 : decode jdk_52_method_5_code 34 = .ok (.iinc 1 1, 3) := by decide +kernel
theorem d22_37 : decode jdk_52_method_5_code 37 = .ok (.baload, 1) := by decide +kernel
theorem d22_38 : decode jdk_52_method_5_code 38 = .ok (.sipush 255, 3) := by decide +kernel
theorem d22_41 : decode jdk_52_method_5_code 41 = .ok (.iand, 1) := by decide +kernel
theorem d22_42 : decode jdk_52_method_5_code 42 = .ok (.getstatic 59, 3) := by decide +kernel
theorem d22_45 : decode jdk_52_method_5_code 45 = .ok (.ishl, 1) := by decide +kernel
theorem d22_46 : decode jdk_52_method_5_code 46 = .ok (.aload_n 0, 1) := by decide +kernel
theorem d22_47 : decode jdk_52_method_5_code 47 = .ok (.iload_n 1, 1) := by decide +kernel
theorem d22_48 : decode jdk_52_method_5_code 48 = .ok (.baload, 1) := by decide +kernel
theorem d22_49 : decode jdk_52_method_5_code 49 = .ok (.sipush 255, 3) := by decide +kernel
theorem d22_52 : decode jdk_52_method_5_code 52 = .ok (.iand, 1) := by decide +kernel
theorem d22_53 : decode jdk_52_method_5_code 53 = .ok (.getstatic 63, 3) := by decide +kernel
theorem d22_56 : decode jdk_52_method_5_code 56 = .ok (.ishl, 1) := by decide +kernel
theorem d22_57 : decode jdk_52_method_5_code 57 = .ok (.ior, 1) := by decide +kernel
theorem d22_58 : decode jdk_52_method_5_code 58 = .ok (.i2c, 1) := by decide +kernel
theorem d22_59 : decode jdk_52_method_5_code 59 = .ok (.ireturn, 1) := by decide +kernel
theorem pn_rmGC : plainName "java/lang/StringUTF16" = true := by first | (simp [plainName, overriddenIn]; done) | decide +kernel
theorem ef_rmGC (m : MethodId) (a1 : Addr) (p2 : Int32) : entryFrame m #[(.ref a1), (.int p2)] 2 = (mkF m 0 #[.val (.ref a1), .val (.int p2)] []) := by first | (simp [entryFrame, mkF, argsToLocals, Value.category]; done) | rfl
def Q_rmGC (Z : State) (a1 : Addr) (p2 : Int32) (m2 i2 ch : Int32) (g : Nat → Int32) (h0 : Heap) (n0 : Nat) (v : Option Value) (h : Heap) (L : List Loc) : Prop := v = some (.int ch) ∧ Fr n0 L ∧ h = h0
set_option maxRecDepth 65536 in
set_option maxHeartbeats 40000000 in
theorem rmGC (l : Launch) (Z : State) (a0 : Array Value) (hw : ∀ d ∈ tables_1, d.before a0 Z = true) (ws : List Jvm.Cond) (a1 : Addr) (p2 : Int32) (m2 i2 ch : Int32) (g : Nat → Int32) (h0 : Heap) (n0 : Nat) (Z0 : n0 ≤ h0.size) (SA : Sta Z h0 "java/lang/StringUTF16" "$assertionsDisabled" "Z" (.int (1 : Int32))) (SH : Sta Z h0 "java/lang/StringUTF16" "HI_BYTE_SHIFT" "I" (.int (0 : Int32))) (SL : Sta Z h0 "java/lang/StringUTF16" "LO_BYTE_SHIFT" "I" (.int (8 : Int32))) (FB : Far Z h0 a1 .byte m2 g) (hi : p2 <<< ((1 : Int32) &&& 31) = i2) (hl : ¬ i2 < 0 ∧ i2 < m2) (hl2 : ¬ (i2 + (1 : Int32)) < 0 ∧ (i2 + (1 : Int32)) < m2) (hg1 : g i2.toNatClampNeg = own_l ch) (hg2 : g (i2 + (1 : Int32)).toNatClampNeg = own_h ch) (hc0 : 0 ≤ ch.toInt) (hc1 : ch.toInt < 65536) :
    MetFree l (⟨"java/lang/StringUTF16", "getChar", "([BI)C"⟩ : MethodName) (head1 (Jvm.Cond.code (⟨"java/lang/StringUTF16", "getChar", "([BI)C"⟩ : MethodName) jdk_52_method_5_code 2 (some .char) :: ws) ({ frames := 0, cells := 0, slots := 0, locals := 0 } : Room)) (fun a U => a = #[(.ref a1), (.int p2)] ∧ Z.Warmed39 U.vm ∧ U.heap = h0) (fun _ _ _ _ _ => True) (fun _ U o U' => ∃ v L, o = .returned v ∧ Q_rmGC Z a1 p2 m2 i2 ch g h0 n0 v U'.heap L ∧ FrameEnd U o U' L ({ frames := 0, cells := 0, slots := 0, locals := 0 } : Room).cells ({ frames := 0, cells := 0, slots := 0, locals := 0 } : Room).slots) := by
  refine MetFree.of_bodySF (plainFor_of_name pn_rmGC) hisR ?_
  intro p e s m args below meth c s₁ Bd hml0 hP hK
  obtain ⟨rfl, hZ, hh⟩ := hP
  have hx := Bd.exec
  have hby := Bd.bytes
  have hml : c.maxLocals = 2 := hml0
  have hown : s.vm.findClass "java/lang/StringUTF16" = some m.cls := findClass_of_methodNamed Bd.named
  have hnm := (name_of_methodNamed Bd.named Bd.method).1
  have X0 : Stand p l e ({ frames := 0, cells := 0, slots := 0, locals := 0 } : Room) s m #[(.ref a1), (.int p2)] below meth c s₁ [] 0 0 := Stand.of_body Bd
  have e0 : s₁.heap = h0 := by rw [← hh, Bd.state]; rfl
  have N0 := Fr.nil n0
  have pre0 : Steps p.tables e below (s₁.setTop (entryFrame m #[(.ref a1), (.int p2)] 2)) (s₁.setTop (mkF m 0 #[.val (.ref a1), .val (.int p2)] [])) := castTop (ef_rmGC m a1 p2) (Steps.refl _)
  obtain ⟨cb, Ab, Sb, Mb, Hb⟩ := id FB
  obtain ⟨T1, X1, e1, st1⟩ := getS (host := "") X0 hx hZ hown (hw _ (List.mem_of_getElem? (i := 93) rfl)) Via.refl e0 SA (g := (mkF m 0 #[.val (.ref a1), .val (.int p2)] [])) rfl (hb hby d22_0)
  have pre1 : Steps p.tables e below _ (T1.setTop (mkF m 3 #[.val (.ref a1), .val (.int p2)] [(.int (1 : Int32))])) := pre0.trans (st1 _ (Steps.refl _))
  have pre2 : Steps p.tables e below _ (T1.setTop (mkF m 31 #[.val (.ref a1), .val (.int p2)] [(.int (p2 <<< ((1 : Int32) &&& 31)))])) := pre1.trans (by
    show Steps p.tables e below (T1.setTop (mkF m 3 #[.val (.ref a1), .val (.int p2)] [(.int (1 : Int32))])) _
    refine XS.ifYes X1.here hx rfl (pc0 := 3) (pc' := 28) rfl (hb hby d22_3) rfl ((if0 _ _).trans (feq (by decide : ¬ (1 : Int32) = 0)).2) (by decide) (by decide) ?_
    show Steps p.tables e below (T1.setTop (mkF m 28 #[.val (.ref a1), .val (.int p2)] [])) _
    refine XS.iloadN X1.here hx rfl (hb hby d22_28) rfl ?_
    show Steps p.tables e below (T1.setTop (mkF m 29 #[.val (.ref a1), .val (.int p2)] [(.int p2)])) _
    refine XS.iconst X1.here hx rfl (hb hby d22_29) ?_
    show Steps p.tables e below (T1.setTop (mkF m 30 #[.val (.ref a1), .val (.int p2)] [(.int (1 : Int32)), (.int p2)])) _
    refine XS.ishl X1.here hx rfl (hb hby d22_30) rfl ?_
    exact Steps.refl _)
  rw [hi] at pre2
  have hin1 := inb_of Sb hl
  have hin2 := inb_of Sb hl2
  have hat1 := own_at Hb hin1
  have hat2 := own_at Hb hin2
  rw [hg1] at hat1
  rw [hg2] at hat2
  have pre3 : Steps p.tables e below _ (T1.setTop (mkF m 42 #[.val (.ref a1), .val (.int (i2 + (1 : Int32)))] [(.int ((own_l ch) &&& (255 : Int32)))])) := pre2.trans (by
    show Steps p.tables e below (T1.setTop (mkF m 31 #[.val (.ref a1), .val (.int p2)] [(.int i2)])) _
    refine XS.istoreN X1.here hx rfl (hb hby d22_31) rfl (l' := #[.val (.ref a1), .val (.int i2)]) rfl ?_
    show Steps p.tables e below (T1.setTop (mkF m 32 #[.val (.ref a1), .val (.int i2)] [])) _
    refine XS.aloadN X1.here hx rfl (hb hby d22_32) rfl rfl ?_
    show Steps p.tables e below (T1.setTop (mkF m 33 #[.val (.ref a1), .val (.int i2)] [(.ref a1)])) _
    refine XS.iloadN X1.here hx rfl (hb hby d22_33) rfl ?_
    show Steps p.tables e below (T1.setTop (mkF m 34 #[.val (.ref a1), .val (.int i2)] [(.int i2), (.ref a1)])) _
    refine XS.iinc X1.here hx rfl (hb hby d22_34) rfl (l' := #[.val (.ref a1), .val (.int (i2 + (1 : Int32)))]) rfl ?_
    show Steps p.tables e below (T1.setTop (mkF m 37 #[.val (.ref a1), .val (.int (i2 + (1 : Int32)))] [(.int i2), (.ref a1)])) _
    refine X1.baloadBytes hx (j := i2) (v := (.int (own_l ch))) (by rw [e1]; exact Ab.1) (State.isArrayOf_alike hZ.alike Ab.2.1) Ab.2.2 hin1 hat1 (g := (mkF m 37 #[.val (.ref a1), .val (.int (i2 + (1 : Int32)))] [(.int i2), (.ref a1)])) rfl rfl (hb hby d22_37) _ ?_
    show Steps p.tables e below (T1.setTop (mkF m 38 #[.val (.ref a1), .val (.int (i2 + (1 : Int32)))] [(.int (own_l ch))])) _
    refine XS.sipush X1.here hx rfl (hb hby d22_38) ?_
    show Steps p.tables e below (T1.setTop (mkF m 41 #[.val (.ref a1), .val (.int (i2 + (1 : Int32)))] [(.int (255 : Int32)), (.int (own_l ch))])) _
    refine XS.iand X1.here hx rfl (hb hby d22_41) rfl ?_
    exact Steps.refl _)
  obtain ⟨T4, X4, e4, st4⟩ := getS (host := "") X1 hx hZ hown (hw _ (List.mem_of_getElem? (i := 94) rfl)) Via.refl e1 SH (g := (mkF m 42 #[.val (.ref a1), .val (.int (i2 + (1 : Int32)))] [(.int ((own_l ch) &&& (255 : Int32)))])) rfl (hb hby d22_42)
  have pre4 : Steps p.tables e below _ (T4.setTop (mkF m 45 #[.val (.ref a1), .val (.int (i2 + (1 : Int32)))] [(.int (0 : Int32)), (.int ((own_l ch) &&& (255 : Int32)))])) := pre3.trans (st4 _ (Steps.refl _))
  have pre5 : Steps p.tables e below _ (T4.setTop (mkF m 53 #[.val (.ref a1), .val (.int (i2 + (1 : Int32)))] [(.int ((own_h ch) &&& (255 : Int32))), (.int (((own_l ch) &&& (255 : Int32)) <<< ((0 : Int32) &&& 31)))])) := pre4.trans (by
    show Steps p.tables e below (T4.setTop (mkF m 45 #[.val (.ref a1), .val (.int (i2 + (1 : Int32)))] [(.int (0 : Int32)), (.int ((own_l ch) &&& (255 : Int32)))])) _
    refine XS.ishl X4.here hx rfl (hb hby d22_45) rfl ?_
    show Steps p.tables e below (T4.setTop (mkF m 46 #[.val (.ref a1), .val (.int (i2 + (1 : Int32)))] [(.int (((own_l ch) &&& (255 : Int32)) <<< ((0 : Int32) &&& 31)))])) _
    refine XS.aloadN X4.here hx rfl (hb hby d22_46) rfl rfl ?_
    show Steps p.tables e below (T4.setTop (mkF m 47 #[.val (.ref a1), .val (.int (i2 + (1 : Int32)))] [(.ref a1), (.int (((own_l ch) &&& (255 : Int32)) <<< ((0 : Int32) &&& 31)))])) _
    refine XS.iloadN X4.here hx rfl (hb hby d22_47) rfl ?_
    show Steps p.tables e below (T4.setTop (mkF m 48 #[.val (.ref a1), .val (.int (i2 + (1 : Int32)))] [(.int (i2 + (1 : Int32))), (.ref a1), (.int (((own_l ch) &&& (255 : Int32)) <<< ((0 : Int32) &&& 31)))])) _
    refine X4.baloadBytes hx (j := (i2 + (1 : Int32))) (v := (.int (own_h ch))) (by rw [e4]; exact Ab.1) (State.isArrayOf_alike hZ.alike Ab.2.1) Ab.2.2 hin2 hat2 (g := (mkF m 48 #[.val (.ref a1), .val (.int (i2 + (1 : Int32)))] [(.int (i2 + (1 : Int32))), (.ref a1), (.int (((own_l ch) &&& (255 : Int32)) <<< ((0 : Int32) &&& 31)))])) rfl rfl (hb hby d22_48) _ ?_
    show Steps p.tables e below (T4.setTop (mkF m 49 #[.val (.ref a1), .val (.int (i2 + (1 : Int32)))] [(.int (own_h ch)), (.int (((own_l ch) &&& (255 : Int32)) <<< ((0 : Int32) &&& 31)))])) _
    refine XS.sipush X4.here hx rfl (hb hby d22_49) ?_
    show Steps p.tables e below (T4.setTop (mkF m 52 #[.val (.ref a1), .val (.int (i2 + (1 : Int32)))] [(.int (255 : Int32)), (.int (own_h ch)), (.int (((own_l ch) &&& (255 : Int32)) <<< ((0 : Int32) &&& 31)))])) _
    refine XS.iand X4.here hx rfl (hb hby d22_52) rfl ?_
    exact Steps.refl _)
  obtain ⟨T6, X6, e6, st6⟩ := getS (host := "") X4 hx hZ hown (hw _ (List.mem_of_getElem? (i := 95) rfl)) Via.refl e4 SL (g := (mkF m 53 #[.val (.ref a1), .val (.int (i2 + (1 : Int32)))] [(.int ((own_h ch) &&& (255 : Int32))), (.int (((own_l ch) &&& (255 : Int32)) <<< ((0 : Int32) &&& 31)))])) rfl (hb hby d22_53)
  have pre6 : Steps p.tables e below _ (T6.setTop (mkF m 56 #[.val (.ref a1), .val (.int (i2 + (1 : Int32)))] [(.int (8 : Int32)), (.int ((own_h ch) &&& (255 : Int32))), (.int (((own_l ch) &&& (255 : Int32)) <<< ((0 : Int32) &&& 31)))])) := pre5.trans (st6 _ (Steps.refl _))
  have pre7 : Steps p.tables e below _ (T6.setTop (mkF m 58 #[.val (.ref a1), .val (.int (i2 + (1 : Int32)))] [(.int ((((own_l ch) &&& (255 : Int32)) <<< ((0 : Int32) &&& 31)) ||| (((own_h ch) &&& (255 : Int32)) <<< ((8 : Int32) &&& 31))))])) := pre6.trans (by
    show Steps p.tables e below (T6.setTop (mkF m 56 #[.val (.ref a1), .val (.int (i2 + (1 : Int32)))] [(.int (8 : Int32)), (.int ((own_h ch) &&& (255 : Int32))), (.int (((own_l ch) &&& (255 : Int32)) <<< ((0 : Int32) &&& 31)))])) _
    refine XS.ishl X6.here hx rfl (hb hby d22_56) rfl ?_
    show Steps p.tables e below (T6.setTop (mkF m 57 #[.val (.ref a1), .val (.int (i2 + (1 : Int32)))] [(.int (((own_h ch) &&& (255 : Int32)) <<< ((8 : Int32) &&& 31))), (.int (((own_l ch) &&& (255 : Int32)) <<< ((0 : Int32) &&& 31)))])) _
    refine XS.ior X6.here hx rfl (hb hby d22_57) rfl ?_
    exact Steps.refl _)
  rw [own_gc ch hc0 hc1] at pre7
  have pre8 : Steps p.tables e below _ (T6.setTop (mkF m 59 #[.val (.ref a1), .val (.int (i2 + (1 : Int32)))] [(.int (ch.toUInt32.toUInt16.toUInt32.toInt32))])) := pre7.trans (by
    show Steps p.tables e below (T6.setTop (mkF m 58 #[.val (.ref a1), .val (.int (i2 + (1 : Int32)))] [(.int ch)])) _
    refine XS.i2c X6.here hx rfl (hb hby d22_58) rfl ?_
    exact Steps.refl _)
  have ec : (ch.toUInt32.toUInt16.toUInt32.toInt32) = ch := own_i2c ch hc0 hc1
  rw [ec] at pre8
  have en : nar .char ch = ch := ec
  obtain ⟨fs, hr, hrun, hended, hW, hsame⟩ := X6.leave (v := some (.int (nar .char ch))) (fun h => by rw [Bd.returns] at h; cases h)
  refine ⟨_, _, pre8.trans ?_, hrun, hended, _, _, rfl, ?_, ⟨_, rfl⟩, hW, hsame.mono (by decide) (by decide)⟩
  · exact retN X6 hx (t := .char) Bd.returns (by simp) (hb hby d22_59) hr
  · exact ⟨by rw [en], N0, e6⟩
theorem d18_0 : decode jdk_52_method_14_code 0 = .ok (.iload_n 2, 1) := by decide +kernel
theorem d18_1 : decode jdk_52_method_14_code 1 = .ok (.invokestatic 107, 3) := by decide +kernel
theorem d18_4 : decode jdk_52_method_14_code 4 = .ok (.astore_n 3, 1) := by decide +kernel
theorem d18_5 : decode jdk_52_method_14_code 5 = .ok (.iconst 0, 1) := by decide +kernel
theorem d18_6 : decode jdk_52_method_14_code 6 = .ok (.istore 4, 2) := by decide +kernel
theorem d18_8 : decode jdk_52_method_14_code 8 = .ok (.iload 4, 2) := by decide +kernel
theorem d18_10 : decode jdk_52_method_14_code 10 = .ok (.iload_n 2, 1) := by decide +kernel
theorem d18_11 : decode jdk_52_method_14_code 11 = .ok (.if_icmp .ge 21, 3) := by decide +kernel
theorem d18_14 : decode jdk_52_method_14_code 14 = .ok (.aload_n 3, 1) := by decide +kernel
theorem d18_15 : decode jdk_52_method_14_code 15 = .ok (.iload 4, 2) := by decide +kernel
theorem d18_17 : decode jdk_52_method_14_code 17 = .ok (.aload_n 0, 1) := by decide +kernel
theorem d18_18 : decode jdk_52_method_14_code 18 = .ok (.iload_n 1, 1) := by decide +kernel
theorem d18_19 : decode jdk_52_method_14_code 19 = .ok (.caload, 1) := by decide +kernel
theorem d18_20 : decode jdk_52_method_14_code 20 = .ok (.invokestatic 111, 3) := by decide +kernel
theorem d18_23 : decode jdk_52_method_14_code 23 = .ok (.iinc 1 1, 3) := by decide +kernel
theorem d18_26 : decode jdk_52_method_14_code 26 = .ok (.iinc 4 1, 3) := by decide +kernel
theorem d18_29 : decode jdk_52_method_14_code 29 = .ok (.goto (-21), 3) := by decide +kernel
theorem d18_32 : decode jdk_52_method_14_code 32 = .ok (.aload_n 3, 1) := by decide +kernel
theorem d18_33 : decode jdk_52_method_14_code 33 = .ok (.areturn, 1) := by decide +kernel
theorem pn_rmTB : plainName "java/lang/StringUTF16" = true := by first | (simp [plainName, overriddenIn]; done) | decide +kernel
theorem pd_rmTB_0 : parseMethodDescriptor "(I)[B" = some ⟨[.int], some (.array .byte)⟩ := by decide +kernel
theorem pd_rmTB_1 : parseMethodDescriptor "([BII)V" = some ⟨[(.array .byte), .int, .int], none⟩ := by decide +kernel
theorem ef_rmTB (m : MethodId) (a1 : Addr) (p2 : Int32) (p3 : Int32) : entryFrame m #[(.ref a1), (.int p2), (.int p3)] 5 = (mkF m 0 #[.val (.ref a1), .val (.int p2), .val (.int p3), .unset, .unset] []) := by first | (simp [entryFrame, mkF, argsToLocals, Value.category]; done) | rfl
def Q_rmTB (Z : State) (a1 : Addr) (p2 : Int32) (p3 : Int32) (f : Nat → Int32) (h0 : Heap) (n0 : Nat) (v : Option Value) (h : Heap) (L : List Loc) : Prop := v = some (.ref h0.size) ∧ Fr n0 L ∧ Keep h0 h [] ∧ ∃ g, Far Z h h0.size .byte (own_dbl p3) g ∧ ∀ k : Nat, (k : Int) < p3.toInt → g (2 * k) = own_l (f k) ∧ g (2 * k + 1) = own_h (f k)
set_option maxRecDepth 65536 in
set_option maxHeartbeats 40000000 in
theorem rmTB (l : Launch) (Z : State) (a0 : Array Value) (hw : ∀ d ∈ tables_1, d.before a0 Z = true) (ws : List Jvm.Cond) (a1 : Addr) (p2 : Int32) (p3 : Int32) (f : Nat → Int32) (h0 : Heap) (n0 : Nat) (Z0 : n0 ≤ h0.size) (h2 : p2 = 0) (hn1 : 1 ≤ p3.toInt) (hn4 : p3.toInt ≤ 4) (SA : Sta Z h0 "java/lang/StringUTF16" "$assertionsDisabled" "Z" (.int (1 : Int32))) (SH : Sta Z h0 "java/lang/StringUTF16" "HI_BYTE_SHIFT" "I" (.int (0 : Int32))) (SL : Sta Z h0 "java/lang/StringUTF16" "LO_BYTE_SHIFT" "I" (.int (8 : Int32))) (FC : Far Z h0 a1 .char p3 f) :
    MetFree l (⟨"java/lang/StringUTF16", "toBytes", "([CII)[B"⟩ : MethodName) (head1 (Jvm.Cond.code (⟨"java/lang/StringUTF16", "toBytes", "([CII)[B"⟩ : MethodName) jdk_52_method_14_code 5 (some (.array .byte)) :: ws) ({ frames := 2, cells := 1, slots := 8, locals := 26 } : Room)) (fun a U => a = #[(.ref a1), (.int p2), (.int p3)] ∧ Z.Warmed39 U.vm ∧ U.heap = h0) (fun _ _ _ _ _ => True) (fun _ U o U' => ∃ v L, o = .returned v ∧ Q_rmTB Z a1 p2 p3 f h0 n0 v U'.heap L ∧ FrameEnd U o U' L ({ frames := 2, cells := 1, slots := 8, locals := 26 } : Room).cells ({ frames := 2, cells := 1, slots := 8, locals := 26 } : Room).slots) := by
  refine MetFree.of_bodySF (plainFor_of_name pn_rmTB) hisR ?_
  intro p e s m args below meth c s₁ Bd hml0 hP hK
  obtain ⟨rfl, hZ, hh⟩ := hP
  have hx := Bd.exec
  have hby := Bd.bytes
  have hml : c.maxLocals = 5 := hml0
  have hown : s.vm.findClass "java/lang/StringUTF16" = some m.cls := findClass_of_methodNamed Bd.named
  have hnm := (name_of_methodNamed Bd.named Bd.method).1
  have X0 : Stand p l e ({ frames := 2, cells := 1, slots := 8, locals := 26 } : Room) s m #[(.ref a1), (.int p2), (.int p3)] below meth c s₁ [] 0 0 := Stand.of_body Bd
  have e0 : s₁.heap = h0 := by rw [← hh, Bd.state]; rfl
  have N0 := Fr.nil n0
  have pre0 : Steps p.tables e below (s₁.setTop (entryFrame m #[(.ref a1), (.int p2), (.int p3)] 5)) (s₁.setTop (mkF m 0 #[.val (.ref a1), .val (.int p2), .val (.int p3), .unset, .unset] [])) := castTop (ef_rmTB m a1 p2 p3) (Steps.refl _)
  subst h2
  have e00 : (0 : Int32).toInt = 0 := rfl
  have dn := own_dbl_i p3 (by omega) (by omega)
  have u1 : ¬ p3 < (0 : Int32) := by rw [own_lt]; omega
  have u2 : p3 < (1073741823 : Int32) := by rw [own_lt]; have e : (1073741823 : Int32).toInt = 1073741823 := rfl; omega
  have u3 : ¬ own_dbl p3 < 0 := by rw [own_lt]; omega
  have u4 : (own_dbl p3).toNatClampNeg ≤ 8 := by have q := own_nat (own_dbl p3) (by omega); omega
  have pre1 : Steps p.tables e below _ (s₁.setTop (mkF m 1 #[.val (.ref a1), .val (.int (0 : Int32)), .val (.int p3), .unset, .unset] [(.int p3)])) := pre0.trans (by
    show Steps p.tables e below (s₁.setTop (mkF m 0 #[.val (.ref a1), .val (.int (0 : Int32)), .val (.int p3), .unset, .unset] [])) _
    refine XS.iloadN X0.here hx rfl (hb hby d18_0) rfl ?_
    exact Steps.refl _)
  obtain ⟨_, _, ⟨T2, L2, k2, n2⟩, -, X2, ⟨Lc2, hQ2, l2, y2, z2⟩, st2⟩ := Jvm.LawKit.callS X0 hx (y := (⟨"java/lang/StringUTF16", "newBytesFor", "(I)[B"⟩ : MethodName)) hown (mvT hZ (hw _ (List.mem_of_getElem? (i := 83) rfl))) (mvT hZ (hw _ (List.mem_of_getElem? (i := 84) rfl))) (mvT hZ (hw _ (List.mem_of_getElem? (i := 44) rfl))) (mvT hZ (hw _ (List.mem_of_getElem? (i := 85) rfl))) (by decide) (backOf (W := 0) (rmNF l Z a0 hw [] p3 (own_dbl p3) h0 n0 Z0 u1 u2 rfl u3 u4) hZ (hw _ (List.mem_of_getElem? (i := 85) rfl)) (hw _ (List.mem_of_getElem? (i := 44) rfl)) (by decide) (by decide)) (g := (mkF m 1 #[.val (.ref a1), .val (.int (0 : Int32)), .val (.int p3), .unset, .unset] [(.int p3)])) rfl (by rw [hml]; rfl) (argsL := [(.int p3)]) (rest := []) (lenOf pd_rmTB_0 rfl) rfl (by show 2 * 0 + _ ≤ _; exact Nat.le_of_eq rfl) (hb hby d18_1) (fun _ _ => ⟨rfl, e0, (by decide : 0 + 1 ≤ _), (by decide : 0 + 8 ≤ _)⟩)
  dsimp only [Pt.U, Pt.locs, Pt.cells, Pt.slots] at X2 l2 y2 z2 st2 hQ2
  subst l2 y2 z2
  obtain ⟨rfl, N2q, E2x, F2x⟩ := hQ2
  have N2 := Fr.app N0 N2q
  have pre2 : Steps p.tables e below _ (T2.setTop (mkF m 4 #[.val (.ref a1), .val (.int (0 : Int32)), .val (.int p3), .unset, .unset] [(.ref h0.size)])) := pre1.trans (st2 _ (Steps.refl _))
  obtain ⟨bb, hbb⟩ : ∃ z, z = h0.size := ⟨_, rfl⟩
  rw [← hbb] at F2x pre2
  have g_bb : n0 ≤ bb := by rw [hbb]; exact Z0
  have Z1 : n0 ≤ T2.heap.size := Nat.le_trans Z0 E2x.1
  have nab : a1 ∉ [bb] := fun q => absurd (List.mem_singleton.mp q) (by rw [hbb]; exact Nat.ne_of_lt FC.lt)
  have FC1 := FC.ext E2x
  have SA1 := SA.ext E2x
  have SH1 := SH.ext E2x
  have SL1 := SL.ext E2x
  have pre3 : Steps p.tables e below _ (T2.setTop (mkF m 8 #[.val (.ref a1), .val (.int (0 : Int32)), .val (.int p3), .val (.ref bb), .val (.int (0 : Int32))] [])) := pre2.trans (by
    show Steps p.tables e below (T2.setTop (mkF m 4 #[.val (.ref a1), .val (.int (0 : Int32)), .val (.int p3), .unset, .unset] [(.ref bb)])) _
    refine XS.astoreN X2.here hx rfl (hb hby d18_4) rfl rfl (l' := #[.val (.ref a1), .val (.int (0 : Int32)), .val (.int p3), .val (.ref bb), .unset]) rfl ?_
    show Steps p.tables e below (T2.setTop (mkF m 5 #[.val (.ref a1), .val (.int (0 : Int32)), .val (.int p3), .val (.ref bb), .unset] [])) _
    refine XS.iconst X2.here hx rfl (hb hby d18_5) ?_
    show Steps p.tables e below (T2.setTop (mkF m 6 #[.val (.ref a1), .val (.int (0 : Int32)), .val (.int p3), .val (.ref bb), .unset] [(.int (0 : Int32))])) _
    refine XS.istore X2.here hx rfl (hb hby d18_6) rfl (l' := #[.val (.ref a1), .val (.int (0 : Int32)), .val (.int p3), .val (.ref bb), .val (.int (0 : Int32))]) rfl ?_
    exact Steps.refl _)
  have loop : ∀ (k : Nat) (i : Int32) (T : State) (locs : List Loc) (g : Nat → Int32), Stand p l e ({ frames := 2, cells := 1, slots := 8, locals := 26 } : Room) s m #[(.ref a1), (.int (0 : Int32)), (.int p3)] below meth c T locs 1 8 → Fr n0 locs → Keep T2.heap T.heap [bb] → 0 ≤ i.toInt → i.toInt + k = p3.toInt → Far Z T.heap bb .byte (own_dbl p3) g → (∀ j : Nat, (j : Int) < i.toInt → g (2 * j) = own_l (f j) ∧ g (2 * j + 1) = own_h (f j)) → ∃ (T' : State) (locs' : List Loc) (g' : Nat → Int32), Stand p l e ({ frames := 2, cells := 1, slots := 8, locals := 26 } : Room) s m #[(.ref a1), (.int (0 : Int32)), (.int p3)] below meth c T' locs' 1 8 ∧ Fr n0 locs' ∧ Keep T2.heap T'.heap [bb] ∧ Far Z T'.heap bb .byte (own_dbl p3) g' ∧ (∀ j : Nat, (j : Int) < p3.toInt → g' (2 * j) = own_l (f j) ∧ g' (2 * j + 1) = own_h (f j)) ∧ Steps p.tables e below (T.setTop (mkF m 8 #[.val (.ref a1), .val (.int i), .val (.int p3), .val (.ref bb), .val (.int i)] [])) (T'.setTop (mkF m 32 #[.val (.ref a1), .val (.int p3), .val (.int p3), .val (.ref bb), .val (.int p3)] [])) := by
    intro k
    induction k with
    | zero =>
      intro i T locs g X Nf K i0 ik F hg
      have hi : p3 = i := Int32.toInt_inj.mp (by omega)
      subst hi
      have preL : Steps p.tables e below (T.setTop (mkF m 8 #[.val (.ref a1), .val (.int p3), .val (.int p3), .val (.ref bb), .val (.int p3)] [])) (T.setTop (mkF m 8 #[.val (.ref a1), .val (.int p3), .val (.int p3), .val (.ref bb), .val (.int p3)] [])) := Steps.refl _
      have pre4 : Steps p.tables e below _ (T.setTop (mkF m 32 #[.val (.ref a1), .val (.int p3), .val (.int p3), .val (.ref bb), .val (.int p3)] [])) := preL.trans (by
        show Steps p.tables e below (T.setTop (mkF m 8 #[.val (.ref a1), .val (.int p3), .val (.int p3), .val (.ref bb), .val (.int p3)] [])) _
        refine XS.iload X.here hx rfl (hb hby d18_8) rfl ?_
        show Steps p.tables e below (T.setTop (mkF m 10 #[.val (.ref a1), .val (.int p3), .val (.int p3), .val (.ref bb), .val (.int p3)] [(.int p3)])) _
        refine XS.iloadN X.here hx rfl (hb hby d18_10) rfl ?_
        show Steps p.tables e below (T.setTop (mkF m 11 #[.val (.ref a1), .val (.int p3), .val (.int p3), .val (.ref bb), .val (.int p3)] [(.int p3), (.int p3)])) _
        refine XS.icmpYes X.here hx rfl (pc0 := 11) (pc' := 32) rfl (hb hby d18_11) rfl (flt (own_irr p3)).2.1 (by decide) (by decide) ?_
        exact Steps.refl _)
      exact ⟨T, locs, g, X, Nf, K, F, hg, pre4⟩
    | succ k ih =>
      intro i T locs g X Nf K i0 ik F hg
      have preL : Steps p.tables e below (T.setTop (mkF m 8 #[.val (.ref a1), .val (.int i), .val (.int p3), .val (.ref bb), .val (.int i)] [])) (T.setTop (mkF m 8 #[.val (.ref a1), .val (.int i), .val (.int p3), .val (.ref bb), .val (.int i)] [])) := Steps.refl _
      have hlt : i < p3 := by rw [own_lt]; omega
      have hge : ¬ i < 0 := by rw [own_lt]; omega
      obtain ⟨cc, Ac, Sc, Mc, Hc⟩ := id (FC1.keep K nab)
      have hin := inb_of Sc ⟨hge, hlt⟩
      have hat := own_at Hc hin
      obtain ⟨t1, t2, t3, t4⟩ := own_in2 i p3 i0 (by omega) hn4
      have nst := own_one (F2x.nostat)
      have ZT : n0 ≤ T.heap.size := Nat.le_trans Z1 K.1
      have pre5 : Steps p.tables e below _ (T.setTop (mkF m 20 #[.val (.ref a1), .val (.int i), .val (.int p3), .val (.ref bb), .val (.int i)] [(.int (f i.toNatClampNeg)), (.int i), (.ref bb)])) := preL.trans (by
        show Steps p.tables e below (T.setTop (mkF m 8 #[.val (.ref a1), .val (.int i), .val (.int p3), .val (.ref bb), .val (.int i)] [])) _
        refine XS.iload X.here hx rfl (hb hby d18_8) rfl ?_
        show Steps p.tables e below (T.setTop (mkF m 10 #[.val (.ref a1), .val (.int i), .val (.int p3), .val (.ref bb), .val (.int i)] [(.int i)])) _
        refine XS.iloadN X.here hx rfl (hb hby d18_10) rfl ?_
        show Steps p.tables e below (T.setTop (mkF m 11 #[.val (.ref a1), .val (.int i), .val (.int p3), .val (.ref bb), .val (.int i)] [(.int p3), (.int i)])) _
        refine XS.icmpNo X.here hx rfl (hb hby d18_11) rfl (tlt hlt).2.1 ?_
        show Steps p.tables e below (T.setTop (mkF m 14 #[.val (.ref a1), .val (.int i), .val (.int p3), .val (.ref bb), .val (.int i)] [])) _
        refine XS.aloadN X.here hx rfl (hb hby d18_14) rfl rfl ?_
        show Steps p.tables e below (T.setTop (mkF m 15 #[.val (.ref a1), .val (.int i), .val (.int p3), .val (.ref bb), .val (.int i)] [(.ref bb)])) _
        refine XS.iload X.here hx rfl (hb hby d18_15) rfl ?_
        show Steps p.tables e below (T.setTop (mkF m 17 #[.val (.ref a1), .val (.int i), .val (.int p3), .val (.ref bb), .val (.int i)] [(.int i), (.ref bb)])) _
        refine XS.aloadN X.here hx rfl (hb hby d18_17) rfl rfl ?_
        show Steps p.tables e below (T.setTop (mkF m 18 #[.val (.ref a1), .val (.int i), .val (.int p3), .val (.ref bb), .val (.int i)] [(.ref a1), (.int i), (.ref bb)])) _
        refine XS.iloadN X.here hx rfl (hb hby d18_18) rfl ?_
        show Steps p.tables e below (T.setTop (mkF m 19 #[.val (.ref a1), .val (.int i), .val (.int p3), .val (.ref bb), .val (.int i)] [(.int i), (.ref a1), (.int i), (.ref bb)])) _
        refine X.caload hx (j := i) (v := (.int (f i.toNatClampNeg))) (by rw [(rfl : T.heap = T.heap)]; exact Ac.1) (State.isArrayOf_alike hZ.alike Ac.2.1) Ac.2.2 hin hat (g := (mkF m 19 #[.val (.ref a1), .val (.int i), .val (.int p3), .val (.ref bb), .val (.int i)] [(.int i), (.ref a1), (.int i), (.ref bb)])) rfl rfl (hb hby d18_19) _ ?_
        exact Steps.refl _)
      obtain ⟨_, _, ⟨T6, L6, k6, n6⟩, -, X6, ⟨Lc6, hQ6, l6, y6, z6⟩, st6⟩ := Jvm.LawKit.callS X hx (y := (⟨"java/lang/StringUTF16", "putChar", "([BII)V"⟩ : MethodName)) hown (mvT hZ (hw _ (List.mem_of_getElem? (i := 90) rfl))) (mvT hZ (hw _ (List.mem_of_getElem? (i := 91) rfl))) (mvT hZ (hw _ (List.mem_of_getElem? (i := 44) rfl))) (mvT hZ (hw _ (List.mem_of_getElem? (i := 92) rfl))) (by decide) (backOf (W := 0) (rmPC l Z a0 hw [] bb i (f i.toNatClampNeg) (own_dbl p3) (own_dbl i) g T.heap n0 ZT (Sta.keepN SA1 K nst) (Sta.keepN SH1 K nst) (Sta.keepN SL1 K nst) F rfl t1 t2 g_bb) hZ (hw _ (List.mem_of_getElem? (i := 92) rfl)) (hw _ (List.mem_of_getElem? (i := 44) rfl)) (by decide) (by decide)) (g := (mkF m 20 #[.val (.ref a1), .val (.int i), .val (.int p3), .val (.ref bb), .val (.int i)] [(.int (f i.toNatClampNeg)), (.int i), (.ref bb)])) rfl (by rw [hml]; rfl) (argsL := [(.ref bb), (.int i), (.int (f i.toNatClampNeg))]) (rest := []) (lenOf pd_rmTB_1 rfl) rfl (by show 2 * 0 + _ ≤ _; exact Nat.le_of_eq rfl) (hb hby d18_20) (fun _ _ => ⟨rfl, (rfl : T.heap = T.heap), (by decide : 1 + 0 ≤ _), (by decide : 8 + 0 ≤ _)⟩)
      dsimp only [Pt.U, Pt.locs, Pt.cells, Pt.slots] at X6 l6 y6 z6 st6 hQ6
      subst l6 y6 z6
      obtain ⟨rfl, N6q, K6, F6x⟩ := hQ6
      have N6 := Fr.app Nf N6q
      have pre6 : Steps p.tables e below _ (T6.setTop (mkF m 23 #[.val (.ref a1), .val (.int i), .val (.int p3), .val (.ref bb), .val (.int i)] [])) := pre5.trans (st6 _ (Steps.refl _))
      have pre7 : Steps p.tables e below _ (T6.setTop (mkF m 8 #[.val (.ref a1), .val (.int (i + (1 : Int32))), .val (.int p3), .val (.ref bb), .val (.int (i + (1 : Int32)))] [])) := pre6.trans (by
        show Steps p.tables e below (T6.setTop (mkF m 23 #[.val (.ref a1), .val (.int i), .val (.int p3), .val (.ref bb), .val (.int i)] [])) _
        refine XS.iinc X6.here hx rfl (hb hby d18_23) rfl (l' := #[.val (.ref a1), .val (.int (i + (1 : Int32))), .val (.int p3), .val (.ref bb), .val (.int i)]) rfl ?_
        show Steps p.tables e below (T6.setTop (mkF m 26 #[.val (.ref a1), .val (.int (i + (1 : Int32))), .val (.int p3), .val (.ref bb), .val (.int i)] [])) _
        refine XS.iinc X6.here hx rfl (hb hby d18_26) rfl (l' := #[.val (.ref a1), .val (.int (i + (1 : Int32))), .val (.int p3), .val (.ref bb), .val (.int (i + (1 : Int32)))]) rfl ?_
        show Steps p.tables e below (T6.setTop (mkF m 29 #[.val (.ref a1), .val (.int (i + (1 : Int32))), .val (.int p3), .val (.ref bb), .val (.int (i + (1 : Int32)))] [])) _
        refine XS.goto X6.here hx rfl (pc0 := 29) (pc' := 8) rfl (hb hby d18_29) (by decide) (by decide) ?_
        exact Steps.refl _)
      have ei := own_inc i i0 (by omega)
      obtain ⟨T', locs', g', X', N', K', F', hg', st'⟩ := ih (i + (1 : Int32)) T6 _ _ X6 N6 (K.trans K6 (fun x hx => Or.inl hx)) (by omega) (by omega) F6x (fun j hj => by
          have w1 := own_nat i i0
          rw [t3, t4]
          show (if 2 * j = 2 * i.toNatClampNeg + 1 then own_h (f i.toNatClampNeg) else if 2 * j = 2 * i.toNatClampNeg then own_l (f i.toNatClampNeg) else g (2 * j)) = own_l (f j) ∧ (if 2 * j + 1 = 2 * i.toNatClampNeg + 1 then own_h (f i.toNatClampNeg) else if 2 * j + 1 = 2 * i.toNatClampNeg then own_l (f i.toNatClampNeg) else g (2 * j + 1)) = own_h (f j)
          by_cases q1 : j = i.toNatClampNeg
          · subst q1; rw [if_neg (by omega), if_pos rfl, if_pos rfl]; exact ⟨rfl, rfl⟩
          · rw [if_neg (by omega), if_neg (by omega), if_neg (by omega), if_neg (by omega)]; exact hg j (by omega))
      exact ⟨T', locs', g', X', N', K', F', hg', pre7.trans st'⟩
  obtain ⟨T9, l9, g9, X9, N9, K9, F9, hg9, st9⟩ := loop p3.toInt.toNat (0 : Int32) T2 _ (fun _ => 0) X2 N2 (Keep.refl _ _) (by decide) (by rw [Int.toNat_of_nonneg (by omega)]; exact Int.zero_add _) F2x (fun j hj => by rw [e00] at hj; omega)
  have pre99 : Steps p.tables e below _ (T9.setTop (mkF m 32 #[.val (.ref a1), .val (.int p3), .val (.int p3), .val (.ref bb), .val (.int p3)] [])) := pre3.trans st9
  have KK : Keep h0 T9.heap [] := ((Keep.refl h0 []).ext E2x).trans K9 (fun x hx => Or.inr (by rw [List.mem_singleton.mp hx]; exact Nat.le_of_eq hbb.symm))
  have pre8 : Steps p.tables e below _ (T9.setTop (mkF m 33 #[.val (.ref a1), .val (.int p3), .val (.int p3), .val (.ref bb), .val (.int p3)] [(.ref bb)])) := pre99.trans (by
    show Steps p.tables e below (T9.setTop (mkF m 32 #[.val (.ref a1), .val (.int p3), .val (.int p3), .val (.ref bb), .val (.int p3)] [])) _
    refine XS.aloadN X9.here hx rfl (hb hby d18_32) rfl rfl ?_
    exact Steps.refl _)
  obtain ⟨fs, hr, hrun, hended, hW, hsame⟩ := X9.leave (v := some (.ref bb)) (fun h => by rw [Bd.returns] at h; cases h)
  refine ⟨_, _, pre8.trans ?_, hrun, hended, _, _, rfl, ?_, ⟨_, rfl⟩, hW, hsame.mono (by decide) (by decide)⟩
  · exact X9.areturnOut hx rfl Bd.returns rfl (hb hby d18_33) hr
  · exact ⟨by rw [hbb], N9, KK, g9, by rw [← hbb]; exact F9, hg9⟩
theorem own_st6 {x0 x1 x2 x3 x4 x5 : Value} {sx : Slot} {v : Int32} (h : One sx) : storeLocals #[.val x0, .val x1, .val x2, .val x3, .val x4, .val x5, sx] 6 (.int v) = some #[.val x0, .val x1, .val x2, .val x3, .val x4, .val x5, .val (.int v)] := by
  rcases h with rfl | ⟨w, rfl, hw⟩
  · rfl
  · cases w <;> first | rfl | (simp [Value.category] at hw)
theorem d9_0 : decode jdk_52_method_21_code 0 = .ok (.iconst 0, 1) := by decide +kernel
theorem d9_1 : decode jdk_52_method_21_code 1 = .ok (.istore 5, 2) := by decide +kernel
theorem d9_3 : decode jdk_52_method_21_code 3 = .ok (.iload 5, 2) := by decide +kernel
theorem d9_5 : decode jdk_52_method_21_code 5 = .ok (.iload 4, 2) := by decide +kernel
theorem d9_7 : decode jdk_52_method_21_code 7 = .ok (.if_icmp .ge 37, 3) := by decide +kernel
theorem d9_10 : decode jdk_52_method_21_code 10 = .ok (.aload_n 0, 1) := by decide +kernel
theorem d9_11 : decode jdk_52_method_21_code 11 = .ok (.iload_n 1, 1) := by decide +kernel
theorem d9_12 : decode jdk_52_method_21_code 12 = .ok (.caload, 1) := by decide +kernel
theorem d9_13 : decode jdk_52_method_21_code 13 = .ok (.istore 6, 2) := by decide +kernel
theorem d9_15 : decode jdk_52_method_21_code 15 = .ok (.iload 6, 2) := by decide +kernel
theorem d9_17 : decode jdk_52_method_21_code 17 = .ok (.sipush 255, 3) := by decide +kernel
theorem d9_20 : decode jdk_52_method_21_code 20 = .ok (.if_icmp .le 6, 3) := by decide +kernel
theorem d9_23 : decode jdk_52_method_21_code 23 = .ok (.iload 5, 2) := by decide +kernel
theorem d9_25 : decode jdk_52_method_21_code 25 = .ok (.ireturn, 1) := by decide +kernel
theorem d9_26 : decode jdk_52_method_21_code 26 = .ok (.aload_n 2, 1) := by decide +kernel
theorem d9_27 : decode jdk_52_method_21_code 27 = .ok (.iload_n 3, 1) := by decide +kernel
theorem d9_28 : decode jdk_52_method_21_code 28 = .ok (.iload 6, 2) := by decide +kernel
theorem d9_30 : decode jdk_52_method_21_code 30 = .ok (.i2b, 1) := by decide +kernel
theorem d9_31 : decode jdk_52_method_21_code 31 = .ok (.bastore, 1) := by decide +kernel
theorem d9_32 : decode jdk_52_method_21_code 32 = .ok (.iinc 1 1, 3) := by decide +kernel
theorem d9_35 : decode jdk_52_method_21_code 35 = .ok (.iinc 3 1, 3) := by decide +kernel
theorem d9_38 : decode jdk_52_method_21_code 38 = .ok (.iinc 5 1, 3) := by decide +kernel
theorem d9_41 : decode jdk_52_method_21_code 41 = .ok (.goto (-38), 3) := by decide +kernel
theorem d9_44 : decode jdk_52_method_21_code 44 = .ok (.iload 4, 2) := by decide +kernel
theorem d9_46 : decode jdk_52_method_21_code 46 = .ok (.ireturn, 1) := by decide +kernel
theorem pn_rmC2 : plainName "java/lang/StringUTF16" = true := by first | (simp [plainName, overriddenIn]; done) | decide +kernel
theorem ef_rmC2 (m : MethodId) (a1 : Addr) (p2 : Int32) (a3 : Addr) (p4 : Int32) (p5 : Int32) : entryFrame m #[(.ref a1), (.int p2), (.ref a3), (.int p4), (.int p5)] 7 = (mkF m 0 #[.val (.ref a1), .val (.int p2), .val (.ref a3), .val (.int p4), .val (.int p5), .unset, .unset] []) := by first | (simp [entryFrame, mkF, argsToLocals, Value.category]; done) | rfl
def Q_rmC2 (Z : State) (a1 : Addr) (p2 : Int32) (a3 : Addr) (p4 : Int32) (p5 : Int32) (f : Nat → Int32) (h0 : Heap) (n0 : Nat) (v : Option Value) (h : Heap) (L : List Loc) : Prop := ∃ r : Int32, v = some (.int r) ∧ Fr n0 L ∧ Keep h0 h [a3] ∧ (∃ g, Far Z h a3 .byte p5 g ∧ ∀ k : Nat, (k : Int) < r.toInt → g k = own_l (f k)) ∧ 0 ≤ r.toInt ∧ r.toInt ≤ p5.toInt ∧ (∀ k : Nat, (k : Int) < r.toInt → ¬ (255 : Int32) < f k) ∧ (r.toInt < p5.toInt → (255 : Int32) < f r.toNatClampNeg)
set_option maxRecDepth 65536 in
set_option maxHeartbeats 40000000 in
theorem rmC2 (l : Launch) (Z : State) (a0 : Array Value) (hw : ∀ d ∈ tables_1, d.before a0 Z = true) (ws : List Jvm.Cond) (a1 : Addr) (p2 : Int32) (a3 : Addr) (p4 : Int32) (p5 : Int32) (f : Nat → Int32) (h0 : Heap) (n0 : Nat) (Z0 : n0 ≤ h0.size) (h2 : p2 = 0) (h4 : p4 = 0) (hn1 : 1 ≤ p5.toInt) (hn4 : p5.toInt ≤ 4) (FC : Far Z h0 a1 .char p5 f) (FB : Far Z h0 a3 .byte p5 (fun _ => 0)) (nab : a1 ≠ a3) (g_a3 : n0 ≤ a3) :
    MetFree l (⟨"java/lang/StringUTF16", "compress", "([CI[BII)I"⟩ : MethodName) (head1 (Jvm.Cond.code (⟨"java/lang/StringUTF16", "compress", "([CI[BII)I"⟩ : MethodName) jdk_52_method_21_code 7 (some .int) :: ws) ({ frames := 0, cells := 0, slots := 0, locals := 0 } : Room)) (fun a U => a = #[(.ref a1), (.int p2), (.ref a3), (.int p4), (.int p5)] ∧ Z.Warmed39 U.vm ∧ U.heap = h0) (fun _ _ _ _ _ => True) (fun _ U o U' => ∃ v L, o = .returned v ∧ Q_rmC2 Z a1 p2 a3 p4 p5 f h0 n0 v U'.heap L ∧ FrameEnd U o U' L ({ frames := 0, cells := 0, slots := 0, locals := 0 } : Room).cells ({ frames := 0, cells := 0, slots := 0, locals := 0 } : Room).slots) := by
  refine MetFree.of_bodySF (plainFor_of_name pn_rmC2) hisR ?_
  intro p e s m args below meth c s₁ Bd hml0 hP hK
  obtain ⟨rfl, hZ, hh⟩ := hP
  have hx := Bd.exec
  have hby := Bd.bytes
  have hml : c.maxLocals = 7 := hml0
  have hown : s.vm.findClass "java/lang/StringUTF16" = some m.cls := findClass_of_methodNamed Bd.named
  have hnm := (name_of_methodNamed Bd.named Bd.method).1
  have X0 : Stand p l e ({ frames := 0, cells := 0, slots := 0, locals := 0 } : Room) s m #[(.ref a1), (.int p2), (.ref a3), (.int p4), (.int p5)] below meth c s₁ [] 0 0 := Stand.of_body Bd
  have e0 : s₁.heap = h0 := by rw [← hh, Bd.state]; rfl
  have N0 := Fr.nil n0
  have pre0 : Steps p.tables e below (s₁.setTop (entryFrame m #[(.ref a1), (.int p2), (.ref a3), (.int p4), (.int p5)] 7)) (s₁.setTop (mkF m 0 #[.val (.ref a1), .val (.int p2), .val (.ref a3), .val (.int p4), .val (.int p5), .unset, .unset] [])) := castTop (ef_rmC2 m a1 p2 a3 p4 p5) (Steps.refl _)
  subst h2 h4
  have e00 : (0 : Int32).toInt = 0 := rfl
  have pre1 : Steps p.tables e below _ (s₁.setTop (mkF m 3 #[.val (.ref a1), .val (.int (0 : Int32)), .val (.ref a3), .val (.int (0 : Int32)), .val (.int p5), .val (.int (0 : Int32)), .unset] [])) := pre0.trans (by
    show Steps p.tables e below (s₁.setTop (mkF m 0 #[.val (.ref a1), .val (.int (0 : Int32)), .val (.ref a3), .val (.int (0 : Int32)), .val (.int p5), .unset, .unset] [])) _
    refine XS.iconst X0.here hx rfl (hb hby d9_0) ?_
    show Steps p.tables e below (s₁.setTop (mkF m 1 #[.val (.ref a1), .val (.int (0 : Int32)), .val (.ref a3), .val (.int (0 : Int32)), .val (.int p5), .unset, .unset] [(.int (0 : Int32))])) _
    refine XS.istore X0.here hx rfl (hb hby d9_1) rfl (l' := #[.val (.ref a1), .val (.int (0 : Int32)), .val (.ref a3), .val (.int (0 : Int32)), .val (.int p5), .val (.int (0 : Int32)), .unset]) rfl ?_
    exact Steps.refl _)
  have loop : ∀ (k : Nat) (i : Int32) (sx : Slot) (T : State) (locs : List Loc) (g : Nat → Int32), One sx → Stand p l e ({ frames := 0, cells := 0, slots := 0, locals := 0 } : Room) s m #[(.ref a1), (.int (0 : Int32)), (.ref a3), (.int (0 : Int32)), (.int p5)] below meth c T locs 0 0 → Fr n0 locs → Keep h0 T.heap [a3] → 0 ≤ i.toInt → i.toInt + k = p5.toInt → Far Z T.heap a3 .byte p5 g → (∀ j : Nat, (j : Int) < i.toInt → g j = own_l (f j) ∧ ¬ (255 : Int32) < f j) → ∃ (T' : State) (locs' : List Loc) (r : Int32) (pc : Nat) (Ls : Array Slot), Stand p l e ({ frames := 0, cells := 0, slots := 0, locals := 0 } : Room) s m #[(.ref a1), (.int (0 : Int32)), (.ref a3), (.int (0 : Int32)), (.int p5)] below meth c T' locs' 0 0 ∧ Fr n0 locs' ∧ Keep h0 T'.heap [a3] ∧ (∃ g, Far Z T'.heap a3 .byte p5 g ∧ ∀ k : Nat, (k : Int) < r.toInt → g k = own_l (f k)) ∧ 0 ≤ r.toInt ∧ r.toInt ≤ p5.toInt ∧ (∀ k : Nat, (k : Int) < r.toInt → ¬ (255 : Int32) < f k) ∧ (r.toInt < p5.toInt → (255 : Int32) < f r.toNatClampNeg) ∧ decode c.code pc = .ok (.ireturn, 1) ∧ Steps p.tables e below (T.setTop (mkF m 3 #[.val (.ref a1), .val (.int i), .val (.ref a3), .val (.int i), .val (.int p5), .val (.int i), sx] [])) (T'.setTop (mkF m pc Ls [(.int r)])) := by
    intro k
    induction k with
    | zero =>
      intro i sx T locs g hsx X Nf K i0 ik F hg
      have hi : p5 = i := Int32.toInt_inj.mp (by omega)
      subst hi
      have preL : Steps p.tables e below (T.setTop (mkF m 3 #[.val (.ref a1), .val (.int p5), .val (.ref a3), .val (.int p5), .val (.int p5), .val (.int p5), sx] [])) (T.setTop (mkF m 3 #[.val (.ref a1), .val (.int p5), .val (.ref a3), .val (.int p5), .val (.int p5), .val (.int p5), sx] [])) := Steps.refl _
      have pre2 : Steps p.tables e below _ (T.setTop (mkF m 46 #[.val (.ref a1), .val (.int p5), .val (.ref a3), .val (.int p5), .val (.int p5), .val (.int p5), sx] [(.int p5)])) := preL.trans (by
        show Steps p.tables e below (T.setTop (mkF m 3 #[.val (.ref a1), .val (.int p5), .val (.ref a3), .val (.int p5), .val (.int p5), .val (.int p5), sx] [])) _
        refine XS.iload X.here hx rfl (hb hby d9_3) rfl ?_
        show Steps p.tables e below (T.setTop (mkF m 5 #[.val (.ref a1), .val (.int p5), .val (.ref a3), .val (.int p5), .val (.int p5), .val (.int p5), sx] [(.int p5)])) _
        refine XS.iload X.here hx rfl (hb hby d9_5) rfl ?_
        show Steps p.tables e below (T.setTop (mkF m 7 #[.val (.ref a1), .val (.int p5), .val (.ref a3), .val (.int p5), .val (.int p5), .val (.int p5), sx] [(.int p5), (.int p5)])) _
        refine XS.icmpYes X.here hx rfl (pc0 := 7) (pc' := 44) rfl (hb hby d9_7) rfl (flt (own_irr p5)).2.1 (by decide) (by decide) ?_
        show Steps p.tables e below (T.setTop (mkF m 44 #[.val (.ref a1), .val (.int p5), .val (.ref a3), .val (.int p5), .val (.int p5), .val (.int p5), sx] [])) _
        refine XS.iload X.here hx rfl (hb hby d9_44) rfl ?_
        exact Steps.refl _)
      exact ⟨T, locs, p5, 46, _, X, Nf, K, ⟨g, F, fun k hk => (hg k hk).1⟩, i0, Int.le_refl _, fun k hk => (hg k hk).2, fun q => absurd q (Int.lt_irrefl _), (hb hby d9_46), pre2⟩
    | succ k ih =>
      intro i sx T locs g hsx X Nf K i0 ik F hg
      have preL : Steps p.tables e below (T.setTop (mkF m 3 #[.val (.ref a1), .val (.int i), .val (.ref a3), .val (.int i), .val (.int p5), .val (.int i), sx] [])) (T.setTop (mkF m 3 #[.val (.ref a1), .val (.int i), .val (.ref a3), .val (.int i), .val (.int p5), .val (.int i), sx] [])) := Steps.refl _
      have hlt : i < p5 := by rw [own_lt]; omega
      have hge : ¬ i < 0 := by rw [own_lt]; omega
      obtain ⟨cc, Ac, Sc, Mc, Hc⟩ := id (FC.keep K (fun q => nab (List.mem_singleton.mp q)))
      have hin := inb_of Sc ⟨hge, hlt⟩
      have hat := own_at Hc hin
      have pre3 : Steps p.tables e below _ (T.setTop (mkF m 13 #[.val (.ref a1), .val (.int i), .val (.ref a3), .val (.int i), .val (.int p5), .val (.int i), sx] [(.int (f i.toNatClampNeg))])) := preL.trans (by
        show Steps p.tables e below (T.setTop (mkF m 3 #[.val (.ref a1), .val (.int i), .val (.ref a3), .val (.int i), .val (.int p5), .val (.int i), sx] [])) _
        refine XS.iload X.here hx rfl (hb hby d9_3) rfl ?_
        show Steps p.tables e below (T.setTop (mkF m 5 #[.val (.ref a1), .val (.int i), .val (.ref a3), .val (.int i), .val (.int p5), .val (.int i), sx] [(.int i)])) _
        refine XS.iload X.here hx rfl (hb hby d9_5) rfl ?_
        show Steps p.tables e below (T.setTop (mkF m 7 #[.val (.ref a1), .val (.int i), .val (.ref a3), .val (.int i), .val (.int p5), .val (.int i), sx] [(.int p5), (.int i)])) _
        refine XS.icmpNo X.here hx rfl (hb hby d9_7) rfl (tlt hlt).2.1 ?_
        show Steps p.tables e below (T.setTop (mkF m 10 #[.val (.ref a1), .val (.int i), .val (.ref a3), .val (.int i), .val (.int p5), .val (.int i), sx] [])) _
        refine XS.aloadN X.here hx rfl (hb hby d9_10) rfl rfl ?_
        show Steps p.tables e below (T.setTop (mkF m 11 #[.val (.ref a1), .val (.int i), .val (.ref a3), .val (.int i), .val (.int p5), .val (.int i), sx] [(.ref a1)])) _
        refine XS.iloadN X.here hx rfl (hb hby d9_11) rfl ?_
        show Steps p.tables e below (T.setTop (mkF m 12 #[.val (.ref a1), .val (.int i), .val (.ref a3), .val (.int i), .val (.int p5), .val (.int i), sx] [(.int i), (.ref a1)])) _
        refine X.caload hx (j := i) (v := (.int (f i.toNatClampNeg))) (by rw [(rfl : T.heap = T.heap)]; exact Ac.1) (State.isArrayOf_alike hZ.alike Ac.2.1) Ac.2.2 hin hat (g := (mkF m 12 #[.val (.ref a1), .val (.int i), .val (.ref a3), .val (.int i), .val (.int p5), .val (.int i), sx] [(.int i), (.ref a1)])) rfl rfl (hb hby d9_12) _ ?_
        exact Steps.refl _)
      have hst : storeLocals #[.val (.ref a1), .val (.int i), .val (.ref a3), .val (.int i), .val (.int p5), .val (.int i), sx] 6 (.int (f i.toNatClampNeg)) = some #[.val (.ref a1), .val (.int i), .val (.ref a3), .val (.int i), .val (.int p5), .val (.int i), .val (.int (f i.toNatClampNeg))] := own_st6 hsx
      have pre4 : Steps p.tables e below _ (T.setTop (mkF m 15 #[.val (.ref a1), .val (.int i), .val (.ref a3), .val (.int i), .val (.int p5), .val (.int i), .val (.int (f i.toNatClampNeg))] [])) := pre3.trans (XS.istore X.here hx rfl (hb hby d9_13) rfl (l' := #[.val (.ref a1), .val (.int i), .val (.ref a3), .val (.int i), .val (.int p5), .val (.int i), .val (.int (f i.toNatClampNeg))]) hst (Steps.refl _))
      have pre5 : Steps p.tables e below _ (T.setTop (mkF m 20 #[.val (.ref a1), .val (.int i), .val (.ref a3), .val (.int i), .val (.int p5), .val (.int i), .val (.int (f i.toNatClampNeg))] [(.int (255 : Int32)), (.int (f i.toNatClampNeg))])) := pre4.trans (by
        show Steps p.tables e below (T.setTop (mkF m 15 #[.val (.ref a1), .val (.int i), .val (.ref a3), .val (.int i), .val (.int p5), .val (.int i), .val (.int (f i.toNatClampNeg))] [])) _
        refine XS.iload X.here hx rfl (hb hby d9_15) rfl ?_
        show Steps p.tables e below (T.setTop (mkF m 17 #[.val (.ref a1), .val (.int i), .val (.ref a3), .val (.int i), .val (.int p5), .val (.int i), .val (.int (f i.toNatClampNeg))] [(.int (f i.toNatClampNeg))])) _
        refine XS.sipush X.here hx rfl (hb hby d9_17) ?_
        exact Steps.refl _)
      rcases (Decidable.em ((255 : Int32) < f i.toNatClampNeg)) with hb2 | hb2
      · have h20 := hb2
        have pre6 : Steps p.tables e below _ (T.setTop (mkF m 25 #[.val (.ref a1), .val (.int i), .val (.ref a3), .val (.int i), .val (.int p5), .val (.int i), .val (.int (f i.toNatClampNeg))] [(.int i)])) := pre5.trans (by
          show Steps p.tables e below (T.setTop (mkF m 20 #[.val (.ref a1), .val (.int i), .val (.ref a3), .val (.int i), .val (.int p5), .val (.int i), .val (.int (f i.toNatClampNeg))] [(.int (255 : Int32)), (.int (f i.toNatClampNeg))])) _
          refine XS.icmpNo X.here hx rfl (hb hby d9_20) rfl (tlt h20).2.2.2 ?_
          show Steps p.tables e below (T.setTop (mkF m 23 #[.val (.ref a1), .val (.int i), .val (.ref a3), .val (.int i), .val (.int p5), .val (.int i), .val (.int (f i.toNatClampNeg))] [])) _
          refine XS.iload X.here hx rfl (hb hby d9_23) rfl ?_
          exact Steps.refl _)
        exact ⟨T, locs, i, 25, _, X, Nf, K, ⟨g, F, fun k hk => (hg k hk).1⟩, i0, by omega, fun k hk => (hg k hk).2, fun _ => h20, (hb hby d9_25), pre6⟩
      · have h20 := hb2
        have ZT : n0 ≤ T.heap.size := Nat.le_trans Z0 K.1
        have pre7 : Steps p.tables e below _ (T.setTop (mkF m 31 #[.val (.ref a1), .val (.int i), .val (.ref a3), .val (.int i), .val (.int p5), .val (.int i), .val (.int (f i.toNatClampNeg))] [(.int ((f i.toNatClampNeg).toInt8.toInt32)), (.int i), (.ref a3)])) := pre5.trans (by
          show Steps p.tables e below (T.setTop (mkF m 20 #[.val (.ref a1), .val (.int i), .val (.ref a3), .val (.int i), .val (.int p5), .val (.int i), .val (.int (f i.toNatClampNeg))] [(.int (255 : Int32)), (.int (f i.toNatClampNeg))])) _
          refine XS.icmpYes X.here hx rfl (pc0 := 20) (pc' := 26) rfl (hb hby d9_20) rfl (flt h20).2.2.2 (by decide) (by decide) ?_
          show Steps p.tables e below (T.setTop (mkF m 26 #[.val (.ref a1), .val (.int i), .val (.ref a3), .val (.int i), .val (.int p5), .val (.int i), .val (.int (f i.toNatClampNeg))] [])) _
          refine XS.aloadN X.here hx rfl (hb hby d9_26) rfl rfl ?_
          show Steps p.tables e below (T.setTop (mkF m 27 #[.val (.ref a1), .val (.int i), .val (.ref a3), .val (.int i), .val (.int p5), .val (.int i), .val (.int (f i.toNatClampNeg))] [(.ref a3)])) _
          refine XS.iloadN X.here hx rfl (hb hby d9_27) rfl ?_
          show Steps p.tables e below (T.setTop (mkF m 28 #[.val (.ref a1), .val (.int i), .val (.ref a3), .val (.int i), .val (.int p5), .val (.int i), .val (.int (f i.toNatClampNeg))] [(.int i), (.ref a3)])) _
          refine XS.iload X.here hx rfl (hb hby d9_28) rfl ?_
          show Steps p.tables e below (T.setTop (mkF m 30 #[.val (.ref a1), .val (.int i), .val (.ref a3), .val (.int i), .val (.int p5), .val (.int i), .val (.int (f i.toNatClampNeg))] [(.int (f i.toNatClampNeg)), (.int i), (.ref a3)])) _
          refine XS.i2b X.here hx rfl (hb hby d9_30) rfl ?_
          exact Steps.refl _)
        obtain ⟨cl8, Ar8, S8, M8, H8⟩ := id F
        have hin8 : ¬ (i < 0 ∨ cl8.slots.size ≤ (i).toNatClampNeg) := inb_of S8 ⟨hge, hlt⟩
        obtain ⟨T8, h8, X8, e8, W8, st8⟩ := stB X hx hZ (rfl : T.heap = T.heap) Ar8 (j := i) hin8 (g := (mkF m 31 #[.val (.ref a1), .val (.int i), .val (.ref a3), .val (.int i), .val (.int p5), .val (.int i), .val (.int (f i.toNatClampNeg))] [(.int ((f i.toNatClampNeg).toInt8.toInt32)), (.int i), (.ref a3)])) rfl rfl (hb hby d9_31)
        have F8 := Far.set Ar8 S8 M8 H8 W8
        have N8 := Fr.snoc X8 Nf g_a3
        have Z8 : n0 ≤ h8.size := Nat.le_trans ZT (Keep.of_wr W8).1
        have pre8 : Steps p.tables e below _ (T8.setTop (mkF m 32 #[.val (.ref a1), .val (.int i), .val (.ref a3), .val (.int i), .val (.int p5), .val (.int i), .val (.int (f i.toNatClampNeg))] [])) := pre7.trans (st8 _ (Steps.refl _))
        have pre9 : Steps p.tables e below _ (T8.setTop (mkF m 3 #[.val (.ref a1), .val (.int (i + (1 : Int32))), .val (.ref a3), .val (.int (i + (1 : Int32))), .val (.int p5), .val (.int (i + (1 : Int32))), .val (.int (f i.toNatClampNeg))] [])) := pre8.trans (by
          show Steps p.tables e below (T8.setTop (mkF m 32 #[.val (.ref a1), .val (.int i), .val (.ref a3), .val (.int i), .val (.int p5), .val (.int i), .val (.int (f i.toNatClampNeg))] [])) _
          refine XS.iinc X8.here hx rfl (hb hby d9_32) rfl (l' := #[.val (.ref a1), .val (.int (i + (1 : Int32))), .val (.ref a3), .val (.int i), .val (.int p5), .val (.int i), .val (.int (f i.toNatClampNeg))]) rfl ?_
          show Steps p.tables e below (T8.setTop (mkF m 35 #[.val (.ref a1), .val (.int (i + (1 : Int32))), .val (.ref a3), .val (.int i), .val (.int p5), .val (.int i), .val (.int (f i.toNatClampNeg))] [])) _
          refine XS.iinc X8.here hx rfl (hb hby d9_35) rfl (l' := #[.val (.ref a1), .val (.int (i + (1 : Int32))), .val (.ref a3), .val (.int (i + (1 : Int32))), .val (.int p5), .val (.int i), .val (.int (f i.toNatClampNeg))]) rfl ?_
          show Steps p.tables e below (T8.setTop (mkF m 38 #[.val (.ref a1), .val (.int (i + (1 : Int32))), .val (.ref a3), .val (.int (i + (1 : Int32))), .val (.int p5), .val (.int i), .val (.int (f i.toNatClampNeg))] [])) _
          refine XS.iinc X8.here hx rfl (hb hby d9_38) rfl (l' := #[.val (.ref a1), .val (.int (i + (1 : Int32))), .val (.ref a3), .val (.int (i + (1 : Int32))), .val (.int p5), .val (.int (i + (1 : Int32))), .val (.int (f i.toNatClampNeg))]) rfl ?_
          show Steps p.tables e below (T8.setTop (mkF m 41 #[.val (.ref a1), .val (.int (i + (1 : Int32))), .val (.ref a3), .val (.int (i + (1 : Int32))), .val (.int p5), .val (.int (i + (1 : Int32))), .val (.int (f i.toNatClampNeg))] [])) _
          refine XS.goto X8.here hx rfl (pc0 := 41) (pc' := 3) rfl (hb hby d9_41) (by decide) (by decide) ?_
          exact Steps.refl _)
        have ei := own_inc i i0 (by omega)
        obtain ⟨T', locs', r, pc, Ls, q⟩ := ih (i + (1 : Int32)) (.val (.int (f i.toNatClampNeg))) T8 _ _ (One.val (w := .int (f i.toNatClampNeg)) rfl) X8 N8 (by rw [e8]; exact K.wr W8 (Or.inl (List.mem_singleton.mpr rfl))) (by omega) (by omega) (by rw [e8]; exact F8) (fun j hj => by
            have w1 := own_nat i i0
            show (if j = i.toNatClampNeg then nar .byte (own_l (f i.toNatClampNeg)) else g j) = own_l (f j) ∧ _
            by_cases q1 : j = i.toNatClampNeg
            · subst q1; rw [if_pos rfl, own_nb]; exact ⟨rfl, h20⟩
            · rw [if_neg q1]; exact hg j (by omega))
        obtain ⟨q1, q2, q3, q4, q5, q6, q7, q8, q9, q10⟩ := q
        exact ⟨T', locs', r, pc, Ls, q1, q2, q3, q4, q5, q6, q7, q8, q9, pre9.trans q10⟩
  obtain ⟨T9, l9, r, pc9, Ls9, X9, N9, K9, F9, r0, r1, r2, r3, d9, st9⟩ := loop p5.toInt.toNat (0 : Int32) .unset s₁ [] (fun _ => 0) One.u X0 N0 (by rw [e0]; exact Keep.refl _ _) (by decide) (by rw [Int.toNat_of_nonneg (by omega)]; exact Int.zero_add _) (by rw [e0]; exact FB) (fun j hj => by rw [e00] at hj; omega)
  obtain ⟨fs, hr, hrun, hended, hW, hsame⟩ := X9.leave (v := some (.int r)) (fun h => by rw [Bd.returns] at h; cases h)
  refine ⟨_, _, (pre1.trans st9).trans (retI X9 hx Bd.returns d9 hr), hrun, hended, _, _, rfl, ?_, ⟨_, rfl⟩, hW, hsame.mono (by decide) (by decide)⟩
  exact ⟨r, rfl, N9, K9, F9, r0, r1, r2, r3⟩
theorem d8_0 : decode jdk_52_method_16_code 0 = .ok (.iload_n 2, 1) := by decide +kernel
theorem d8_1 : decode jdk_52_method_16_code 1 = .ok (.newarray .byte, 2) := by decide +kernel
theorem d8_3 : decode jdk_52_method_16_code 3 = .ok (.astore_n 3, 1) := by decide +kernel
theorem d8_4 : decode jdk_52_method_16_code 4 = .ok (.aload_n 0, 1) := by decide +kernel
theorem d8_5 : decode jdk_52_method_16_code 5 = .ok (.iload_n 1, 1) := by decide +kernel
theorem d8_6 : decode jdk_52_method_16_code 6 = .ok (.aload_n 3, 1) := by decide +kernel
theorem d8_7 : decode jdk_52_method_16_code 7 = .ok (.iconst 0, 1) := by decide +kernel
theorem d8_8 : decode jdk_52_method_16_code 8 = .ok (.iload_n 2, 1) := by decide +kernel
theorem d8_9 : decode jdk_52_method_16_code 9 = .ok (.invokestatic 115, 3) := by decide +kernel
theorem d8_12 : decode jdk_52_method_16_code 12 = .ok (.istore 4, 2) := by decide +kernel
theorem d8_14 : decode jdk_52_method_16_code 14 = .ok (.iload 4, 2) := by decide +kernel
theorem d8_16 : decode jdk_52_method_16_code 16 = .ok (.iload_n 2, 1) := by decide +kernel
theorem d8_17 : decode jdk_52_method_16_code 17 = .ok (.if_icmp .eq 40, 3) := by decide +kernel
theorem d8_20 : decode jdk_52_method_16_code 20 = .ok (.aload_n 0, 1) := by decide +kernel
theorem d8_21 : decode jdk_52_method_16_code 21 = .ok (.iload_n 1, 1) := by decide +kernel
theorem d8_22 : decode jdk_52_method_16_code 22 = .ok (.iload_n 2, 1) := by decide +kernel
theorem d8_23 : decode jdk_52_method_16_code 23 = .ok (.invokestatic 119, 3) := by decide +kernel
theorem d8_26 : decode jdk_52_method_16_code 26 = .ok (.astore 5, 2) := by decide +kernel
theorem d8_28 : decode jdk_52_method_16_code 28 = .ok (.aload 5, 2) := by decide +kernel
theorem d8_30 : decode jdk_52_method_16_code 30 = .ok (.iload 4, 2) := by decide +kernel
theorem d8_32 : decode jdk_52_method_16_code 32 = .ok (.invokestatic 71, 3) := by decide +kernel
theorem d8_35 : decode jdk_52_method_16_code 35 = .ok (.sipush 255, 3) := by decide +kernel
theorem d8_38 : decode jdk_52_method_16_code 38 = .ok (.if_icmp .gt 16, 3) := by decide +kernel
theorem d8_54 : decode jdk_52_method_16_code 54 = .ok (.aload 5, 2) := by decide +kernel
theorem d8_56 : decode jdk_52_method_16_code 56 = .ok (.areturn, 1) := by decide +kernel
theorem d8_57 : decode jdk_52_method_16_code 57 = .ok (.aload_n 3, 1) := by decide +kernel
theorem d8_58 : decode jdk_52_method_16_code 58 = .ok (.areturn, 1) := by decide +kernel
theorem pn_rmC1 : plainName "java/lang/StringUTF16" = true := by first | (simp [plainName, overriddenIn]; done) | decide +kernel
theorem pd_rmC1_0 : parseMethodDescriptor "([CI[BII)I" = some ⟨[(.array .char), .int, (.array .byte), .int, .int], some .int⟩ := by decide +kernel
theorem pd_rmC1_1 : parseMethodDescriptor "([CII)[B" = some ⟨[(.array .char), .int, .int], some (.array .byte)⟩ := by decide +kernel
theorem pd_rmC1_2 : parseMethodDescriptor "([BI)C" = some ⟨[(.array .byte), .int], some .char⟩ := by decide +kernel
theorem ef_rmC1 (m : MethodId) (a1 : Addr) (p2 : Int32) (p3 : Int32) : entryFrame m #[(.ref a1), (.int p2), (.int p3)] 6 = (mkF m 0 #[.val (.ref a1), .val (.int p2), .val (.int p3), .unset, .unset, .unset] []) := by first | (simp [entryFrame, mkF, argsToLocals, Value.category]; done) | rfl
def Q_rmC1 (Z : State) (a1 : Addr) (p2 : Int32) (p3 : Int32) (f : Nat → Int32) (h0 : Heap) (n0 : Nat) (v : Option Value) (h : Heap) (L : List Loc) : Prop := ∃ b, v = some (.ref b) ∧ Fr n0 L ∧ Keep h0 h [] ∧ (((∀ k : Nat, (k : Int) < p3.toInt → ¬ (255 : Int32) < f k) ∧ ∃ g, Far Z h b .byte p3 g ∧ ∀ k : Nat, (k : Int) < p3.toInt → g k = own_l (f k)) ∨ (∃ g, Far Z h b .byte (own_dbl p3) g ∧ ∀ k : Nat, (k : Int) < p3.toInt → g (2 * k) = own_l (f k) ∧ g (2 * k + 1) = own_h (f k)))
set_option maxRecDepth 65536 in
set_option maxHeartbeats 40000000 in
theorem rmC1 (l : Launch) (Z : State) (a0 : Array Value) (hw : ∀ d ∈ tables_1, d.before a0 Z = true) (ws : List Jvm.Cond) (a1 : Addr) (p2 : Int32) (p3 : Int32) (f : Nat → Int32) (h0 : Heap) (n0 : Nat) (Z0 : n0 ≤ h0.size) (h2 : p2 = 0) (hn1 : 1 ≤ p3.toInt) (hn4 : p3.toInt ≤ 4) (SA : Sta Z h0 "java/lang/StringUTF16" "$assertionsDisabled" "Z" (.int (1 : Int32))) (SH : Sta Z h0 "java/lang/StringUTF16" "HI_BYTE_SHIFT" "I" (.int (0 : Int32))) (SL : Sta Z h0 "java/lang/StringUTF16" "LO_BYTE_SHIFT" "I" (.int (8 : Int32))) (FC : Far Z h0 a1 .char p3 f) (hch : ∀ k : Nat, 0 ≤ (f k).toInt ∧ (f k).toInt < 65536) :
    MetFree l (⟨"java/lang/StringUTF16", "compress", "([CII)[B"⟩ : MethodName) (head1 (Jvm.Cond.code (⟨"java/lang/StringUTF16", "compress", "([CII)[B"⟩ : MethodName) jdk_52_method_16_code 6 (some (.array .byte)) :: ws) ({ frames := 3, cells := 2, slots := 12, locals := 42 } : Room)) (fun a U => a = #[(.ref a1), (.int p2), (.int p3)] ∧ Z.Warmed39 U.vm ∧ U.heap = h0) (fun _ _ _ _ _ => True) (fun _ U o U' => ∃ v L, o = .returned v ∧ Q_rmC1 Z a1 p2 p3 f h0 n0 v U'.heap L ∧ FrameEnd U o U' L ({ frames := 3, cells := 2, slots := 12, locals := 42 } : Room).cells ({ frames := 3, cells := 2, slots := 12, locals := 42 } : Room).slots) := by
  refine MetFree.of_bodySF (plainFor_of_name pn_rmC1) hisR ?_
  intro p e s m args below meth c s₁ Bd hml0 hP hK
  obtain ⟨rfl, hZ, hh⟩ := hP
  have hx := Bd.exec
  have hby := Bd.bytes
  have hml : c.maxLocals = 6 := hml0
  have hown : s.vm.findClass "java/lang/StringUTF16" = some m.cls := findClass_of_methodNamed Bd.named
  have hnm := (name_of_methodNamed Bd.named Bd.method).1
  have X0 : Stand p l e ({ frames := 3, cells := 2, slots := 12, locals := 42 } : Room) s m #[(.ref a1), (.int p2), (.int p3)] below meth c s₁ [] 0 0 := Stand.of_body Bd
  have e0 : s₁.heap = h0 := by rw [← hh, Bd.state]; rfl
  have N0 := Fr.nil n0
  have pre0 : Steps p.tables e below (s₁.setTop (entryFrame m #[(.ref a1), (.int p2), (.int p3)] 6)) (s₁.setTop (mkF m 0 #[.val (.ref a1), .val (.int p2), .val (.int p3), .unset, .unset, .unset] [])) := castTop (ef_rmC1 m a1 p2 p3) (Steps.refl _)
  subst h2
  have e00 : (0 : Int32).toInt = 0 := rfl
  have u1 : ¬ p3 < (0 : Int32) := by rw [own_lt]; omega
  have u4 : p3.toNatClampNeg ≤ 4 := by have q := own_nat p3 (by omega); omega
  have pre1 : Steps p.tables e below _ (s₁.setTop (mkF m 1 #[.val (.ref a1), .val (.int (0 : Int32)), .val (.int p3), .unset, .unset, .unset] [(.int p3)])) := pre0.trans (by
    show Steps p.tables e below (s₁.setTop (mkF m 0 #[.val (.ref a1), .val (.int (0 : Int32)), .val (.int p3), .unset, .unset, .unset] [])) _
    refine XS.iloadN X0.here hx rfl (hb hby d8_0) rfl ?_
    exact Steps.refl _)
  obtain ⟨T2, h2, k2, X2, e2, E2, A2, st2⟩ := newP X0 hx hZ (hw _ (List.mem_of_getElem? (i := 20) rfl)) e0 (g := (mkF m 1 #[.val (.ref a1), .val (.int (0 : Int32)), .val (.int p3), .unset, .unset, .unset] [(.int p3)])) rfl (hb hby d8_1) rfl u1 (cap := 4) u4 (by decide) (by decide) (by decide)
  obtain ⟨bb, g2⟩ : ∃ z, z = h0.size := ⟨_, rfl⟩
  rw [← g2] at A2 st2
  have g_bb : n0 ≤ bb := Nat.le_trans Z0 (Nat.le_of_eq g2.symm)
  have lt_bb : bb < h2.size := A2.lt
  have F2 : Far Z h2 bb .byte p3 (fun _ => 0) := Far.new A2 u1 rfl
  have Z2 : n0 ≤ h2.size := Nat.le_trans Z0 E2.1
  have pre2 : Steps p.tables e below _ (T2.setTop (mkF m 3 #[.val (.ref a1), .val (.int (0 : Int32)), .val (.int p3), .unset, .unset, .unset] [(.ref bb)])) := pre1.trans (st2 _ (Steps.refl _))
  have nab : a1 ≠ bb := Nat.ne_of_lt (Nat.lt_of_lt_of_le FC.lt (Nat.le_of_eq g2.symm))
  have pre3 : Steps p.tables e below _ (T2.setTop (mkF m 9 #[.val (.ref a1), .val (.int (0 : Int32)), .val (.int p3), .val (.ref bb), .unset, .unset] [(.int p3), (.int (0 : Int32)), (.ref bb), (.int (0 : Int32)), (.ref a1)])) := pre2.trans (by
    show Steps p.tables e below (T2.setTop (mkF m 3 #[.val (.ref a1), .val (.int (0 : Int32)), .val (.int p3), .unset, .unset, .unset] [(.ref bb)])) _
    refine XS.astoreN X2.here hx rfl (hb hby d8_3) rfl rfl (l' := #[.val (.ref a1), .val (.int (0 : Int32)), .val (.int p3), .val (.ref bb), .unset, .unset]) rfl ?_
    show Steps p.tables e below (T2.setTop (mkF m 4 #[.val (.ref a1), .val (.int (0 : Int32)), .val (.int p3), .val (.ref bb), .unset, .unset] [])) _
    refine XS.aloadN X2.here hx rfl (hb hby d8_4) rfl rfl ?_
    show Steps p.tables e below (T2.setTop (mkF m 5 #[.val (.ref a1), .val (.int (0 : Int32)), .val (.int p3), .val (.ref bb), .unset, .unset] [(.ref a1)])) _
    refine XS.iloadN X2.here hx rfl (hb hby d8_5) rfl ?_
    show Steps p.tables e below (T2.setTop (mkF m 6 #[.val (.ref a1), .val (.int (0 : Int32)), .val (.int p3), .val (.ref bb), .unset, .unset] [(.int (0 : Int32)), (.ref a1)])) _
    refine XS.aloadN X2.here hx rfl (hb hby d8_6) rfl rfl ?_
    show Steps p.tables e below (T2.setTop (mkF m 7 #[.val (.ref a1), .val (.int (0 : Int32)), .val (.int p3), .val (.ref bb), .unset, .unset] [(.ref bb), (.int (0 : Int32)), (.ref a1)])) _
    refine XS.iconst X2.here hx rfl (hb hby d8_7) ?_
    show Steps p.tables e below (T2.setTop (mkF m 8 #[.val (.ref a1), .val (.int (0 : Int32)), .val (.int p3), .val (.ref bb), .unset, .unset] [(.int (0 : Int32)), (.ref bb), (.int (0 : Int32)), (.ref a1)])) _
    refine XS.iloadN X2.here hx rfl (hb hby d8_8) rfl ?_
    exact Steps.refl _)
  obtain ⟨_, _, ⟨T4, L4, k4, n4⟩, -, X4, ⟨Lc4, hQ4, l4, y4, z4⟩, st4⟩ := Jvm.LawKit.callS X2 hx (y := (⟨"java/lang/StringUTF16", "compress", "([CI[BII)I"⟩ : MethodName)) hown (mvT hZ (hw _ (List.mem_of_getElem? (i := 46) rfl))) (mvT hZ (hw _ (List.mem_of_getElem? (i := 47) rfl))) (mvT hZ (hw _ (List.mem_of_getElem? (i := 44) rfl))) (mvT hZ (hw _ (List.mem_of_getElem? (i := 48) rfl))) (by decide) (backOf (W := 0) (rmC2 l Z a0 hw [] a1 (0 : Int32) bb (0 : Int32) p3 f h2 n0 Z2 rfl rfl hn1 hn4 (FC.ext E2) F2 nab g_bb) hZ (hw _ (List.mem_of_getElem? (i := 48) rfl)) (hw _ (List.mem_of_getElem? (i := 44) rfl)) (by decide) (by decide)) (g := (mkF m 9 #[.val (.ref a1), .val (.int (0 : Int32)), .val (.int p3), .val (.ref bb), .unset, .unset] [(.int p3), (.int (0 : Int32)), (.ref bb), (.int (0 : Int32)), (.ref a1)])) rfl (by rw [hml]; rfl) (argsL := [(.ref a1), (.int (0 : Int32)), (.ref bb), (.int (0 : Int32)), (.int p3)]) (rest := []) (lenOf pd_rmC1_0 rfl) rfl (by show 2 * 0 + _ ≤ _; exact Nat.le_of_eq rfl) (hb hby d8_9) (fun _ _ => ⟨rfl, e2, (by decide : 1 + 0 ≤ _), (by decide : 4 + 0 ≤ _)⟩)
  dsimp only [Pt.U, Pt.locs, Pt.cells, Pt.slots] at X4 l4 y4 z4 st4 hQ4
  subst l4 y4 z4
  obtain ⟨r, rfl, N4q, K4, ⟨gb, FG, hgb⟩, r0, r1, r2, r3⟩ := hQ4
  have N4 := Fr.app N0 N4q
  have pre4 : Steps p.tables e below _ (T4.setTop (mkF m 12 #[.val (.ref a1), .val (.int (0 : Int32)), .val (.int p3), .val (.ref bb), .unset, .unset] [(.int r)])) := pre3.trans (st4 _ (Steps.refl _))
  have KK : Keep h0 T4.heap [] := ((Keep.refl h0 []).ext E2).trans K4 (fun x hx => Or.inr (by rw [List.mem_singleton.mp hx]; exact Nat.le_of_eq g2.symm))
  have ZK : n0 ≤ T4.heap.size := Nat.le_trans Z0 KK.1
  have pre5 : Steps p.tables e below _ (T4.setTop (mkF m 17 #[.val (.ref a1), .val (.int (0 : Int32)), .val (.int p3), .val (.ref bb), .val (.int r), .unset] [(.int p3), (.int r)])) := pre4.trans (by
    show Steps p.tables e below (T4.setTop (mkF m 12 #[.val (.ref a1), .val (.int (0 : Int32)), .val (.int p3), .val (.ref bb), .unset, .unset] [(.int r)])) _
    refine XS.istore X4.here hx rfl (hb hby d8_12) rfl (l' := #[.val (.ref a1), .val (.int (0 : Int32)), .val (.int p3), .val (.ref bb), .val (.int r), .unset]) rfl ?_
    show Steps p.tables e below (T4.setTop (mkF m 14 #[.val (.ref a1), .val (.int (0 : Int32)), .val (.int p3), .val (.ref bb), .val (.int r), .unset] [])) _
    refine XS.iload X4.here hx rfl (hb hby d8_14) rfl ?_
    show Steps p.tables e below (T4.setTop (mkF m 16 #[.val (.ref a1), .val (.int (0 : Int32)), .val (.int p3), .val (.ref bb), .val (.int r), .unset] [(.int r)])) _
    refine XS.iloadN X4.here hx rfl (hb hby d8_16) rfl ?_
    exact Steps.refl _)
  rcases Decidable.em (r = p3) with hr | hr
  · have h17 := hr
    rw [h17] at r2 hgb
    have pre6 : Steps p.tables e below _ (T4.setTop (mkF m 58 #[.val (.ref a1), .val (.int (0 : Int32)), .val (.int p3), .val (.ref bb), .val (.int r), .unset] [(.ref bb)])) := pre5.trans (by
      show Steps p.tables e below (T4.setTop (mkF m 17 #[.val (.ref a1), .val (.int (0 : Int32)), .val (.int p3), .val (.ref bb), .val (.int r), .unset] [(.int p3), (.int r)])) _
      refine XS.icmpYes X4.here hx rfl (pc0 := 17) (pc' := 57) rfl (hb hby d8_17) rfl (teq h17).1 (by decide) (by decide) ?_
      show Steps p.tables e below (T4.setTop (mkF m 57 #[.val (.ref a1), .val (.int (0 : Int32)), .val (.int p3), .val (.ref bb), .val (.int r), .unset] [])) _
      refine XS.aloadN X4.here hx rfl (hb hby d8_57) rfl rfl ?_
      exact Steps.refl _)
    obtain ⟨fs, hr, hrun, hended, hW, hsame⟩ := (X4.more (show 1 ≤ 2 by decide) (show 4 ≤ 12 by decide)).leave (v := some (.ref bb)) (fun h => by rw [Bd.returns] at h; cases h)
    refine ⟨_, _, pre6.trans ?_, hrun, hended, _, _, rfl, ?_, ⟨_, rfl⟩, hW, hsame.mono (by decide) (by decide)⟩
    · exact (X4.more (show 1 ≤ 2 by decide) (show 4 ≤ 12 by decide)).areturnOut hx rfl Bd.returns rfl (hb hby d8_58) hr
    · exact ⟨bb, rfl, N4, KK, Or.inl ⟨r2, gb, FG, hgb⟩⟩
  · have h17 := hr
    have rlt : r.toInt < p3.toInt := by have q : r.toInt ≠ p3.toInt := fun q => h17 (Int32.toInt_inj.mp q); omega
    have pre7 : Steps p.tables e below _ (T4.setTop (mkF m 23 #[.val (.ref a1), .val (.int (0 : Int32)), .val (.int p3), .val (.ref bb), .val (.int r), .unset] [(.int p3), (.int (0 : Int32)), (.ref a1)])) := pre5.trans (by
      show Steps p.tables e below (T4.setTop (mkF m 17 #[.val (.ref a1), .val (.int (0 : Int32)), .val (.int p3), .val (.ref bb), .val (.int r), .unset] [(.int p3), (.int r)])) _
      refine XS.icmpNo X4.here hx rfl (hb hby d8_17) rfl (feq h17).1 ?_
      show Steps p.tables e below (T4.setTop (mkF m 20 #[.val (.ref a1), .val (.int (0 : Int32)), .val (.int p3), .val (.ref bb), .val (.int r), .unset] [])) _
      refine XS.aloadN X4.here hx rfl (hb hby d8_20) rfl rfl ?_
      show Steps p.tables e below (T4.setTop (mkF m 21 #[.val (.ref a1), .val (.int (0 : Int32)), .val (.int p3), .val (.ref bb), .val (.int r), .unset] [(.ref a1)])) _
      refine XS.iloadN X4.here hx rfl (hb hby d8_21) rfl ?_
      show Steps p.tables e below (T4.setTop (mkF m 22 #[.val (.ref a1), .val (.int (0 : Int32)), .val (.int p3), .val (.ref bb), .val (.int r), .unset] [(.int (0 : Int32)), (.ref a1)])) _
      refine XS.iloadN X4.here hx rfl (hb hby d8_22) rfl ?_
      exact Steps.refl _)
    obtain ⟨_, _, ⟨T8, L8, k8, n8⟩, -, X8, ⟨Lc8, hQ8, l8, y8, z8⟩, st8⟩ := Jvm.LawKit.callS X4 hx (y := (⟨"java/lang/StringUTF16", "toBytes", "([CII)[B"⟩ : MethodName)) hown (mvT hZ (hw _ (List.mem_of_getElem? (i := 80) rfl))) (mvT hZ (hw _ (List.mem_of_getElem? (i := 81) rfl))) (mvT hZ (hw _ (List.mem_of_getElem? (i := 44) rfl))) (mvT hZ (hw _ (List.mem_of_getElem? (i := 82) rfl))) (by decide) (backOf (W := 0) (rmTB l Z a0 hw [] a1 (0 : Int32) p3 f T4.heap n0 ZK rfl hn1 hn4 (Sta.keepN SA KK (fun x hx => nomatch hx)) (Sta.keepN SH KK (fun x hx => nomatch hx)) (Sta.keepN SL KK (fun x hx => nomatch hx)) (FC.keep KK nin0)) hZ (hw _ (List.mem_of_getElem? (i := 82) rfl)) (hw _ (List.mem_of_getElem? (i := 44) rfl)) (by decide) (by decide)) (g := (mkF m 23 #[.val (.ref a1), .val (.int (0 : Int32)), .val (.int p3), .val (.ref bb), .val (.int r), .unset] [(.int p3), (.int (0 : Int32)), (.ref a1)])) rfl (by rw [hml]; rfl) (argsL := [(.ref a1), (.int (0 : Int32)), (.int p3)]) (rest := []) (lenOf pd_rmC1_1 rfl) rfl (by show 2 * 0 + _ ≤ _; exact Nat.le_of_eq rfl) (hb hby d8_23) (fun _ _ => ⟨rfl, (rfl : T4.heap = T4.heap), (by decide : 1 + 1 ≤ _), (by decide : 4 + 8 ≤ _)⟩)
    dsimp only [Pt.U, Pt.locs, Pt.cells, Pt.slots] at X8 l8 y8 z8 st8 hQ8
    subst l8 y8 z8
    obtain ⟨rfl, N8q, K8, ⟨gu, FU, hgu⟩⟩ := hQ8
    have N8 := Fr.app N4 N8q
    have pre8 : Steps p.tables e below _ (T8.setTop (mkF m 26 #[.val (.ref a1), .val (.int (0 : Int32)), .val (.int p3), .val (.ref bb), .val (.int r), .unset] [(.ref T4.heap.size)])) := pre7.trans (st8 _ (Steps.refl _))
    have KU : Keep h0 T8.heap [] := KK.trans K8 (fun x hx => nomatch hx)
    have ZU : n0 ≤ T8.heap.size := Nat.le_trans Z0 KU.1
    obtain ⟨t1, t2, t3, t4⟩ := own_in2 r p3 r0 rlt hn4
    have wr := own_nat r r0
    obtain ⟨c1, c2⟩ := hgu r.toNatClampNeg (by omega)
    have hcr := hch r.toNatClampNeg
    have pre9 : Steps p.tables e below _ (T8.setTop (mkF m 32 #[.val (.ref a1), .val (.int (0 : Int32)), .val (.int p3), .val (.ref bb), .val (.int r), .val (.ref T4.heap.size)] [(.int r), (.ref T4.heap.size)])) := pre8.trans (by
      show Steps p.tables e below (T8.setTop (mkF m 26 #[.val (.ref a1), .val (.int (0 : Int32)), .val (.int p3), .val (.ref bb), .val (.int r), .unset] [(.ref T4.heap.size)])) _
      refine XS.astore X8.here hx rfl (hb hby d8_26) rfl rfl (l' := #[.val (.ref a1), .val (.int (0 : Int32)), .val (.int p3), .val (.ref bb), .val (.int r), .val (.ref T4.heap.size)]) rfl ?_
      show Steps p.tables e below (T8.setTop (mkF m 28 #[.val (.ref a1), .val (.int (0 : Int32)), .val (.int p3), .val (.ref bb), .val (.int r), .val (.ref T4.heap.size)] [])) _
      refine XS.aload X8.here hx rfl (hb hby d8_28) rfl rfl ?_
      show Steps p.tables e below (T8.setTop (mkF m 30 #[.val (.ref a1), .val (.int (0 : Int32)), .val (.int p3), .val (.ref bb), .val (.int r), .val (.ref T4.heap.size)] [(.ref T4.heap.size)])) _
      refine XS.iload X8.here hx rfl (hb hby d8_30) rfl ?_
      exact Steps.refl _)
    obtain ⟨_, _, ⟨T10, L10, k10, n10⟩, -, X10, ⟨Lc10, hQ10, l10, y10, z10⟩, st10⟩ := Jvm.LawKit.callS X8 hx (y := (⟨"java/lang/StringUTF16", "getChar", "([BI)C"⟩ : MethodName)) hown (mvT hZ (hw _ (List.mem_of_getElem? (i := 96) rfl))) (mvT hZ (hw _ (List.mem_of_getElem? (i := 97) rfl))) (mvT hZ (hw _ (List.mem_of_getElem? (i := 44) rfl))) (mvT hZ (hw _ (List.mem_of_getElem? (i := 98) rfl))) (by decide) (backOf (W := 0) (rmGC l Z a0 hw [] T4.heap.size r (own_dbl p3) (own_dbl r) (f r.toNatClampNeg) gu T8.heap n0 ZU (Sta.keepN SA KU (fun x hx => nomatch hx)) (Sta.keepN SH KU (fun x hx => nomatch hx)) (Sta.keepN SL KU (fun x hx => nomatch hx)) FU rfl t1 t2 (by rw [t3]; exact c1) (by rw [t4]; exact c2) hcr.1 hcr.2) hZ (hw _ (List.mem_of_getElem? (i := 98) rfl)) (hw _ (List.mem_of_getElem? (i := 44) rfl)) (by decide) (by decide)) (g := (mkF m 32 #[.val (.ref a1), .val (.int (0 : Int32)), .val (.int p3), .val (.ref bb), .val (.int r), .val (.ref T4.heap.size)] [(.int r), (.ref T4.heap.size)])) rfl (by rw [hml]; rfl) (argsL := [(.ref T4.heap.size), (.int r)]) (rest := []) (lenOf pd_rmC1_2 rfl) rfl (by show 2 * 0 + _ ≤ _; exact Nat.le_of_eq rfl) (hb hby d8_32) (fun _ _ => ⟨rfl, (rfl : T8.heap = T8.heap), (by decide : 2 + 0 ≤ _), (by decide : 12 + 0 ≤ _)⟩)
    dsimp only [Pt.U, Pt.locs, Pt.cells, Pt.slots] at X10 l10 y10 z10 st10 hQ10
    subst l10 y10 z10
    obtain ⟨rfl, N10q, hh10⟩ := hQ10
    have N10 := Fr.app N8 N10q
    have pre10 : Steps p.tables e below _ (T10.setTop (mkF m 35 #[.val (.ref a1), .val (.int (0 : Int32)), .val (.int p3), .val (.ref bb), .val (.int r), .val (.ref T4.heap.size)] [(.int (f r.toNatClampNeg))])) := pre9.trans (st10 _ (Steps.refl _))
    have pre11 : Steps p.tables e below _ (T10.setTop (mkF m 56 #[.val (.ref a1), .val (.int (0 : Int32)), .val (.int p3), .val (.ref bb), .val (.int r), .val (.ref T4.heap.size)] [(.ref T4.heap.size)])) := pre10.trans (by
      show Steps p.tables e below (T10.setTop (mkF m 35 #[.val (.ref a1), .val (.int (0 : Int32)), .val (.int p3), .val (.ref bb), .val (.int r), .val (.ref T4.heap.size)] [(.int (f r.toNatClampNeg))])) _
      refine XS.sipush X10.here hx rfl (hb hby d8_35) ?_
      show Steps p.tables e below (T10.setTop (mkF m 38 #[.val (.ref a1), .val (.int (0 : Int32)), .val (.int p3), .val (.ref bb), .val (.int r), .val (.ref T4.heap.size)] [(.int (255 : Int32)), (.int (f r.toNatClampNeg))])) _
      refine XS.icmpYes X10.here hx rfl (pc0 := 38) (pc' := 54) rfl (hb hby d8_38) rfl (tlt (r3 rlt)).2.2.1 (by decide) (by decide) ?_
      show Steps p.tables e below (T10.setTop (mkF m 54 #[.val (.ref a1), .val (.int (0 : Int32)), .val (.int p3), .val (.ref bb), .val (.int r), .val (.ref T4.heap.size)] [])) _
      refine XS.aload X10.here hx rfl (hb hby d8_54) rfl rfl ?_
      exact Steps.refl _)
    obtain ⟨fs, hr, hrun, hended, hW, hsame⟩ := X10.leave (v := some (.ref T4.heap.size)) (fun h => by rw [Bd.returns] at h; cases h)
    refine ⟨_, _, pre11.trans ?_, hrun, hended, _, _, rfl, ?_, ⟨_, rfl⟩, hW, hsame.mono (by decide) (by decide)⟩
    · exact X10.areturnOut hx rfl Bd.returns rfl (hb hby d8_56) hr
    · exact ⟨_, rfl, N10, by show Keep h0 T10.heap []; rw [hh10]; exact KU, Or.inr ⟨gu, by show Far Z T10.heap _ _ _ _; rw [hh10]; exact FU, hgu⟩⟩
theorem d10_0 : decode jdk_52_method_15_code 0 = .ok (.iload_n 1, 1) := by decide +kernel
theorem d10_1 : decode jdk_52_method_15_code 1 = .ok (.aload_n 0, 1) := by decide +kernel
theorem d10_2 : decode jdk_52_method_15_code 2 = .ok (.arraylength, 1) := by decide +kernel
theorem d10_3 : decode jdk_52_method_15_code 3 = .ok (.isub, 1) := by decide +kernel
theorem d10_4 : decode jdk_52_method_15_code 4 = .ok (.bipush 31, 2) := by decide +kernel
theorem d10_6 : decode jdk_52_method_15_code 6 = .ok (.iushr, 1) := by decide +kernel
theorem d10_7 : decode jdk_52_method_15_code 7 = .ok (.i2b, 1) := by decide +kernel
theorem d10_8 : decode jdk_52_method_15_code 8 = .ok (.ireturn, 1) := by decide +kernel
theorem pn_rmCL : plainName "java/lang/StringUTF16" = true := by first | (simp [plainName, overriddenIn]; done) | decide +kernel
theorem ef_rmCL (m : MethodId) (a1 : Addr) (p2 : Int32) : entryFrame m #[(.ref a1), (.int p2)] 2 = (mkF m 0 #[.val (.ref a1), .val (.int p2)] []) := by first | (simp [entryFrame, mkF, argsToLocals, Value.category]; done) | rfl
def Q_rmCL (Z : State) (a1 : Addr) (p2 : Int32) (m2 cd : Int32) (g : Nat → Int32) (h0 : Heap) (n0 : Nat) (v : Option Value) (h : Heap) (L : List Loc) : Prop := v = some (.int cd) ∧ Fr n0 L ∧ h = h0
set_option maxRecDepth 65536 in
set_option maxHeartbeats 40000000 in
theorem rmCL (l : Launch) (Z : State) (a0 : Array Value) (hw : ∀ d ∈ tables_1, d.before a0 Z = true) (ws : List Jvm.Cond) (a1 : Addr) (p2 : Int32) (m2 cd : Int32) (g : Nat → Int32) (h0 : Heap) (n0 : Nat) (Z0 : n0 ≤ h0.size) (FB : Far Z h0 a1 .byte m2 g) (hcd : (((p2 - m2).toUInt32 >>> ((31 : Int32) &&& 31).toUInt32).toInt32).toInt8.toInt32 = cd) (hcn : nar .byte cd = cd) :
    MetFree l (⟨"java/lang/StringUTF16", "coderFromArrayLen", "([BI)B"⟩ : MethodName) (head1 (Jvm.Cond.code (⟨"java/lang/StringUTF16", "coderFromArrayLen", "([BI)B"⟩ : MethodName) jdk_52_method_15_code 2 (some .byte) :: ws) ({ frames := 0, cells := 0, slots := 0, locals := 0 } : Room)) (fun a U => a = #[(.ref a1), (.int p2)] ∧ Z.Warmed39 U.vm ∧ U.heap = h0) (fun _ _ _ _ _ => True) (fun _ U o U' => ∃ v L, o = .returned v ∧ Q_rmCL Z a1 p2 m2 cd g h0 n0 v U'.heap L ∧ FrameEnd U o U' L ({ frames := 0, cells := 0, slots := 0, locals := 0 } : Room).cells ({ frames := 0, cells := 0, slots := 0, locals := 0 } : Room).slots) := by
  refine MetFree.of_bodySF (plainFor_of_name pn_rmCL) hisR ?_
  intro p e s m args below meth c s₁ Bd hml0 hP hK
  obtain ⟨rfl, hZ, hh⟩ := hP
  have hx := Bd.exec
  have hby := Bd.bytes
  have hml : c.maxLocals = 2 := hml0
  have hown : s.vm.findClass "java/lang/StringUTF16" = some m.cls := findClass_of_methodNamed Bd.named
  have hnm := (name_of_methodNamed Bd.named Bd.method).1
  have X0 : Stand p l e ({ frames := 0, cells := 0, slots := 0, locals := 0 } : Room) s m #[(.ref a1), (.int p2)] below meth c s₁ [] 0 0 := Stand.of_body Bd
  have e0 : s₁.heap = h0 := by rw [← hh, Bd.state]; rfl
  have N0 := Fr.nil n0
  have pre0 : Steps p.tables e below (s₁.setTop (entryFrame m #[(.ref a1), (.int p2)] 2)) (s₁.setTop (mkF m 0 #[.val (.ref a1), .val (.int p2)] [])) := castTop (ef_rmCL m a1 p2) (Steps.refl _)
  obtain ⟨cb, Ab, Sb, Mb, Hb⟩ := id FB
  have pre1 : Steps p.tables e below _ (s₁.setTop (mkF m 8 #[.val (.ref a1), .val (.int p2)] [(.int ((((p2 - m2).toUInt32 >>> ((31 : Int32) &&& 31).toUInt32).toInt32).toInt8.toInt32))])) := pre0.trans (by
    show Steps p.tables e below (s₁.setTop (mkF m 0 #[.val (.ref a1), .val (.int p2)] [])) _
    refine XS.iloadN X0.here hx rfl (hb hby d10_0) rfl ?_
    show Steps p.tables e below (s₁.setTop (mkF m 1 #[.val (.ref a1), .val (.int p2)] [(.int p2)])) _
    refine XS.aloadN X0.here hx rfl (hb hby d10_1) rfl rfl ?_
    show Steps p.tables e below (s₁.setTop (mkF m 2 #[.val (.ref a1), .val (.int p2)] [(.ref a1), (.int p2)])) _
    refine X0.arraylength hx (by rw [e0]; exact Ab.1) (State.isArrayOf_alike hZ.alike Ab.2.1) (g := (mkF m 2 #[.val (.ref a1), .val (.int p2)] [(.ref a1), (.int p2)])) rfl rfl (hb hby d10_2) _ ?_
    rw [len_of Sb Mb]
    show Steps p.tables e below (s₁.setTop (mkF m 3 #[.val (.ref a1), .val (.int p2)] [(.int m2), (.int p2)])) _
    refine XS.isub X0.here hx rfl (hb hby d10_3) rfl ?_
    show Steps p.tables e below (s₁.setTop (mkF m 4 #[.val (.ref a1), .val (.int p2)] [(.int (p2 - m2))])) _
    refine XS.bipush X0.here hx rfl (hb hby d10_4) ?_
    show Steps p.tables e below (s₁.setTop (mkF m 6 #[.val (.ref a1), .val (.int p2)] [(.int (31 : Int32)), (.int (p2 - m2))])) _
    refine XS.iushr X0.here hx rfl (hb hby d10_6) rfl ?_
    show Steps p.tables e below (s₁.setTop (mkF m 7 #[.val (.ref a1), .val (.int p2)] [(.int (((p2 - m2).toUInt32 >>> ((31 : Int32) &&& 31).toUInt32).toInt32))])) _
    refine XS.i2b X0.here hx rfl (hb hby d10_7) rfl ?_
    exact Steps.refl _)
  rw [hcd] at pre1
  obtain ⟨fs, hr, hrun, hended, hW, hsame⟩ := X0.leave (v := some (.int (nar .byte cd))) (fun h => by rw [Bd.returns] at h; cases h)
  refine ⟨_, _, pre1.trans ?_, hrun, hended, _, _, rfl, ?_, ⟨_, rfl⟩, hW, hsame.mono (by decide) (by decide)⟩
  · exact retN X0 hx (t := .byte) Bd.returns (by simp) (hb hby d10_8) hr
  · exact ⟨by rw [hcn], N0, e0⟩
theorem d3_0 : decode jdk_42_method_149_code 0 = .ok (.aload_n 0, 1) := by decide +kernel
theorem d3_1 : decode jdk_42_method_149_code 1 = .ok (.invokespecial 1, 3) := by decide +kernel
theorem d3_4 : decode jdk_42_method_149_code 4 = .ok (.iload_n 3, 1) := by decide +kernel
theorem d3_5 : decode jdk_42_method_149_code 5 = .ok (.ifCond .ne 22, 3) := by decide +kernel
theorem d3_8 : decode jdk_42_method_149_code 8 = .ok (.aload_n 0, 1) := by decide +kernel
theorem d3_9 : decode jdk_42_method_149_code 9 = .ok (.ldc 7, 2) := by decide +kernel
theorem d3_11 : decode jdk_42_method_149_code 11 = .ok (.getfield 9, 3) := by decide +kernel
theorem d3_14 : decode jdk_42_method_149_code 14 = .ok (.putfield 9, 3) := by decide +kernel
theorem d3_17 : decode jdk_42_method_149_code 17 = .ok (.aload_n 0, 1) := by decide +kernel
theorem d3_18 : decode jdk_42_method_149_code 18 = .ok (.ldc 7, 2) := by decide +kernel
theorem d3_20 : decode jdk_42_method_149_code 20 = .ok (.getfield 15, 3) := by decide +kernel
theorem d3_23 : decode jdk_42_method_149_code 23 = .ok (.putfield 15, 3) := by decide +kernel
theorem d3_26 : decode jdk_42_method_149_code 26 = .ok (.return_, 1) := by decide +kernel
theorem d3_27 : decode jdk_42_method_149_code 27 = .ok (.getstatic 38, 3) := by decide +kernel
theorem d3_30 : decode jdk_42_method_149_code 30 = .ok (.ifCond .eq 28, 3) := by decide +kernel
theorem d3_33 : decode jdk_42_method_149_code 33 = .ok (.aload_n 1, 1) := by decide +kernel
theorem d3_34 : decode jdk_42_method_149_code 34 = .ok (.iload_n 2, 1) := by decide +kernel
theorem d3_35 : decode jdk_42_method_149_code 35 = .ok (.iload_n 3, 1) := by decide +kernel
theorem d3_36 : decode jdk_42_method_149_code 36 = .ok (.invokestatic 177, 3) := by decide +kernel
theorem d3_39 : decode jdk_42_method_149_code 39 = .ok (.astore 5, 2) := by decide +kernel
theorem d3_41 : decode jdk_42_method_149_code 41 = .ok (.aload_n 0, 1) := by decide +kernel
theorem d3_42 : decode jdk_42_method_149_code 42 = .ok (.aload 5, 2) := by decide +kernel
theorem d3_44 : decode jdk_42_method_149_code 44 = .ok (.iload_n 3, 1) := by decide +kernel
theorem d3_45 : decode jdk_42_method_149_code 45 = .ok (.invokestatic 47, 3) := by decide +kernel
theorem d3_48 : decode jdk_42_method_149_code 48 = .ok (.putfield 15, 3) := by decide +kernel
theorem d3_51 : decode jdk_42_method_149_code 51 = .ok (.aload_n 0, 1) := by decide +kernel
theorem d3_52 : decode jdk_42_method_149_code 52 = .ok (.aload 5, 2) := by decide +kernel
theorem d3_54 : decode jdk_42_method_149_code 54 = .ok (.putfield 9, 3) := by decide +kernel
theorem d3_57 : decode jdk_42_method_149_code 57 = .ok (.return_, 1) := by decide +kernel
theorem pn_rmS2 : plainName "java/lang/String" = true := by first | (simp [plainName, overriddenIn]; done) | decide +kernel
theorem pd_rmS2_0 : parseMethodDescriptor "([CII)[B" = some ⟨[(.array .char), .int, .int], some (.array .byte)⟩ := by decide +kernel
theorem pd_rmS2_1 : parseMethodDescriptor "([BI)B" = some ⟨[(.array .byte), .int], some .byte⟩ := by decide +kernel
theorem ef_rmS2 (m : MethodId) (a1 : Addr) (a2 : Addr) (p3 : Int32) (p4 : Int32) : entryFrame m #[(.ref a1), (.ref a2), (.int p3), (.int p4), .null] 6 = (mkF m 0 #[.val (.ref a1), .val (.ref a2), .val (.int p3), .val (.int p4), .val .null, .unset] []) := by first | (simp [entryFrame, mkF, argsToLocals, Value.category]; done) | rfl
def Q_rmS2 (Z : State) (a1 : Addr) (a2 : Addr) (p3 : Int32) (p4 : Int32) (f : Nat → Int32) (cs : Int32) (h0 : Heap) (n0 : Nat) (v : Option Value) (h : Heap) (L : List Loc) : Prop := v = none ∧ Fr n0 L ∧ Keep h0 h [a1] ∧ Str Z h a1 p4 f
set_option maxRecDepth 65536 in
set_option maxHeartbeats 40000000 in
theorem rmS2 (l : Launch) (Z : State) (a0 : Array Value) (hw : ∀ d ∈ tables_1, d.before a0 Z = true) (ws : List Jvm.Cond) (a1 : Addr) (a2 : Addr) (p3 : Int32) (p4 : Int32) (f : Nat → Int32) (cs : Int32) (h0 : Heap) (n0 : Nat) (Z0 : n0 ≤ h0.size) (h3 : p3 = 0) (hn1 : 1 ≤ p4.toInt) (hn4 : p4.toInt ≤ 4) (E : Exa Z h0 a1 "java/lang/String") (F1 : Fld Z h0 a1 "java/lang/String" "value" "[B" .null) (F2 : Fld Z h0 a1 "java/lang/String" "coder" "B" (.int (0 : Int32))) (g_a1 : n0 ≤ a1) (FC : Far Z h0 a2 .char p4 f) (hch : ∀ k : Nat, 0 ≤ (f k).toInt ∧ (f k).toInt < 65536) (SC : Sta Z h0 "java/lang/String" "COMPACT_STRINGS" "Z" (.int cs)) (hcs : ¬ cs = (0 : Int32)) (SA : Sta Z h0 "java/lang/StringUTF16" "$assertionsDisabled" "Z" (.int (1 : Int32))) (SH : Sta Z h0 "java/lang/StringUTF16" "HI_BYTE_SHIFT" "I" (.int (0 : Int32))) (SL : Sta Z h0 "java/lang/StringUTF16" "LO_BYTE_SHIFT" "I" (.int (8 : Int32))) :
    MetFree l (⟨"java/lang/String", "<init>", "([CIILjava/lang/Void;)V"⟩ : MethodName) (head1 (Jvm.Cond.code (⟨"java/lang/String", "<init>", "([CIILjava/lang/Void;)V"⟩ : MethodName) jdk_42_method_149_code 6 none :: ws) ({ frames := 4, cells := 2, slots := 12, locals := 59 } : Room)) (fun a U => a = #[(.ref a1), (.ref a2), (.int p3), (.int p4), .null] ∧ Z.Warmed39 U.vm ∧ U.heap = h0) (fun _ _ _ _ _ => True) (fun _ U o U' => ∃ v L, o = .returned v ∧ Q_rmS2 Z a1 a2 p3 p4 f cs h0 n0 v U'.heap L ∧ FrameEnd U o U' L ({ frames := 4, cells := 2, slots := 12, locals := 59 } : Room).cells ({ frames := 4, cells := 2, slots := 12, locals := 59 } : Room).slots) := by
  refine MetFree.of_bodySF (plainFor_of_name pn_rmS2) hisR ?_
  intro p e s m args below meth c s₁ Bd hml0 hP hK
  obtain ⟨rfl, hZ, hh⟩ := hP
  have hx := Bd.exec
  have hby := Bd.bytes
  have hml : c.maxLocals = 6 := hml0
  have hown : s.vm.findClass "java/lang/String" = some m.cls := findClass_of_methodNamed Bd.named
  have hnm := (name_of_methodNamed Bd.named Bd.method).1
  have X0 : Stand p l e ({ frames := 4, cells := 2, slots := 12, locals := 59 } : Room) s m #[(.ref a1), (.ref a2), (.int p3), (.int p4), .null] below meth c s₁ [] 0 0 := Stand.of_body Bd
  have e0 : s₁.heap = h0 := by rw [← hh, Bd.state]; rfl
  have N0 := Fr.nil n0
  have pre0 : Steps p.tables e below (s₁.setTop (entryFrame m #[(.ref a1), (.ref a2), (.int p3), (.int p4), .null] 6)) (s₁.setTop (mkF m 0 #[.val (.ref a1), .val (.ref a2), .val (.int p3), .val (.int p4), .val .null, .unset] [])) := castTop (ef_rmS2 m a1 a2 p3 p4) (Steps.refl _)
  subst h3
  have hne : ¬ p4 = (0 : Int32) := fun q => by rw [q] at hn1; exact absurd hn1 (by decide)
  have pre1 : Steps p.tables e below _ (s₁.setTop (mkF m 1 #[.val (.ref a1), .val (.ref a2), .val (.int (0 : Int32)), .val (.int p4), .val .null, .unset] [(.ref a1)])) := pre0.trans (by
    show Steps p.tables e below (s₁.setTop (mkF m 0 #[.val (.ref a1), .val (.ref a2), .val (.int (0 : Int32)), .val (.int p4), .val .null, .unset] [])) _
    refine XS.aloadN X0.here hx rfl (hb hby d3_0) rfl rfl ?_
    exact Steps.refl _)
  obtain ⟨T2, X2, e2, st2⟩ := initO X0 hx hZ hown (hw _ (List.mem_of_getElem? (i := 16) rfl)) (hw _ (List.mem_of_getElem? (i := 17) rfl)) (hw _ (List.mem_of_getElem? (i := 18) rfl)) e0 (g := (mkF m 1 #[.val (.ref a1), .val (.ref a2), .val (.int (0 : Int32)), .val (.int p4), .val .null, .unset] [(.ref a1)])) rfl (by rw [hml]; rfl) rfl (hb hby d3_1) (by decide) (W := 0) (by show 2 * 0 + _ ≤ _; exact Nat.le_of_eq rfl) (by decide)
  have pre2 : Steps p.tables e below _ (T2.setTop (mkF m 4 #[.val (.ref a1), .val (.ref a2), .val (.int (0 : Int32)), .val (.int p4), .val .null, .unset] [])) := pre1.trans (st2 _ (Steps.refl _))
  have pre3 : Steps p.tables e below _ (T2.setTop (mkF m 27 #[.val (.ref a1), .val (.ref a2), .val (.int (0 : Int32)), .val (.int p4), .val .null, .unset] [])) := pre2.trans (by
    show Steps p.tables e below (T2.setTop (mkF m 4 #[.val (.ref a1), .val (.ref a2), .val (.int (0 : Int32)), .val (.int p4), .val .null, .unset] [])) _
    refine XS.iloadN X2.here hx rfl (hb hby d3_4) rfl ?_
    show Steps p.tables e below (T2.setTop (mkF m 5 #[.val (.ref a1), .val (.ref a2), .val (.int (0 : Int32)), .val (.int p4), .val .null, .unset] [(.int p4)])) _
    refine XS.ifYes X2.here hx rfl (pc0 := 5) (pc' := 27) rfl (hb hby d3_5) rfl ((if0 _ _).trans (feq hne).2) (by decide) (by decide) ?_
    exact Steps.refl _)
  obtain ⟨T4, X4, e4, st4⟩ := getS (host := "") X2 hx hZ hown (hw _ (List.mem_of_getElem? (i := 41) rfl)) Via.refl e2 SC (g := (mkF m 27 #[.val (.ref a1), .val (.ref a2), .val (.int (0 : Int32)), .val (.int p4), .val .null, .unset] [])) rfl (hb hby d3_27)
  have pre4 : Steps p.tables e below _ (T4.setTop (mkF m 30 #[.val (.ref a1), .val (.ref a2), .val (.int (0 : Int32)), .val (.int p4), .val .null, .unset] [(.int cs)])) := pre3.trans (st4 _ (Steps.refl _))
  have pre5 : Steps p.tables e below _ (T4.setTop (mkF m 36 #[.val (.ref a1), .val (.ref a2), .val (.int (0 : Int32)), .val (.int p4), .val .null, .unset] [(.int p4), (.int (0 : Int32)), (.ref a2)])) := pre4.trans (by
    show Steps p.tables e below (T4.setTop (mkF m 30 #[.val (.ref a1), .val (.ref a2), .val (.int (0 : Int32)), .val (.int p4), .val .null, .unset] [(.int cs)])) _
    refine XS.ifNo X4.here hx rfl (hb hby d3_30) rfl ((if0 _ _).trans (feq hcs).1) ?_
    show Steps p.tables e below (T4.setTop (mkF m 33 #[.val (.ref a1), .val (.ref a2), .val (.int (0 : Int32)), .val (.int p4), .val .null, .unset] [])) _
    refine XS.aloadN X4.here hx rfl (hb hby d3_33) rfl rfl ?_
    show Steps p.tables e below (T4.setTop (mkF m 34 #[.val (.ref a1), .val (.ref a2), .val (.int (0 : Int32)), .val (.int p4), .val .null, .unset] [(.ref a2)])) _
    refine XS.iloadN X4.here hx rfl (hb hby d3_34) rfl ?_
    show Steps p.tables e below (T4.setTop (mkF m 35 #[.val (.ref a1), .val (.ref a2), .val (.int (0 : Int32)), .val (.int p4), .val .null, .unset] [(.int (0 : Int32)), (.ref a2)])) _
    refine XS.iloadN X4.here hx rfl (hb hby d3_35) rfl ?_
    exact Steps.refl _)
  obtain ⟨_, _, ⟨T6, L6, k6, n6⟩, -, X6, ⟨Lc6, hQ6, l6, y6, z6⟩, st6⟩ := Jvm.LawKit.callS X4 hx (y := (⟨"java/lang/StringUTF16", "compress", "([CII)[B"⟩ : MethodName)) hown (mvT hZ (hw _ (List.mem_of_getElem? (i := 42) rfl))) (mvT hZ (hw _ (List.mem_of_getElem? (i := 43) rfl))) (mvT hZ (hw _ (List.mem_of_getElem? (i := 44) rfl))) (mvT hZ (hw _ (List.mem_of_getElem? (i := 45) rfl))) (by decide) (backOf (W := 0) (rmC1 l Z a0 hw [] a2 (0 : Int32) p4 f h0 n0 Z0 rfl hn1 hn4 SA SH SL FC hch) hZ (hw _ (List.mem_of_getElem? (i := 45) rfl)) (hw _ (List.mem_of_getElem? (i := 44) rfl)) (by decide) (by decide)) (g := (mkF m 36 #[.val (.ref a1), .val (.ref a2), .val (.int (0 : Int32)), .val (.int p4), .val .null, .unset] [(.int p4), (.int (0 : Int32)), (.ref a2)])) rfl (by rw [hml]; rfl) (argsL := [(.ref a2), (.int (0 : Int32)), (.int p4)]) (rest := []) (lenOf pd_rmS2_0 rfl) rfl (by show 2 * 0 + _ ≤ _; exact Nat.le_of_eq rfl) (hb hby d3_36) (fun _ _ => ⟨rfl, e4, (by decide : 0 + 2 ≤ _), (by decide : 0 + 12 ≤ _)⟩)
  dsimp only [Pt.U, Pt.locs, Pt.cells, Pt.slots] at X6 l6 y6 z6 st6 hQ6
  subst l6 y6 z6
  obtain ⟨bb, rfl, N6q, K6, CO⟩ := hQ6
  have N6 := Fr.app N0 N6q
  have pre6 : Steps p.tables e below _ (T6.setTop (mkF m 39 #[.val (.ref a1), .val (.ref a2), .val (.int (0 : Int32)), .val (.int p4), .val .null, .unset] [(.ref bb)])) := pre5.trans (st6 _ (Steps.refl _))
  have Zc : n0 ≤ T6.heap.size := Nat.le_trans Z0 K6.1
  have pre7 : Steps p.tables e below _ (T6.setTop (mkF m 45 #[.val (.ref a1), .val (.ref a2), .val (.int (0 : Int32)), .val (.int p4), .val .null, .val (.ref bb)] [(.int p4), (.ref bb), (.ref a1)])) := pre6.trans (by
    show Steps p.tables e below (T6.setTop (mkF m 39 #[.val (.ref a1), .val (.ref a2), .val (.int (0 : Int32)), .val (.int p4), .val .null, .unset] [(.ref bb)])) _
    refine XS.astore X6.here hx rfl (hb hby d3_39) rfl rfl (l' := #[.val (.ref a1), .val (.ref a2), .val (.int (0 : Int32)), .val (.int p4), .val .null, .val (.ref bb)]) rfl ?_
    show Steps p.tables e below (T6.setTop (mkF m 41 #[.val (.ref a1), .val (.ref a2), .val (.int (0 : Int32)), .val (.int p4), .val .null, .val (.ref bb)] [])) _
    refine XS.aloadN X6.here hx rfl (hb hby d3_41) rfl rfl ?_
    show Steps p.tables e below (T6.setTop (mkF m 42 #[.val (.ref a1), .val (.ref a2), .val (.int (0 : Int32)), .val (.int p4), .val .null, .val (.ref bb)] [(.ref a1)])) _
    refine XS.aload X6.here hx rfl (hb hby d3_42) rfl rfl ?_
    show Steps p.tables e below (T6.setTop (mkF m 44 #[.val (.ref a1), .val (.ref a2), .val (.int (0 : Int32)), .val (.int p4), .val .null, .val (.ref bb)] [(.ref bb), (.ref a1)])) _
    refine XS.iloadN X6.here hx rfl (hb hby d3_44) rfl ?_
    exact Steps.refl _)
  rcases CO with ⟨hle, gb, FB, hgb⟩ | ⟨gb, FB, hgb⟩
  · have hcd := own_cd0 p4 hn1 hn4
    obtain ⟨_, _, ⟨T8, L8, k8, n8⟩, -, X8, ⟨Lc8, hQ8, l8, y8, z8⟩, st8⟩ := Jvm.LawKit.callS X6 hx (y := (⟨"java/lang/StringUTF16", "coderFromArrayLen", "([BI)B"⟩ : MethodName)) hown (mvT hZ (hw _ (List.mem_of_getElem? (i := 49) rfl))) (mvT hZ (hw _ (List.mem_of_getElem? (i := 50) rfl))) (mvT hZ (hw _ (List.mem_of_getElem? (i := 44) rfl))) (mvT hZ (hw _ (List.mem_of_getElem? (i := 51) rfl))) (by decide) (backOf (W := 1) (rmCL l Z a0 hw [] bb p4 p4 (0 : Int32) gb T6.heap n0 Zc FB hcd (by decide)) hZ (hw _ (List.mem_of_getElem? (i := 51) rfl)) (hw _ (List.mem_of_getElem? (i := 44) rfl)) (by decide) (by decide)) (g := (mkF m 45 #[.val (.ref a1), .val (.ref a2), .val (.int (0 : Int32)), .val (.int p4), .val .null, .val (.ref bb)] [(.int p4), (.ref bb), (.ref a1)])) rfl (by rw [hml]; rfl) (argsL := [(.ref bb), (.int p4)]) (rest := [(.ref a1)]) (lenOf pd_rmS2_1 rfl) rfl (by show 2 * 0 + _ ≤ _; exact Nat.le_of_eq rfl) (hb hby d3_45) (fun _ _ => ⟨rfl, (rfl : T6.heap = T6.heap), (by decide : 2 + 0 ≤ _), (by decide : 12 + 0 ≤ _)⟩)
    dsimp only [Pt.U, Pt.locs, Pt.cells, Pt.slots] at X8 l8 y8 z8 st8 hQ8
    subst l8 y8 z8
    obtain ⟨rfl, N8q, hh8⟩ := hQ8
    have N8 := Fr.app N6 N8q
    have pre8 : Steps p.tables e below _ (T8.setTop (mkF m 48 #[.val (.ref a1), .val (.ref a2), .val (.int (0 : Int32)), .val (.int p4), .val .null, .val (.ref bb)] [(.int (0 : Int32)), (.ref a1)])) := pre7.trans (st8 _ (Steps.refl _))
    obtain ⟨T9, h9, X9, e9, W9, st9⟩ := putFN X8 hx hZ hown (hw _ (List.mem_of_getElem? (i := 26) rfl)) Via.refl hh8 (F2.keep K6 nin0) (E.keep K6) (Or.inr ⟨(hw _ (List.mem_of_getElem? (i := 22) rfl)), rfl, hnm⟩) (hw _ (List.mem_of_getElem? (i := 7) rfl)) (ty := .byte) (v' := (.int (0 : Int32))) (by decide) rfl rfl (g := (mkF m 48 #[.val (.ref a1), .val (.ref a2), .val (.int (0 : Int32)), .val (.int p4), .val .null, .val (.ref bb)] [(.int (0 : Int32)), (.ref a1)])) rfl rfl (hb hby d3_48)
    have N9 := Fr.snoc X9 N8 g_a1
    have Z9 : n0 ≤ h9.size := Nat.le_trans Zc (Keep.of_wr W9).1
    have pre9 : Steps p.tables e below _ (T9.setTop (mkF m 51 #[.val (.ref a1), .val (.ref a2), .val (.int (0 : Int32)), .val (.int p4), .val .null, .val (.ref bb)] [])) := pre8.trans (st9 _ (Steps.refl _))
    have pre10 : Steps p.tables e below _ (T9.setTop (mkF m 54 #[.val (.ref a1), .val (.ref a2), .val (.int (0 : Int32)), .val (.int p4), .val .null, .val (.ref bb)] [(.ref bb), (.ref a1)])) := pre9.trans (by
      show Steps p.tables e below (T9.setTop (mkF m 51 #[.val (.ref a1), .val (.ref a2), .val (.int (0 : Int32)), .val (.int p4), .val .null, .val (.ref bb)] [])) _
      refine XS.aloadN X9.here hx rfl (hb hby d3_51) rfl rfl ?_
      show Steps p.tables e below (T9.setTop (mkF m 52 #[.val (.ref a1), .val (.ref a2), .val (.int (0 : Int32)), .val (.int p4), .val .null, .val (.ref bb)] [(.ref a1)])) _
      refine XS.aload X9.here hx rfl (hb hby d3_52) rfl rfl ?_
      exact Steps.refl _)
    obtain ⟨T11, h11, X11, e11, W11, st11⟩ := putF X9 hx hZ hown (host := "") (Or.inl (hw _ (List.mem_of_getElem? (i := 25) rfl))) Via.refl e9 ((F1.keep K6 nin0).other W9 (Or.inr (ne_value_coder hw))) ((E.keep K6).wr W9) (Or.inr ⟨(hw _ (List.mem_of_getElem? (i := 21) rfl)), rfl, hnm⟩) (hw _ (List.mem_of_getElem? (i := 7) rfl)) (ty := (.array .byte)) (by decide) rfl rfl (g := (mkF m 54 #[.val (.ref a1), .val (.ref a2), .val (.int (0 : Int32)), .val (.int p4), .val .null, .val (.ref bb)] [(.ref bb), (.ref a1)])) rfl rfl (hb hby d3_54)
    have N11 := Fr.snoc X11 N9 g_a1
    have Z11 : n0 ≤ h11.size := Nat.le_trans Z9 (Keep.of_wr W11).1
    have pre11 : Steps p.tables e below _ (T11.setTop (mkF m 57 #[.val (.ref a1), .val (.ref a2), .val (.int (0 : Int32)), .val (.int p4), .val .null, .val (.ref bb)] [])) := pre10.trans (st11 _ (Steps.refl _))
    have KK : Keep h0 h11 [a1] := (((Keep.refl h0 [a1]).trans K6 (fun x hx => nomatch hx)).wr W9 (Or.inl (List.mem_singleton.mpr rfl))).wr W11 (Or.inl (List.mem_singleton.mpr rfl))
    have nb : bb ≠ a1 := by obtain ⟨cb, Ab, -⟩ := id FB; exact (ne_arr (E.keep K6) (hw _ (List.mem_of_getElem? (i := 7) rfl)) Ab).symm
    have SS : Str Z h11 a1 p4 f := ⟨((E.keep K6).wr W9).wr W11, bb, (0 : Int32), p4, gb, ((F1.keep K6 nin0).other W9 (Or.inr (ne_value_coder hw))).same W11, ((F2.keep K6 nin0).same W9).other W11 (Or.inr (ne_coder_value hw)), (FB.other W9 nb).other W11 nb, Or.inl ⟨rfl, rfl, fun k hk => ⟨hgb k hk, hle k hk⟩⟩⟩
    obtain ⟨fs, hr, hrun, hended, hW, hsame⟩ := X11.leave (v := none) (fun h => by rfl)
    refine ⟨_, _, pre11.trans ?_, hrun, hended, _, _, rfl, ?_, ⟨_, rfl⟩, hW, hsame.mono (by decide) (by decide)⟩
    · exact X11.returnOut hx Bd.returns (hb hby d3_57) hr
    · exact ⟨rfl, N11, (by show Keep h0 T11.heap [a1]; rw [e11]; exact KK), (by show Str Z T11.heap _ _ _; rw [e11]; exact SS)⟩
  · have hcd := own_cd1 p4 hn1 hn4
    obtain ⟨_, _, ⟨T12, L12, k12, n12⟩, -, X12, ⟨Lc12, hQ12, l12, y12, z12⟩, st12⟩ := Jvm.LawKit.callS X6 hx (y := (⟨"java/lang/StringUTF16", "coderFromArrayLen", "([BI)B"⟩ : MethodName)) hown (mvT hZ (hw _ (List.mem_of_getElem? (i := 49) rfl))) (mvT hZ (hw _ (List.mem_of_getElem? (i := 50) rfl))) (mvT hZ (hw _ (List.mem_of_getElem? (i := 44) rfl))) (mvT hZ (hw _ (List.mem_of_getElem? (i := 51) rfl))) (by decide) (backOf (W := 1) (rmCL l Z a0 hw [] bb p4 (own_dbl p4) (1 : Int32) gb T6.heap n0 Zc FB hcd (by decide)) hZ (hw _ (List.mem_of_getElem? (i := 51) rfl)) (hw _ (List.mem_of_getElem? (i := 44) rfl)) (by decide) (by decide)) (g := (mkF m 45 #[.val (.ref a1), .val (.ref a2), .val (.int (0 : Int32)), .val (.int p4), .val .null, .val (.ref bb)] [(.int p4), (.ref bb), (.ref a1)])) rfl (by rw [hml]; rfl) (argsL := [(.ref bb), (.int p4)]) (rest := [(.ref a1)]) (lenOf pd_rmS2_1 rfl) rfl (by show 2 * 0 + _ ≤ _; exact Nat.le_of_eq rfl) (hb hby d3_45) (fun _ _ => ⟨rfl, (rfl : T6.heap = T6.heap), (by decide : 2 + 0 ≤ _), (by decide : 12 + 0 ≤ _)⟩)
    dsimp only [Pt.U, Pt.locs, Pt.cells, Pt.slots] at X12 l12 y12 z12 st12 hQ12
    subst l12 y12 z12
    obtain ⟨rfl, N12q, hh12⟩ := hQ12
    have N12 := Fr.app N6 N12q
    have pre12 : Steps p.tables e below _ (T12.setTop (mkF m 48 #[.val (.ref a1), .val (.ref a2), .val (.int (0 : Int32)), .val (.int p4), .val .null, .val (.ref bb)] [(.int (1 : Int32)), (.ref a1)])) := pre7.trans (st12 _ (Steps.refl _))
    obtain ⟨T13, h13, X13, e13, W13, st13⟩ := putFN X12 hx hZ hown (hw _ (List.mem_of_getElem? (i := 26) rfl)) Via.refl hh12 (F2.keep K6 nin0) (E.keep K6) (Or.inr ⟨(hw _ (List.mem_of_getElem? (i := 22) rfl)), rfl, hnm⟩) (hw _ (List.mem_of_getElem? (i := 7) rfl)) (ty := .byte) (v' := (.int (1 : Int32))) (by decide) rfl rfl (g := (mkF m 48 #[.val (.ref a1), .val (.ref a2), .val (.int (0 : Int32)), .val (.int p4), .val .null, .val (.ref bb)] [(.int (1 : Int32)), (.ref a1)])) rfl rfl (hb hby d3_48)
    have N13 := Fr.snoc X13 N12 g_a1
    have Z13 : n0 ≤ h13.size := Nat.le_trans Zc (Keep.of_wr W13).1
    have pre13 : Steps p.tables e below _ (T13.setTop (mkF m 51 #[.val (.ref a1), .val (.ref a2), .val (.int (0 : Int32)), .val (.int p4), .val .null, .val (.ref bb)] [])) := pre12.trans (st13 _ (Steps.refl _))
    have pre14 : Steps p.tables e below _ (T13.setTop (mkF m 54 #[.val (.ref a1), .val (.ref a2), .val (.int (0 : Int32)), .val (.int p4), .val .null, .val (.ref bb)] [(.ref bb), (.ref a1)])) := pre13.trans (by
      show Steps p.tables e below (T13.setTop (mkF m 51 #[.val (.ref a1), .val (.ref a2), .val (.int (0 : Int32)), .val (.int p4), .val .null, .val (.ref bb)] [])) _
      refine XS.aloadN X13.here hx rfl (hb hby d3_51) rfl rfl ?_
      show Steps p.tables e below (T13.setTop (mkF m 52 #[.val (.ref a1), .val (.ref a2), .val (.int (0 : Int32)), .val (.int p4), .val .null, .val (.ref bb)] [(.ref a1)])) _
      refine XS.aload X13.here hx rfl (hb hby d3_52) rfl rfl ?_
      exact Steps.refl _)
    obtain ⟨T15, h15, X15, e15, W15, st15⟩ := putF X13 hx hZ hown (host := "") (Or.inl (hw _ (List.mem_of_getElem? (i := 25) rfl))) Via.refl e13 ((F1.keep K6 nin0).other W13 (Or.inr (ne_value_coder hw))) ((E.keep K6).wr W13) (Or.inr ⟨(hw _ (List.mem_of_getElem? (i := 21) rfl)), rfl, hnm⟩) (hw _ (List.mem_of_getElem? (i := 7) rfl)) (ty := (.array .byte)) (by decide) rfl rfl (g := (mkF m 54 #[.val (.ref a1), .val (.ref a2), .val (.int (0 : Int32)), .val (.int p4), .val .null, .val (.ref bb)] [(.ref bb), (.ref a1)])) rfl rfl (hb hby d3_54)
    have N15 := Fr.snoc X15 N13 g_a1
    have Z15 : n0 ≤ h15.size := Nat.le_trans Z13 (Keep.of_wr W15).1
    have pre15 : Steps p.tables e below _ (T15.setTop (mkF m 57 #[.val (.ref a1), .val (.ref a2), .val (.int (0 : Int32)), .val (.int p4), .val .null, .val (.ref bb)] [])) := pre14.trans (st15 _ (Steps.refl _))
    have KK : Keep h0 h15 [a1] := (((Keep.refl h0 [a1]).trans K6 (fun x hx => nomatch hx)).wr W13 (Or.inl (List.mem_singleton.mpr rfl))).wr W15 (Or.inl (List.mem_singleton.mpr rfl))
    have nb : bb ≠ a1 := by obtain ⟨cb, Ab, -⟩ := id FB; exact (ne_arr (E.keep K6) (hw _ (List.mem_of_getElem? (i := 7) rfl)) Ab).symm
    have SS : Str Z h15 a1 p4 f := ⟨((E.keep K6).wr W13).wr W15, bb, (1 : Int32), (own_dbl p4), gb, ((F1.keep K6 nin0).other W13 (Or.inr (ne_value_coder hw))).same W15, ((F2.keep K6 nin0).same W13).other W15 (Or.inr (ne_coder_value hw)), (FB.other W13 nb).other W15 nb, Or.inr ⟨rfl, rfl, hgb⟩⟩
    obtain ⟨fs, hr, hrun, hended, hW, hsame⟩ := X15.leave (v := none) (fun h => by rfl)
    refine ⟨_, _, pre15.trans ?_, hrun, hended, _, _, rfl, ?_, ⟨_, rfl⟩, hW, hsame.mono (by decide) (by decide)⟩
    · exact X15.returnOut hx Bd.returns (hb hby d3_57) hr
    · exact ⟨rfl, N15, (by show Keep h0 T15.heap [a1]; rw [e15]; exact KK), (by show Str Z T15.heap _ _ _; rw [e15]; exact SS)⟩
theorem pn_rmS2E : plainName "java/lang/String" = true := by first | (simp [plainName, overriddenIn]; done) | decide +kernel
theorem ef_rmS2E (m : MethodId) (a1 : Addr) (a2 : Addr) (p3 : Int32) (p4 : Int32) : entryFrame m #[(.ref a1), (.ref a2), (.int p3), (.int p4), .null] 6 = (mkF m 0 #[.val (.ref a1), .val (.ref a2), .val (.int p3), .val (.int p4), .val .null, .unset] []) := by first | (simp [entryFrame, mkF, argsToLocals, Value.category]; done) | rfl
def Q_rmS2E (Z : State) (a1 : Addr) (a2 : Addr) (p3 : Int32) (p4 : Int32) (f : Nat → Int32) (h0 : Heap) (n0 : Nat) (v : Option Value) (h : Heap) (L : List Loc) : Prop := v = none ∧ Fr n0 L ∧ Keep h0 h [a1] ∧ Str Z h a1 (0 : Int32) f
set_option maxRecDepth 65536 in
set_option maxHeartbeats 40000000 in
theorem rmS2E (l : Launch) (Z : State) (a0 : Array Value) (hw : ∀ d ∈ tables_1, d.before a0 Z = true) (ws : List Jvm.Cond) (a1 : Addr) (a2 : Addr) (p3 : Int32) (p4 : Int32) (f : Nat → Int32) (h0 : Heap) (n0 : Nat) (Z0 : n0 ≤ h0.size) (h4 : p4 = 0) (E : Exa Z h0 a1 "java/lang/String") (F1 : Fld Z h0 a1 "java/lang/String" "value" "[B" .null) (F2 : Fld Z h0 a1 "java/lang/String" "coder" "B" (.int (0 : Int32))) (g_a1 : n0 ≤ a1) :
    MetFree l (⟨"java/lang/String", "<init>", "([CIILjava/lang/Void;)V"⟩ : MethodName) (head1 (Jvm.Cond.code (⟨"java/lang/String", "<init>", "([CIILjava/lang/Void;)V"⟩ : MethodName) jdk_42_method_149_code 6 none :: ws) ({ frames := 4, cells := 2, slots := 12, locals := 59 } : Room)) (fun a U => a = #[(.ref a1), (.ref a2), (.int p3), (.int p4), .null] ∧ Z.Warmed39 U.vm ∧ U.heap = h0 ∧ CHv Z [("java/lang/String", (7 : Nat))] U.vm h0) (fun _ _ _ _ _ => True) (fun _ U o U' => ∃ v L, o = .returned v ∧ Q_rmS2E Z a1 a2 p3 p4 f h0 n0 v U'.heap L ∧ ReturnedEndW U o U' L ({ frames := 4, cells := 2, slots := 12, locals := 59 } : Room).cells ({ frames := 4, cells := 2, slots := 12, locals := 59 } : Room).slots) := by
  refine MetFree.of_bodySF (plainFor_of_name pn_rmS2E) hisR ?_
  intro p e s m args below meth c s₁ Bd hml0 hP hK
  obtain ⟨rfl, hZ, hh, hCH⟩ := hP
  have hx := Bd.exec
  have hby := Bd.bytes
  have hml : c.maxLocals = 6 := hml0
  have hown : s.vm.findClass "java/lang/String" = some m.cls := findClass_of_methodNamed Bd.named
  have hnm := (name_of_methodNamed Bd.named Bd.method).1
  have X0 : Stand p l e ({ frames := 4, cells := 2, slots := 12, locals := 59 } : Room) s m #[(.ref a1), (.ref a2), (.int p3), (.int p4), .null] below meth c s₁ [] 0 0 := Stand.of_body Bd
  have e0 : s₁.heap = h0 := by rw [← hh, Bd.state]; rfl
  have N0 := Fr.nil n0
  have pre0 : Steps p.tables e below (s₁.setTop (entryFrame m #[(.ref a1), (.ref a2), (.int p3), (.int p4), .null] 6)) (s₁.setTop (mkF m 0 #[.val (.ref a1), .val (.ref a2), .val (.int p3), .val (.int p4), .val .null, .unset] [])) := castTop (ef_rmS2E m a1 a2 p3 p4) (Steps.refl _)
  subst h4
  have wS : ∀ a ∈ Bundle.stringAtoms, a.before a0 Z = true := fun a ha => hw a ((by decide +kernel : ∀ a ∈ Bundle.stringAtoms, a ∈ tables_1) a ha)
  have pre1 : Steps p.tables e below _ (s₁.setTop (mkF m 1 #[.val (.ref a1), .val (.ref a2), .val (.int p3), .val (.int (0 : Int32)), .val .null, .unset] [(.ref a1)])) := pre0.trans (by
    show Steps p.tables e below (s₁.setTop (mkF m 0 #[.val (.ref a1), .val (.ref a2), .val (.int p3), .val (.int (0 : Int32)), .val .null, .unset] [])) _
    refine XS.aloadN X0.here hx rfl (hb hby d3_0) rfl rfl ?_
    exact Steps.refl _)
  obtain ⟨T2, X2, e2, st2⟩ := initO X0 hx hZ hown (hw _ (List.mem_of_getElem? (i := 16) rfl)) (hw _ (List.mem_of_getElem? (i := 17) rfl)) (hw _ (List.mem_of_getElem? (i := 18) rfl)) e0 (g := (mkF m 1 #[.val (.ref a1), .val (.ref a2), .val (.int p3), .val (.int (0 : Int32)), .val .null, .unset] [(.ref a1)])) rfl (by rw [hml]; rfl) rfl (hb hby d3_1) (by decide) (W := 0) (by show 2 * 0 + _ ≤ _; exact Nat.le_of_eq rfl) (by decide)
  have pre2 : Steps p.tables e below _ (T2.setTop (mkF m 4 #[.val (.ref a1), .val (.ref a2), .val (.int p3), .val (.int (0 : Int32)), .val .null, .unset] [])) := pre1.trans (st2 _ (Steps.refl _))
  have pre3 : Steps p.tables e below _ (T2.setTop (mkF m 9 #[.val (.ref a1), .val (.ref a2), .val (.int p3), .val (.int (0 : Int32)), .val .null, .unset] [(.ref a1)])) := pre2.trans (by
    show Steps p.tables e below (T2.setTop (mkF m 4 #[.val (.ref a1), .val (.ref a2), .val (.int p3), .val (.int (0 : Int32)), .val .null, .unset] [])) _
    refine XS.iloadN X2.here hx rfl (hb hby d3_4) rfl ?_
    show Steps p.tables e below (T2.setTop (mkF m 5 #[.val (.ref a1), .val (.ref a2), .val (.int p3), .val (.int (0 : Int32)), .val .null, .unset] [(.int (0 : Int32))])) _
    refine XS.ifNo X2.here hx rfl (hb hby d3_5) rfl ((if0 _ _).trans (teq (rfl : (0 : Int32) = 0)).2) ?_
    show Steps p.tables e below (T2.setTop (mkF m 8 #[.val (.ref a1), .val (.ref a2), .val (.int p3), .val (.int (0 : Int32)), .val .null, .unset] [])) _
    refine XS.aloadN X2.here hx rfl (hb hby d3_8) rfl rfl ?_
    exact Steps.refl _)
  have XV : Stand p l e ({ frames := 4, cells := 2, slots := 12, locals := 59 } : Room) (s.setVm s.vm) m #[(.ref a1), (.ref a2), (.int p3), (.int (0 : Int32)), .null] below meth c T2 [] 0 0 := X2
  obtain ⟨la, T4, h4, k4, lb, kb, X4, e4, E4, hS4, hk4, hZ4, ho4, EA, FCo, FVa, AV, -, -, -, LT, -, st4⟩ := ldcCH XV hx (vm0 := s.vm) hZ hown (hw _ (List.mem_of_getElem? (i := 19) rfl)) wS e2 ((State.WarmedH.refl s).since 0) (k0 := 0) (Nat.zero_le _) (own_EW hw) (List.mem_singleton.mpr rfl) hCH (vs := []) (z := 0) ⟨by first | decide | simp, by first | rfl | simp⟩ (by decide) rfl (g := (mkF m 9 #[.val (.ref a1), .val (.ref a2), .val (.int p3), .val (.int (0 : Int32)), .val .null, .unset] [(.ref a1)])) rfl (hb hby d3_9) (n := 0) (by decide) (by decide) (by decide) (by decide)
  have hZ : Z.Warmed39 (s.setVm T4.vm).vm := hZ4
  have hown : (s.setVm T4.vm).vm.findClass "java/lang/String" = some m.cls := ho4
  have pre4 : Steps p.tables e below _ (T4.setTop (mkF m 11 #[.val (.ref a1), .val (.ref a2), .val (.int p3), .val (.int (0 : Int32)), .val .null, .unset] [(.ref la), (.ref a1)])) := pre3.trans (st4 _ (Steps.refl _))
  have Z4 : n0 ≤ h4.size := Nat.le_trans Z0 E4.1
  obtain ⟨T5, X5, e5, st5⟩ := getF X4 hx hZ hown (host := "") (Or.inl (hw _ (List.mem_of_getElem? (i := 25) rfl))) Via.refl e4 FVa (g := (mkF m 11 #[.val (.ref a1), .val (.ref a2), .val (.int p3), .val (.int (0 : Int32)), .val .null, .unset] [(.ref la), (.ref a1)])) rfl rfl (hb hby d3_11)
  have pre5 : Steps p.tables e below _ (T5.setTop (mkF m 14 #[.val (.ref a1), .val (.ref a2), .val (.int p3), .val (.int (0 : Int32)), .val .null, .unset] [(.ref lb), (.ref a1)])) := pre4.trans (st5 _ (Steps.refl _))
  obtain ⟨T6, h6, X6, e6, W6, st6⟩ := putF X5 hx hZ hown (host := "") (Or.inl (hw _ (List.mem_of_getElem? (i := 25) rfl))) Via.refl e5 (F1.ext E4) (E.ext E4) (Or.inr ⟨(hw _ (List.mem_of_getElem? (i := 21) rfl)), rfl, hnm⟩) (hw _ (List.mem_of_getElem? (i := 7) rfl)) (ty := (.array .byte)) (by decide) rfl rfl (g := (mkF m 14 #[.val (.ref a1), .val (.ref a2), .val (.int p3), .val (.int (0 : Int32)), .val .null, .unset] [(.ref lb), (.ref a1)])) rfl rfl (hb hby d3_14)
  have N6 := Fr.snoc X6 N0 g_a1
  have Z6 : n0 ≤ h6.size := Nat.le_trans Z4 (Keep.of_wr W6).1
  have pre6 : Steps p.tables e below _ (T6.setTop (mkF m 17 #[.val (.ref a1), .val (.ref a2), .val (.int p3), .val (.int (0 : Int32)), .val .null, .unset] [])) := pre5.trans (st6 _ (Steps.refl _))
  have pre7 : Steps p.tables e below _ (T6.setTop (mkF m 18 #[.val (.ref a1), .val (.ref a2), .val (.int p3), .val (.int (0 : Int32)), .val .null, .unset] [(.ref a1)])) := pre6.trans (by
    show Steps p.tables e below (T6.setTop (mkF m 17 #[.val (.ref a1), .val (.ref a2), .val (.int p3), .val (.int (0 : Int32)), .val .null, .unset] [])) _
    refine XS.aloadN X6.here hx rfl (hb hby d3_17) rfl rfl ?_
    exact Steps.refl _)
  have pre8 : Steps p.tables e below _ (T6.setTop (mkF m 20 #[.val (.ref a1), .val (.ref a2), .val (.int p3), .val (.int (0 : Int32)), .val .null, .unset] [(.ref la), (.ref a1)])) := pre7.trans (ldcAgain X6 hx (vm0 := T4.vm) hZ hown (hw _ (List.mem_of_getElem? (i := 19) rfl)) LT (g := (mkF m 18 #[.val (.ref a1), .val (.ref a2), .val (.int p3), .val (.int (0 : Int32)), .val .null, .unset] [(.ref a1)])) rfl (hb hby d3_18) _ (Steps.refl _))
  obtain ⟨T9, X9, e9, st9⟩ := getF X6 hx hZ hown (host := "") (Or.inl (hw _ (List.mem_of_getElem? (i := 26) rfl))) Via.refl e6 (FCo.other W6 (Or.inr (ne_coder_value hw))) (g := (mkF m 20 #[.val (.ref a1), .val (.ref a2), .val (.int p3), .val (.int (0 : Int32)), .val .null, .unset] [(.ref la), (.ref a1)])) rfl rfl (hb hby d3_20)
  have pre9 : Steps p.tables e below _ (T9.setTop (mkF m 23 #[.val (.ref a1), .val (.ref a2), .val (.int p3), .val (.int (0 : Int32)), .val .null, .unset] [(.int (0 : Int32)), (.ref a1)])) := pre8.trans (st9 _ (Steps.refl _))
  obtain ⟨T10, h10, X10, e10, W10, st10⟩ := putFN X9 hx hZ hown (hw _ (List.mem_of_getElem? (i := 26) rfl)) Via.refl e9 ((F2.ext E4).other W6 (Or.inr (ne_coder_value hw))) ((E.ext E4).wr W6) (Or.inr ⟨(hw _ (List.mem_of_getElem? (i := 22) rfl)), rfl, hnm⟩) (hw _ (List.mem_of_getElem? (i := 7) rfl)) (ty := .byte) (v' := (.int (0 : Int32))) (by decide) rfl rfl (g := (mkF m 23 #[.val (.ref a1), .val (.ref a2), .val (.int p3), .val (.int (0 : Int32)), .val .null, .unset] [(.int (0 : Int32)), (.ref a1)])) rfl rfl (hb hby d3_23)
  have N10 := Fr.snoc X10 N6 g_a1
  have Z10 : n0 ≤ h10.size := Nat.le_trans Z6 (Keep.of_wr W10).1
  have pre10 : Steps p.tables e below _ (T10.setTop (mkF m 26 #[.val (.ref a1), .val (.ref a2), .val (.int p3), .val (.int (0 : Int32)), .val .null, .unset] [])) := pre9.trans (st10 _ (Steps.refl _))
  have KK : Keep h0 h10 [a1] := (((Keep.refl h0 [a1]).ext E4).wr W6 (Or.inl (List.mem_singleton.mpr rfl))).wr W10 (Or.inl (List.mem_singleton.mpr rfl))
  obtain ⟨cb, Ab, -, Sb, Mb, Hb, -⟩ := id AV
  have FB : Far Z h4 lb .byte (0 : Int32) (fun _ => 0) := ⟨cb, Ab, Sb, Mb, fun k hk => absurd hk (by rw [Sb]; exact Nat.not_lt_zero _)⟩
  have nb : lb ≠ a1 := (ne_arr (E.ext E4) (hw _ (List.mem_of_getElem? (i := 7) rfl)) Ab).symm
  have SS : Str Z h10 a1 (0 : Int32) f := ⟨((E.ext E4).wr W6).wr W10, lb, (0 : Int32), (0 : Int32), (fun _ => 0), ((F1.ext E4).same W6).other W10 (Or.inr (ne_value_coder hw)), ((F2.ext E4).other W6 (Or.inr (ne_coder_value hw))).same W10, (FB.other W6 nb).other W10 nb, Or.inl ⟨rfl, rfl, fun k hk => absurd hk (by have e : (0 : Int32).toInt = 0 := rfl; omega)⟩⟩
  have XW := X10.more (show 2 ≤ 2 by decide) (show 4 ≤ 12 by decide)
  obtain ⟨fs, hr, hrun, hended, hRE⟩ := XW.leaveW hS4 (by rw [e10]; exact Nat.le_trans hk4 (Nat.le_trans (Keep.of_wr W6).1 (Keep.of_wr W10).1)) (v := none) (fun h => by rfl)
  refine ⟨_, _, pre10.trans ?_, hrun, hended, _, _, rfl, ?_, hRE⟩
  · exact X10.returnOut hx Bd.returns (hb hby d3_26) hr
  · exact ⟨rfl, N10, (by show Keep h0 T10.heap [a1]; rw [e10]; exact KK), (by show Str Z T10.heap _ _ _; rw [e10]; exact SS)⟩
theorem d2_0 : decode jdk_42_method_3_code 0 = .ok (.aload_n 0, 1) := by decide +kernel
theorem d2_1 : decode jdk_42_method_3_code 1 = .ok (.aload_n 1, 1) := by decide +kernel
theorem d2_2 : decode jdk_42_method_3_code 2 = .ok (.iconst 0, 1) := by decide +kernel
theorem d2_3 : decode jdk_42_method_3_code 3 = .ok (.aload_n 1, 1) := by decide +kernel
theorem d2_4 : decode jdk_42_method_3_code 4 = .ok (.arraylength, 1) := by decide +kernel
theorem d2_5 : decode jdk_42_method_3_code 5 = .ok (.aconst_null, 1) := by decide +kernel
theorem d2_6 : decode jdk_42_method_3_code 6 = .ok (.invokespecial 27, 3) := by decide +kernel
theorem d2_9 : decode jdk_42_method_3_code 9 = .ok (.return_, 1) := by decide +kernel
theorem pn_rmS1 : plainName "java/lang/String" = true := by first | (simp [plainName, overriddenIn]; done) | decide +kernel
theorem pd_rmS1_0 : parseMethodDescriptor "([CIILjava/lang/Void;)V" = some ⟨[(.array .char), .int, .int, (.object "java/lang/Void")], none⟩ := by decide +kernel
theorem ef_rmS1 (m : MethodId) (a1 : Addr) (a2 : Addr) : entryFrame m #[(.ref a1), (.ref a2)] 2 = (mkF m 0 #[.val (.ref a1), .val (.ref a2)] []) := by first | (simp [entryFrame, mkF, argsToLocals, Value.category]; done) | rfl
def Q_rmS1 (Z : State) (a1 : Addr) (a2 : Addr) (nn : Int32) (f : Nat → Int32) (cs : Int32) (h0 : Heap) (n0 : Nat) (v : Option Value) (h : Heap) (L : List Loc) : Prop := v = none ∧ Fr n0 L ∧ Keep h0 h [a1] ∧ Str Z h a1 nn f
set_option maxRecDepth 65536 in
set_option maxHeartbeats 40000000 in
theorem rmS1 (l : Launch) (Z : State) (a0 : Array Value) (hw : ∀ d ∈ tables_1, d.before a0 Z = true) (ws : List Jvm.Cond) (a1 : Addr) (a2 : Addr) (nn : Int32) (f : Nat → Int32) (cs : Int32) (h0 : Heap) (n0 : Nat) (Z0 : n0 ≤ h0.size) (hn1 : 1 ≤ nn.toInt) (hn4 : nn.toInt ≤ 4) (E : Exa Z h0 a1 "java/lang/String") (F1 : Fld Z h0 a1 "java/lang/String" "value" "[B" .null) (F2 : Fld Z h0 a1 "java/lang/String" "coder" "B" (.int (0 : Int32))) (g_a1 : n0 ≤ a1) (FC : Far Z h0 a2 .char nn f) (hch : ∀ k : Nat, 0 ≤ (f k).toInt ∧ (f k).toInt < 65536) (SC : Sta Z h0 "java/lang/String" "COMPACT_STRINGS" "Z" (.int cs)) (hcs : ¬ cs = (0 : Int32)) (SA : Sta Z h0 "java/lang/StringUTF16" "$assertionsDisabled" "Z" (.int (1 : Int32))) (SH : Sta Z h0 "java/lang/StringUTF16" "HI_BYTE_SHIFT" "I" (.int (0 : Int32))) (SL : Sta Z h0 "java/lang/StringUTF16" "LO_BYTE_SHIFT" "I" (.int (8 : Int32))) :
    MetFree l (⟨"java/lang/String", "<init>", "([C)V"⟩ : MethodName) (head1 (Jvm.Cond.code (⟨"java/lang/String", "<init>", "([C)V"⟩ : MethodName) jdk_42_method_3_code 2 none :: ws) ({ frames := 5, cells := 2, slots := 12, locals := 76 } : Room)) (fun a U => a = #[(.ref a1), (.ref a2)] ∧ Z.Warmed39 U.vm ∧ U.heap = h0) (fun _ _ _ _ _ => True) (fun _ U o U' => ∃ v L, o = .returned v ∧ Q_rmS1 Z a1 a2 nn f cs h0 n0 v U'.heap L ∧ FrameEnd U o U' L ({ frames := 5, cells := 2, slots := 12, locals := 76 } : Room).cells ({ frames := 5, cells := 2, slots := 12, locals := 76 } : Room).slots) := by
  refine MetFree.of_bodySF (plainFor_of_name pn_rmS1) hisR ?_
  intro p e s m args below meth c s₁ Bd hml0 hP hK
  obtain ⟨rfl, hZ, hh⟩ := hP
  have hx := Bd.exec
  have hby := Bd.bytes
  have hml : c.maxLocals = 2 := hml0
  have hown : s.vm.findClass "java/lang/String" = some m.cls := findClass_of_methodNamed Bd.named
  have hnm := (name_of_methodNamed Bd.named Bd.method).1
  have X0 : Stand p l e ({ frames := 5, cells := 2, slots := 12, locals := 76 } : Room) s m #[(.ref a1), (.ref a2)] below meth c s₁ [] 0 0 := Stand.of_body Bd
  have e0 : s₁.heap = h0 := by rw [← hh, Bd.state]; rfl
  have N0 := Fr.nil n0
  have pre0 : Steps p.tables e below (s₁.setTop (entryFrame m #[(.ref a1), (.ref a2)] 2)) (s₁.setTop (mkF m 0 #[.val (.ref a1), .val (.ref a2)] [])) := castTop (ef_rmS1 m a1 a2) (Steps.refl _)
  obtain ⟨cc, Ac, Sc, Mc, Hc⟩ := id FC
  have pre1 : Steps p.tables e below _ (s₁.setTop (mkF m 6 #[.val (.ref a1), .val (.ref a2)] [.null, (.int nn), (.int (0 : Int32)), (.ref a2), (.ref a1)])) := pre0.trans (by
    show Steps p.tables e below (s₁.setTop (mkF m 0 #[.val (.ref a1), .val (.ref a2)] [])) _
    refine XS.aloadN X0.here hx rfl (hb hby d2_0) rfl rfl ?_
    show Steps p.tables e below (s₁.setTop (mkF m 1 #[.val (.ref a1), .val (.ref a2)] [(.ref a1)])) _
    refine XS.aloadN X0.here hx rfl (hb hby d2_1) rfl rfl ?_
    show Steps p.tables e below (s₁.setTop (mkF m 2 #[.val (.ref a1), .val (.ref a2)] [(.ref a2), (.ref a1)])) _
    refine XS.iconst X0.here hx rfl (hb hby d2_2) ?_
    show Steps p.tables e below (s₁.setTop (mkF m 3 #[.val (.ref a1), .val (.ref a2)] [(.int (0 : Int32)), (.ref a2), (.ref a1)])) _
    refine XS.aloadN X0.here hx rfl (hb hby d2_3) rfl rfl ?_
    show Steps p.tables e below (s₁.setTop (mkF m 4 #[.val (.ref a1), .val (.ref a2)] [(.ref a2), (.int (0 : Int32)), (.ref a2), (.ref a1)])) _
    refine X0.arraylength hx (by rw [e0]; exact Ac.1) (State.isArrayOf_alike hZ.alike Ac.2.1) (g := (mkF m 4 #[.val (.ref a1), .val (.ref a2)] [(.ref a2), (.int (0 : Int32)), (.ref a2), (.ref a1)])) rfl rfl (hb hby d2_4) _ ?_
    rw [len_of Sc Mc]
    show Steps p.tables e below (s₁.setTop (mkF m 5 #[.val (.ref a1), .val (.ref a2)] [(.int nn), (.int (0 : Int32)), (.ref a2), (.ref a1)])) _
    refine XS.aconstNull X0.here hx rfl (hb hby d2_5) ?_
    exact Steps.refl _)
  obtain ⟨_, _, ⟨T2, L2, k2, n2⟩, -, X2, ⟨Lc2, hQ2, l2, y2, z2⟩, st2⟩ := X0.specialBack hx (y := (⟨"java/lang/String", "<init>", "([CIILjava/lang/Void;)V"⟩ : MethodName)) rfl hown (mvT hZ (hw _ (List.mem_of_getElem? (i := 12) rfl))) (mvT hZ (hw _ (List.mem_of_getElem? (i := 13) rfl))) (mvT hZ (hw _ (List.mem_of_getElem? (i := 15) rfl))) (by decide) (backOf (W := 0) (rmS2 l Z a0 hw [] a1 a2 (0 : Int32) nn f cs h0 n0 Z0 rfl hn1 hn4 E F1 F2 g_a1 FC hch SC hcs SA SH SL) hZ (hw _ (List.mem_of_getElem? (i := 15) rfl)) (hw _ (List.mem_of_getElem? (i := 8) rfl)) (by decide) (by decide)) (g := (mkF m 6 #[.val (.ref a1), .val (.ref a2)] [.null, (.int nn), (.int (0 : Int32)), (.ref a2), (.ref a1)])) rfl (by rw [hml]; rfl) (Steps.refl _) (a := a1) (argsL := [(.ref a2), (.int (0 : Int32)), (.int nn), .null]) (rest := []) (lenOf pd_rmS1_0 rfl) rfl (by show 2 * 0 + _ ≤ _; exact Nat.le_of_eq rfl) (hb hby d2_6) (fun _ _ => ⟨rfl, e0, (by decide : 0 + 2 ≤ _), (by decide : 0 + 12 ≤ _)⟩)
  dsimp only [Pt.U, Pt.locs, Pt.cells, Pt.slots] at X2 l2 y2 z2 st2 hQ2
  subst l2 y2 z2
  obtain ⟨rfl, N2q, K2, SS2⟩ := hQ2
  have N2 := Fr.app N0 N2q
  have pre2 : Steps p.tables e below _ (T2.setTop (mkF m 9 #[.val (.ref a1), .val (.ref a2)] [])) := pre1.trans (st2)
  obtain ⟨fs, hr, hrun, hended, hW, hsame⟩ := X2.leave (v := none) (fun h => by rfl)
  refine ⟨_, _, pre2.trans ?_, hrun, hended, _, _, rfl, ?_, ⟨_, rfl⟩, hW, hsame.mono (by decide) (by decide)⟩
  · exact X2.returnOut hx Bd.returns (hb hby d2_9) hr
  · exact ⟨rfl, N2, K2, SS2⟩
theorem pn_rmS1E : plainName "java/lang/String" = true := by first | (simp [plainName, overriddenIn]; done) | decide +kernel
theorem pd_rmS1E_0 : parseMethodDescriptor "([CIILjava/lang/Void;)V" = some ⟨[(.array .char), .int, .int, (.object "java/lang/Void")], none⟩ := by decide +kernel
theorem ef_rmS1E (m : MethodId) (a1 : Addr) (a2 : Addr) : entryFrame m #[(.ref a1), (.ref a2)] 2 = (mkF m 0 #[.val (.ref a1), .val (.ref a2)] []) := by first | (simp [entryFrame, mkF, argsToLocals, Value.category]; done) | rfl
def Q_rmS1E (Z : State) (a1 : Addr) (a2 : Addr) (f fc : Nat → Int32) (h0 : Heap) (n0 : Nat) (v : Option Value) (h : Heap) (L : List Loc) : Prop := v = none ∧ Fr n0 L ∧ Keep h0 h [a1] ∧ Str Z h a1 (0 : Int32) f
set_option maxRecDepth 65536 in
set_option maxHeartbeats 40000000 in
theorem rmS1E (l : Launch) (Z : State) (a0 : Array Value) (hw : ∀ d ∈ tables_1, d.before a0 Z = true) (ws : List Jvm.Cond) (a1 : Addr) (a2 : Addr) (f fc : Nat → Int32) (h0 : Heap) (n0 : Nat) (Z0 : n0 ≤ h0.size) (E : Exa Z h0 a1 "java/lang/String") (F1 : Fld Z h0 a1 "java/lang/String" "value" "[B" .null) (F2 : Fld Z h0 a1 "java/lang/String" "coder" "B" (.int (0 : Int32))) (g_a1 : n0 ≤ a1) (FC : Far Z h0 a2 .char (0 : Int32) fc) :
    MetFree l (⟨"java/lang/String", "<init>", "([C)V"⟩ : MethodName) (head1 (Jvm.Cond.code (⟨"java/lang/String", "<init>", "([C)V"⟩ : MethodName) jdk_42_method_3_code 2 none :: ws) ({ frames := 5, cells := 2, slots := 12, locals := 76 } : Room)) (fun a U => a = #[(.ref a1), (.ref a2)] ∧ Z.Warmed39 U.vm ∧ U.heap = h0 ∧ CHv Z [("java/lang/String", (7 : Nat))] U.vm h0) (fun _ _ _ _ _ => True) (fun _ U o U' => ∃ v L, o = .returned v ∧ Q_rmS1E Z a1 a2 f fc h0 n0 v U'.heap L ∧ ReturnedEndW U o U' L ({ frames := 5, cells := 2, slots := 12, locals := 76 } : Room).cells ({ frames := 5, cells := 2, slots := 12, locals := 76 } : Room).slots) := by
  refine MetFree.of_bodySF (plainFor_of_name pn_rmS1E) hisR ?_
  intro p e s m args below meth c s₁ Bd hml0 hP hK
  obtain ⟨rfl, hZ, hh, hCH⟩ := hP
  have hx := Bd.exec
  have hby := Bd.bytes
  have hml : c.maxLocals = 2 := hml0
  have hown : s.vm.findClass "java/lang/String" = some m.cls := findClass_of_methodNamed Bd.named
  have hnm := (name_of_methodNamed Bd.named Bd.method).1
  have X0 : Stand p l e ({ frames := 5, cells := 2, slots := 12, locals := 76 } : Room) s m #[(.ref a1), (.ref a2)] below meth c s₁ [] 0 0 := Stand.of_body Bd
  have e0 : s₁.heap = h0 := by rw [← hh, Bd.state]; rfl
  have N0 := Fr.nil n0
  have pre0 : Steps p.tables e below (s₁.setTop (entryFrame m #[(.ref a1), (.ref a2)] 2)) (s₁.setTop (mkF m 0 #[.val (.ref a1), .val (.ref a2)] [])) := castTop (ef_rmS1E m a1 a2) (Steps.refl _)
  obtain ⟨cc, Ac, Sc, Mc, Hc⟩ := id FC
  have pre1 : Steps p.tables e below _ (s₁.setTop (mkF m 6 #[.val (.ref a1), .val (.ref a2)] [.null, (.int (0 : Int32)), (.int (0 : Int32)), (.ref a2), (.ref a1)])) := pre0.trans (by
    show Steps p.tables e below (s₁.setTop (mkF m 0 #[.val (.ref a1), .val (.ref a2)] [])) _
    refine XS.aloadN X0.here hx rfl (hb hby d2_0) rfl rfl ?_
    show Steps p.tables e below (s₁.setTop (mkF m 1 #[.val (.ref a1), .val (.ref a2)] [(.ref a1)])) _
    refine XS.aloadN X0.here hx rfl (hb hby d2_1) rfl rfl ?_
    show Steps p.tables e below (s₁.setTop (mkF m 2 #[.val (.ref a1), .val (.ref a2)] [(.ref a2), (.ref a1)])) _
    refine XS.iconst X0.here hx rfl (hb hby d2_2) ?_
    show Steps p.tables e below (s₁.setTop (mkF m 3 #[.val (.ref a1), .val (.ref a2)] [(.int (0 : Int32)), (.ref a2), (.ref a1)])) _
    refine XS.aloadN X0.here hx rfl (hb hby d2_3) rfl rfl ?_
    show Steps p.tables e below (s₁.setTop (mkF m 4 #[.val (.ref a1), .val (.ref a2)] [(.ref a2), (.int (0 : Int32)), (.ref a2), (.ref a1)])) _
    refine X0.arraylength hx (by rw [e0]; exact Ac.1) (State.isArrayOf_alike hZ.alike Ac.2.1) (g := (mkF m 4 #[.val (.ref a1), .val (.ref a2)] [(.ref a2), (.int (0 : Int32)), (.ref a2), (.ref a1)])) rfl rfl (hb hby d2_4) _ ?_
    rw [len_of Sc Mc]
    show Steps p.tables e below (s₁.setTop (mkF m 5 #[.val (.ref a1), .val (.ref a2)] [(.int (0 : Int32)), (.int (0 : Int32)), (.ref a2), (.ref a1)])) _
    refine XS.aconstNull X0.here hx rfl (hb hby d2_5) ?_
    exact Steps.refl _)
  have XV2 : Stand p l e ({ frames := 5, cells := 2, slots := 12, locals := 76 } : Room) (s.setVm s.vm) m #[(.ref a1), (.ref a2)] below meth c s₁ _ _ _ := X0
  obtain ⟨_, _, ⟨T2, L2, k2, n2⟩, -, X2, hS2, hg2, ⟨Lc2, hQ2, l2, y2, z2⟩, st2⟩ := XV2.specialBackS hx (y := (⟨"java/lang/String", "<init>", "([CIILjava/lang/Void;)V"⟩ : MethodName)) rfl hown (mvT hZ (hw _ (List.mem_of_getElem? (i := 12) rfl))) (mvT hZ (hw _ (List.mem_of_getElem? (i := 13) rfl))) (mvT hZ (hw _ (List.mem_of_getElem? (i := 15) rfl))) (by decide) (own_backE (W := 0) (vm0 := s.vm) (rmS2E l Z a0 hw [] a1 a2 (0 : Int32) (0 : Int32) f h0 n0 Z0 rfl E F1 F2 g_a1) hZ (hw _ (List.mem_of_getElem? (i := 15) rfl)) (hw _ (List.mem_of_getElem? (i := 8) rfl)) (by decide) (by decide) (own_EW hw) hCH) (g := (mkF m 6 #[.val (.ref a1), .val (.ref a2)] [.null, (.int (0 : Int32)), (.int (0 : Int32)), (.ref a2), (.ref a1)])) rfl (by rw [hml]; rfl) (Steps.refl _) (a := a1) (argsL := [(.ref a2), (.int (0 : Int32)), (.int (0 : Int32)), .null]) (rest := []) (lenOf pd_rmS1E_0 rfl) rfl (by show 2 * 0 + _ ≤ _; exact Nat.le_of_eq rfl) (hb hby d2_6) (fun _ _ => ⟨rfl, e0, (by decide : 0 + 2 ≤ _), (by decide : 0 + 12 ≤ _)⟩)
  dsimp only [Pt.U, Pt.locs, Pt.cells, Pt.slots] at X2 l2 y2 z2 st2 hQ2 hS2 hg2
  subst l2 y2 z2
  obtain ⟨rfl, N2q, K2, SS2⟩ := hQ2
  have N2 := Fr.app N0 N2q
  have hS2 : s.Since T2.vm T2.heap.size := hS2
  have X2 : Stand p l e ({ frames := 5, cells := 2, slots := 12, locals := 76 } : Room) (s.setVm T2.vm) m #[(.ref a1), (.ref a2)] below meth c T2 _ _ _ := X2
  have hZ : Z.Warmed39 (s.setVm T2.vm).vm := State.Warmed39.trans hZ hS2.1
  have hown : (s.setVm T2.vm).vm.findClass "java/lang/String" = some m.cls := (hS2.1.alike.findClass _ _).trans hown
  have pre2 : Steps p.tables e below _ (T2.setTop (mkF m 9 #[.val (.ref a1), .val (.ref a2)] [])) := pre1.trans st2
  have XW := X2.more (show 2 ≤ 2 by decide) (show 12 ≤ 12 by decide)
  obtain ⟨fs, hr, hrun, hended, hRE⟩ := XW.leaveW hS2 (Nat.le_refl _) (v := none) (fun h => by rfl)
  refine ⟨_, _, pre2.trans ?_, hrun, hended, _, _, rfl, ?_, hRE⟩
  · exact X2.returnOut hx Bd.returns (hb hby d2_9) hr
  · exact ⟨rfl, N2, K2, SS2⟩
theorem d16_0 : decode jdk_41_method_11_code 0 = .ok (.iload_n 0, 1) := by decide +kernel
theorem d16_1 : decode jdk_41_method_11_code 1 = .ok (.ifCond .lt 8, 3) := by decide +kernel
theorem d16_4 : decode jdk_41_method_11_code 4 = .ok (.iload_n 0, 1) := by decide +kernel
theorem d16_5 : decode jdk_41_method_11_code 5 = .ok (.iload_n 1, 1) := by decide +kernel
theorem d16_6 : decode jdk_41_method_11_code 6 = .ok (.if_icmp .lt 10, 3) := by decide +kernel
theorem d16_16 : decode jdk_41_method_11_code 16 = .ok (.iload_n 0, 1) := by decide +kernel
theorem d16_17 : decode jdk_41_method_11_code 17 = .ok (.ireturn, 1) := by decide +kernel
theorem pn_rmPIn : plainName "jdk/internal/util/Preconditions" = true := by first | (simp [plainName, overriddenIn]; done) | decide +kernel
theorem ef_rmPIn (m : MethodId) (p1 : Int32) (p2 : Int32) : entryFrame m #[(.int p1), (.int p2), .null] 3 = (mkF m 0 #[.val (.int p1), .val (.int p2), .val .null] []) := by first | (simp [entryFrame, mkF, argsToLocals, Value.category]; done) | rfl
def Q_rmPIn (Z : State) (p1 : Int32) (p2 : Int32)  (h0 : Heap) (n0 : Nat) (v : Option Value) (h : Heap) (L : List Loc) : Prop := v = some (.int p1) ∧ Fr n0 L ∧ h = h0
set_option maxRecDepth 65536 in
set_option maxHeartbeats 40000000 in
theorem rmPIn (l : Launch) (Z : State) (a0 : Array Value) (hw : ∀ d ∈ tables_1, d.before a0 Z = true) (ws : List Jvm.Cond) (p1 : Int32) (p2 : Int32)  (h0 : Heap) (n0 : Nat) (Z0 : n0 ≤ h0.size) (u1 : ¬ p1 < 0) (u2 : p1 < p2) :
    MetFree l (⟨"jdk/internal/util/Preconditions", "checkIndex", "(IILjava/util/function/BiFunction;)I"⟩ : MethodName) (head1 (Jvm.Cond.code (⟨"jdk/internal/util/Preconditions", "checkIndex", "(IILjava/util/function/BiFunction;)I"⟩ : MethodName) jdk_41_method_11_code 3 (some .int) :: ws) ({ frames := 0, cells := 0, slots := 0, locals := 0 } : Room)) (fun a U => a = #[(.int p1), (.int p2), .null] ∧ Z.Warmed39 U.vm ∧ U.heap = h0) (fun _ _ _ _ _ => True) (fun _ U o U' => ∃ v L, o = .returned v ∧ Q_rmPIn Z p1 p2 h0 n0 v U'.heap L ∧ FrameEnd U o U' L ({ frames := 0, cells := 0, slots := 0, locals := 0 } : Room).cells ({ frames := 0, cells := 0, slots := 0, locals := 0 } : Room).slots) := by
  refine MetFree.of_bodySF (plainFor_of_name pn_rmPIn) hisR ?_
  intro p e s m args below meth c s₁ Bd hml0 hP hK
  obtain ⟨rfl, hZ, hh⟩ := hP
  have hx := Bd.exec
  have hby := Bd.bytes
  have hml : c.maxLocals = 3 := hml0
  have hown : s.vm.findClass "jdk/internal/util/Preconditions" = some m.cls := findClass_of_methodNamed Bd.named
  have hnm := (name_of_methodNamed Bd.named Bd.method).1
  have X0 : Stand p l e ({ frames := 0, cells := 0, slots := 0, locals := 0 } : Room) s m #[(.int p1), (.int p2), .null] below meth c s₁ [] 0 0 := Stand.of_body Bd
  have e0 : s₁.heap = h0 := by rw [← hh, Bd.state]; rfl
  have N0 := Fr.nil n0
  have pre0 : Steps p.tables e below (s₁.setTop (entryFrame m #[(.int p1), (.int p2), .null] 3)) (s₁.setTop (mkF m 0 #[.val (.int p1), .val (.int p2), .val .null] [])) := castTop (ef_rmPIn m p1 p2) (Steps.refl _)
  have pre1 : Steps p.tables e below _ (s₁.setTop (mkF m 17 #[.val (.int p1), .val (.int p2), .val .null] [(.int p1)])) := pre0.trans (by
    show Steps p.tables e below (s₁.setTop (mkF m 0 #[.val (.int p1), .val (.int p2), .val .null] [])) _
    refine XS.iloadN X0.here hx rfl (hb hby d16_0) rfl ?_
    show Steps p.tables e below (s₁.setTop (mkF m 1 #[.val (.int p1), .val (.int p2), .val .null] [(.int p1)])) _
    refine XS.ifNo X0.here hx rfl (hb hby d16_1) rfl ((if0 _ _).trans (flt u1).1) ?_
    show Steps p.tables e below (s₁.setTop (mkF m 4 #[.val (.int p1), .val (.int p2), .val .null] [])) _
    refine XS.iloadN X0.here hx rfl (hb hby d16_4) rfl ?_
    show Steps p.tables e below (s₁.setTop (mkF m 5 #[.val (.int p1), .val (.int p2), .val .null] [(.int p1)])) _
    refine XS.iloadN X0.here hx rfl (hb hby d16_5) rfl ?_
    show Steps p.tables e below (s₁.setTop (mkF m 6 #[.val (.int p1), .val (.int p2), .val .null] [(.int p2), (.int p1)])) _
    refine XS.icmpYes X0.here hx rfl (pc0 := 6) (pc' := 16) rfl (hb hby d16_6) rfl (tlt u2).1 (by decide) (by decide) ?_
    show Steps p.tables e below (s₁.setTop (mkF m 16 #[.val (.int p1), .val (.int p2), .val .null] [])) _
    refine XS.iloadN X0.here hx rfl (hb hby d16_16) rfl ?_
    exact Steps.refl _)
  obtain ⟨fs, hr, hrun, hended, hW, hsame⟩ := X0.leave (v := some (.int p1)) (fun h => by rw [Bd.returns] at h; cases h)
  refine ⟨_, _, pre1.trans ?_, hrun, hended, _, _, rfl, ?_, ⟨_, rfl⟩, hW, hsame.mono (by decide) (by decide)⟩
  · exact retI X0 hx Bd.returns (hb hby d16_17) hr
  · exact ⟨rfl, N0, e0⟩
theorem pn_rmPIr : plainName "jdk/internal/util/Preconditions" = true := by first | (simp [plainName, overriddenIn]; done) | decide +kernel
theorem ef_rmPIr (m : MethodId) (p1 : Int32) (p2 : Int32) (a3 : Addr) : entryFrame m #[(.int p1), (.int p2), (.ref a3)] 3 = (mkF m 0 #[.val (.int p1), .val (.int p2), .val (.ref a3)] []) := by first | (simp [entryFrame, mkF, argsToLocals, Value.category]; done) | rfl
def Q_rmPIr (Z : State) (p1 : Int32) (p2 : Int32) (a3 : Addr)  (h0 : Heap) (n0 : Nat) (v : Option Value) (h : Heap) (L : List Loc) : Prop := v = some (.int p1) ∧ Fr n0 L ∧ h = h0
set_option maxRecDepth 65536 in
set_option maxHeartbeats 40000000 in
theorem rmPIr (l : Launch) (Z : State) (a0 : Array Value) (hw : ∀ d ∈ tables_1, d.before a0 Z = true) (ws : List Jvm.Cond) (p1 : Int32) (p2 : Int32) (a3 : Addr)  (h0 : Heap) (n0 : Nat) (Z0 : n0 ≤ h0.size) (u1 : ¬ p1 < 0) (u2 : p1 < p2) :
    MetFree l (⟨"jdk/internal/util/Preconditions", "checkIndex", "(IILjava/util/function/BiFunction;)I"⟩ : MethodName) (head1 (Jvm.Cond.code (⟨"jdk/internal/util/Preconditions", "checkIndex", "(IILjava/util/function/BiFunction;)I"⟩ : MethodName) jdk_41_method_11_code 3 (some .int) :: ws) ({ frames := 0, cells := 0, slots := 0, locals := 0 } : Room)) (fun a U => a = #[(.int p1), (.int p2), (.ref a3)] ∧ Z.Warmed39 U.vm ∧ U.heap = h0) (fun _ _ _ _ _ => True) (fun _ U o U' => ∃ v L, o = .returned v ∧ Q_rmPIr Z p1 p2 a3 h0 n0 v U'.heap L ∧ FrameEnd U o U' L ({ frames := 0, cells := 0, slots := 0, locals := 0 } : Room).cells ({ frames := 0, cells := 0, slots := 0, locals := 0 } : Room).slots) := by
  refine MetFree.of_bodySF (plainFor_of_name pn_rmPIr) hisR ?_
  intro p e s m args below meth c s₁ Bd hml0 hP hK
  obtain ⟨rfl, hZ, hh⟩ := hP
  have hx := Bd.exec
  have hby := Bd.bytes
  have hml : c.maxLocals = 3 := hml0
  have hown : s.vm.findClass "jdk/internal/util/Preconditions" = some m.cls := findClass_of_methodNamed Bd.named
  have hnm := (name_of_methodNamed Bd.named Bd.method).1
  have X0 : Stand p l e ({ frames := 0, cells := 0, slots := 0, locals := 0 } : Room) s m #[(.int p1), (.int p2), (.ref a3)] below meth c s₁ [] 0 0 := Stand.of_body Bd
  have e0 : s₁.heap = h0 := by rw [← hh, Bd.state]; rfl
  have N0 := Fr.nil n0
  have pre0 : Steps p.tables e below (s₁.setTop (entryFrame m #[(.int p1), (.int p2), (.ref a3)] 3)) (s₁.setTop (mkF m 0 #[.val (.int p1), .val (.int p2), .val (.ref a3)] [])) := castTop (ef_rmPIr m p1 p2 a3) (Steps.refl _)
  have pre1 : Steps p.tables e below _ (s₁.setTop (mkF m 17 #[.val (.int p1), .val (.int p2), .val (.ref a3)] [(.int p1)])) := pre0.trans (by
    show Steps p.tables e below (s₁.setTop (mkF m 0 #[.val (.int p1), .val (.int p2), .val (.ref a3)] [])) _
    refine XS.iloadN X0.here hx rfl (hb hby d16_0) rfl ?_
    show Steps p.tables e below (s₁.setTop (mkF m 1 #[.val (.int p1), .val (.int p2), .val (.ref a3)] [(.int p1)])) _
    refine XS.ifNo X0.here hx rfl (hb hby d16_1) rfl ((if0 _ _).trans (flt u1).1) ?_
    show Steps p.tables e below (s₁.setTop (mkF m 4 #[.val (.int p1), .val (.int p2), .val (.ref a3)] [])) _
    refine XS.iloadN X0.here hx rfl (hb hby d16_4) rfl ?_
    show Steps p.tables e below (s₁.setTop (mkF m 5 #[.val (.int p1), .val (.int p2), .val (.ref a3)] [(.int p1)])) _
    refine XS.iloadN X0.here hx rfl (hb hby d16_5) rfl ?_
    show Steps p.tables e below (s₁.setTop (mkF m 6 #[.val (.int p1), .val (.int p2), .val (.ref a3)] [(.int p2), (.int p1)])) _
    refine XS.icmpYes X0.here hx rfl (pc0 := 6) (pc' := 16) rfl (hb hby d16_6) rfl (tlt u2).1 (by decide) (by decide) ?_
    show Steps p.tables e below (s₁.setTop (mkF m 16 #[.val (.int p1), .val (.int p2), .val (.ref a3)] [])) _
    refine XS.iloadN X0.here hx rfl (hb hby d16_16) rfl ?_
    exact Steps.refl _)
  obtain ⟨fs, hr, hrun, hended, hW, hsame⟩ := X0.leave (v := some (.int p1)) (fun h => by rw [Bd.returns] at h; cases h)
  refine ⟨_, _, pre1.trans ?_, hrun, hended, _, _, rfl, ?_, ⟨_, rfl⟩, hW, hsame.mono (by decide) (by decide)⟩
  · exact retI X0 hx Bd.returns (hb hby d16_17) hr
  · exact ⟨rfl, N0, e0⟩
theorem d15_0 : decode jdk_42_method_155_code 0 = .ok (.iload_n 0, 1) := by decide +kernel
theorem d15_1 : decode jdk_42_method_155_code 1 = .ok (.iload_n 1, 1) := by decide +kernel
theorem d15_2 : decode jdk_42_method_155_code 2 = .ok (.getstatic 1053, 3) := by decide +kernel
theorem d15_5 : decode jdk_42_method_155_code 5 = .ok (.invokestatic 1059, 3) := by decide +kernel
theorem d15_8 : decode jdk_42_method_155_code 8 = .ok (.pop, 1) := by decide +kernel
theorem d15_9 : decode jdk_42_method_155_code 9 = .ok (.return_, 1) := by decide +kernel
theorem pn_rmCI : plainName "java/lang/String" = true := by first | (simp [plainName, overriddenIn]; done) | decide +kernel
theorem pd_rmCI_0 : parseMethodDescriptor "(IILjava/util/function/BiFunction;)I" = some ⟨[.int, .int, (.object "java/util/function/BiFunction")], some .int⟩ := by decide +kernel
theorem ef_rmCI (m : MethodId) (p1 : Int32) (p2 : Int32) : entryFrame m #[(.int p1), (.int p2)] 2 = (mkF m 0 #[.val (.int p1), .val (.int p2)] []) := by first | (simp [entryFrame, mkF, argsToLocals, Value.category]; done) | rfl
def Q_rmCI (Z : State) (p1 : Int32) (p2 : Int32) (fv : Value) (h0 : Heap) (n0 : Nat) (v : Option Value) (h : Heap) (L : List Loc) : Prop := v = none ∧ Fr n0 L ∧ h = h0
set_option maxRecDepth 65536 in
set_option maxHeartbeats 40000000 in
theorem rmCI (l : Launch) (Z : State) (a0 : Array Value) (hw : ∀ d ∈ tables_1, d.before a0 Z = true) (ws : List Jvm.Cond) (p1 : Int32) (p2 : Int32) (fv : Value) (h0 : Heap) (n0 : Nat) (Z0 : n0 ≤ h0.size) (u1 : ¬ p1 < 0) (u2 : p1 < p2) (SF : Sta Z h0 "jdk/internal/util/Preconditions" "SIOOBE_FORMATTER" "Ljava/util/function/BiFunction;" fv) (hfv : fv = .null ∨ ∃ a, fv = .ref a) :
    MetFree l (⟨"java/lang/String", "checkIndex", "(II)V"⟩ : MethodName) (head1 (Jvm.Cond.code (⟨"java/lang/String", "checkIndex", "(II)V"⟩ : MethodName) jdk_42_method_155_code 2 none :: ws) ({ frames := 1, cells := 0, slots := 0, locals := 14 } : Room)) (fun a U => a = #[(.int p1), (.int p2)] ∧ Z.Warmed39 U.vm ∧ U.heap = h0) (fun _ _ _ _ _ => True) (fun _ U o U' => ∃ v L, o = .returned v ∧ Q_rmCI Z p1 p2 fv h0 n0 v U'.heap L ∧ FrameEnd U o U' L ({ frames := 1, cells := 0, slots := 0, locals := 14 } : Room).cells ({ frames := 1, cells := 0, slots := 0, locals := 14 } : Room).slots) := by
  refine MetFree.of_bodySF (plainFor_of_name pn_rmCI) hisR ?_
  intro p e s m args below meth c s₁ Bd hml0 hP hK
  obtain ⟨rfl, hZ, hh⟩ := hP
  have hx := Bd.exec
  have hby := Bd.bytes
  have hml : c.maxLocals = 2 := hml0
  have hown : s.vm.findClass "java/lang/String" = some m.cls := findClass_of_methodNamed Bd.named
  have hnm := (name_of_methodNamed Bd.named Bd.method).1
  have X0 : Stand p l e ({ frames := 1, cells := 0, slots := 0, locals := 14 } : Room) s m #[(.int p1), (.int p2)] below meth c s₁ [] 0 0 := Stand.of_body Bd
  have e0 : s₁.heap = h0 := by rw [← hh, Bd.state]; rfl
  have N0 := Fr.nil n0
  have pre0 : Steps p.tables e below (s₁.setTop (entryFrame m #[(.int p1), (.int p2)] 2)) (s₁.setTop (mkF m 0 #[.val (.int p1), .val (.int p2)] [])) := castTop (ef_rmCI m p1 p2) (Steps.refl _)
  have pre1 : Steps p.tables e below _ (s₁.setTop (mkF m 2 #[.val (.int p1), .val (.int p2)] [(.int p2), (.int p1)])) := pre0.trans (by
    show Steps p.tables e below (s₁.setTop (mkF m 0 #[.val (.int p1), .val (.int p2)] [])) _
    refine XS.iloadN X0.here hx rfl (hb hby d15_0) rfl ?_
    show Steps p.tables e below (s₁.setTop (mkF m 1 #[.val (.int p1), .val (.int p2)] [(.int p1)])) _
    refine XS.iloadN X0.here hx rfl (hb hby d15_1) rfl ?_
    exact Steps.refl _)
  rcases hfv with rfl | ⟨fa, rfl⟩
  · have u11 := u1
    obtain ⟨T2, X2, e2, st2⟩ := getS (host := "") X0 hx hZ hown (hw _ (List.mem_of_getElem? (i := 72) rfl)) Via.refl e0 SF (g := (mkF m 2 #[.val (.int p1), .val (.int p2)] [(.int p2), (.int p1)])) rfl (hb hby d15_2)
    have pre2 : Steps p.tables e below _ (T2.setTop (mkF m 5 #[.val (.int p1), .val (.int p2)] [.null, (.int p2), (.int p1)])) := pre1.trans (st2 _ (Steps.refl _))
    obtain ⟨_, _, ⟨T3, L3, k3, n3⟩, -, X3, ⟨Lc3, hQ3, l3, y3, z3⟩, st3⟩ := Jvm.LawKit.callS X2 hx (y := (⟨"jdk/internal/util/Preconditions", "checkIndex", "(IILjava/util/function/BiFunction;)I"⟩ : MethodName)) hown (mvT hZ (hw _ (List.mem_of_getElem? (i := 74) rfl))) (mvT hZ (hw _ (List.mem_of_getElem? (i := 75) rfl))) (mvT hZ (hw _ (List.mem_of_getElem? (i := 73) rfl))) (mvT hZ (hw _ (List.mem_of_getElem? (i := 76) rfl))) (by decide) (backOf (W := 0) (rmPIn l Z a0 hw [] p1 p2  h0 n0 Z0 u1 u2) hZ (hw _ (List.mem_of_getElem? (i := 76) rfl)) (hw _ (List.mem_of_getElem? (i := 73) rfl)) (by decide) (by decide)) (g := (mkF m 5 #[.val (.int p1), .val (.int p2)] [.null, (.int p2), (.int p1)])) rfl (by rw [hml]; rfl) (argsL := [(.int p1), (.int p2), .null]) (rest := []) (lenOf pd_rmCI_0 rfl) rfl (by show 2 * 0 + _ ≤ _; exact Nat.le_of_eq rfl) (hb hby d15_5) (fun _ _ => ⟨rfl, e2, (by decide : 0 + 0 ≤ _), (by decide : 0 + 0 ≤ _)⟩)
    dsimp only [Pt.U, Pt.locs, Pt.cells, Pt.slots] at X3 l3 y3 z3 st3 hQ3
    subst l3 y3 z3
    obtain ⟨rfl, N3q, hh3⟩ := hQ3
    have N3 := Fr.app N0 N3q
    have pre3 : Steps p.tables e below _ (T3.setTop (mkF m 8 #[.val (.int p1), .val (.int p2)] [(.int p1)])) := pre2.trans (st3 _ (Steps.refl _))
    have pre4 : Steps p.tables e below _ (T3.setTop (mkF m 9 #[.val (.int p1), .val (.int p2)] [])) := pre3.trans (by
      show Steps p.tables e below (T3.setTop (mkF m 8 #[.val (.int p1), .val (.int p2)] [(.int p1)])) _
      refine XS.pop X3.here hx rfl (hb hby d15_8) rfl rfl ?_
      exact Steps.refl _)
    obtain ⟨fs, hr, hrun, hended, hW, hsame⟩ := X3.leave (v := none) (fun h => by rfl)
    refine ⟨_, _, pre4.trans ?_, hrun, hended, _, _, rfl, ?_, ⟨_, rfl⟩, hW, hsame.mono (by decide) (by decide)⟩
    · exact X3.returnOut hx Bd.returns (hb hby d15_9) hr
    · exact ⟨rfl, N3, hh3⟩
  · have u11 := u1
    obtain ⟨T5, X5, e5, st5⟩ := getS (host := "") X0 hx hZ hown (hw _ (List.mem_of_getElem? (i := 72) rfl)) Via.refl e0 SF (g := (mkF m 2 #[.val (.int p1), .val (.int p2)] [(.int p2), (.int p1)])) rfl (hb hby d15_2)
    have pre5 : Steps p.tables e below _ (T5.setTop (mkF m 5 #[.val (.int p1), .val (.int p2)] [(.ref fa), (.int p2), (.int p1)])) := pre1.trans (st5 _ (Steps.refl _))
    obtain ⟨_, _, ⟨T6, L6, k6, n6⟩, -, X6, ⟨Lc6, hQ6, l6, y6, z6⟩, st6⟩ := Jvm.LawKit.callS X5 hx (y := (⟨"jdk/internal/util/Preconditions", "checkIndex", "(IILjava/util/function/BiFunction;)I"⟩ : MethodName)) hown (mvT hZ (hw _ (List.mem_of_getElem? (i := 74) rfl))) (mvT hZ (hw _ (List.mem_of_getElem? (i := 75) rfl))) (mvT hZ (hw _ (List.mem_of_getElem? (i := 73) rfl))) (mvT hZ (hw _ (List.mem_of_getElem? (i := 76) rfl))) (by decide) (backOf (W := 0) (rmPIr l Z a0 hw [] p1 p2 fa h0 n0 Z0 u1 u2) hZ (hw _ (List.mem_of_getElem? (i := 76) rfl)) (hw _ (List.mem_of_getElem? (i := 73) rfl)) (by decide) (by decide)) (g := (mkF m 5 #[.val (.int p1), .val (.int p2)] [(.ref fa), (.int p2), (.int p1)])) rfl (by rw [hml]; rfl) (argsL := [(.int p1), (.int p2), (.ref fa)]) (rest := []) (lenOf pd_rmCI_0 rfl) rfl (by show 2 * 0 + _ ≤ _; exact Nat.le_of_eq rfl) (hb hby d15_5) (fun _ _ => ⟨rfl, e5, (by decide : 0 + 0 ≤ _), (by decide : 0 + 0 ≤ _)⟩)
    dsimp only [Pt.U, Pt.locs, Pt.cells, Pt.slots] at X6 l6 y6 z6 st6 hQ6
    subst l6 y6 z6
    obtain ⟨rfl, N6q, hh6⟩ := hQ6
    have N6 := Fr.app N0 N6q
    have pre6 : Steps p.tables e below _ (T6.setTop (mkF m 8 #[.val (.int p1), .val (.int p2)] [(.int p1)])) := pre5.trans (st6 _ (Steps.refl _))
    have pre7 : Steps p.tables e below _ (T6.setTop (mkF m 9 #[.val (.int p1), .val (.int p2)] [])) := pre6.trans (by
      show Steps p.tables e below (T6.setTop (mkF m 8 #[.val (.int p1), .val (.int p2)] [(.int p1)])) _
      refine XS.pop X6.here hx rfl (hb hby d15_8) rfl rfl ?_
      exact Steps.refl _)
    obtain ⟨fs, hr, hrun, hended, hW, hsame⟩ := X6.leave (v := none) (fun h => by rfl)
    refine ⟨_, _, pre7.trans ?_, hrun, hended, _, _, rfl, ?_, ⟨_, rfl⟩, hW, hsame.mono (by decide) (by decide)⟩
    · exact X6.returnOut hx Bd.returns (hb hby d15_9) hr
    · exact ⟨rfl, N6, hh6⟩
theorem d25_0 : decode jdk_52_method_6_code 0 = .ok (.aload_n 0, 1) := by decide +kernel
theorem d25_1 : decode jdk_52_method_6_code 1 = .ok (.arraylength, 1) := by decide +kernel
theorem d25_2 : decode jdk_52_method_6_code 2 = .ok (.iconst 1, 1) := by decide +kernel
theorem d25_3 : decode jdk_52_method_6_code 3 = .ok (.ishr, 1) := by decide +kernel
theorem d25_4 : decode jdk_52_method_6_code 4 = .ok (.ireturn, 1) := by decide +kernel
theorem pn_rmUL : plainName "java/lang/StringUTF16" = true := by first | (simp [plainName, overriddenIn]; done) | decide +kernel
theorem ef_rmUL (m : MethodId) (a1 : Addr) : entryFrame m #[(.ref a1)] 1 = (mkF m 0 #[.val (.ref a1)] []) := by first | (simp [entryFrame, mkF, argsToLocals, Value.category]; done) | rfl
def Q_rmUL (Z : State) (a1 : Addr) (nn : Int32) (g : Nat → Int32) (h0 : Heap) (n0 : Nat) (v : Option Value) (h : Heap) (L : List Loc) : Prop := v = some (.int nn) ∧ Fr n0 L ∧ h = h0
set_option maxRecDepth 65536 in
set_option maxHeartbeats 40000000 in
theorem rmUL (l : Launch) (Z : State) (a0 : Array Value) (hw : ∀ d ∈ tables_1, d.before a0 Z = true) (ws : List Jvm.Cond) (a1 : Addr) (nn : Int32) (g : Nat → Int32) (h0 : Heap) (n0 : Nat) (Z0 : n0 ≤ h0.size) (FB : Far Z h0 a1 .byte (own_dbl nn) g) (hn0 : 0 ≤ nn.toInt) (hn4 : nn.toInt ≤ 4) :
    MetFree l (⟨"java/lang/StringUTF16", "length", "([B)I"⟩ : MethodName) (head1 (Jvm.Cond.code (⟨"java/lang/StringUTF16", "length", "([B)I"⟩ : MethodName) jdk_52_method_6_code 1 (some .int) :: ws) ({ frames := 0, cells := 0, slots := 0, locals := 0 } : Room)) (fun a U => a = #[(.ref a1)] ∧ Z.Warmed39 U.vm ∧ U.heap = h0) (fun _ _ _ _ _ => True) (fun _ U o U' => ∃ v L, o = .returned v ∧ Q_rmUL Z a1 nn g h0 n0 v U'.heap L ∧ FrameEnd U o U' L ({ frames := 0, cells := 0, slots := 0, locals := 0 } : Room).cells ({ frames := 0, cells := 0, slots := 0, locals := 0 } : Room).slots) := by
  refine MetFree.of_bodySF (plainFor_of_name pn_rmUL) hisR ?_
  intro p e s m args below meth c s₁ Bd hml0 hP hK
  obtain ⟨rfl, hZ, hh⟩ := hP
  have hx := Bd.exec
  have hby := Bd.bytes
  have hml : c.maxLocals = 1 := hml0
  have hown : s.vm.findClass "java/lang/StringUTF16" = some m.cls := findClass_of_methodNamed Bd.named
  have hnm := (name_of_methodNamed Bd.named Bd.method).1
  have X0 : Stand p l e ({ frames := 0, cells := 0, slots := 0, locals := 0 } : Room) s m #[(.ref a1)] below meth c s₁ [] 0 0 := Stand.of_body Bd
  have e0 : s₁.heap = h0 := by rw [← hh, Bd.state]; rfl
  have N0 := Fr.nil n0
  have pre0 : Steps p.tables e below (s₁.setTop (entryFrame m #[(.ref a1)] 1)) (s₁.setTop (mkF m 0 #[.val (.ref a1)] [])) := castTop (ef_rmUL m a1) (Steps.refl _)
  obtain ⟨cb, Ab, Sb, Mb, Hb⟩ := id FB
  have pre1 : Steps p.tables e below _ (s₁.setTop (mkF m 4 #[.val (.ref a1)] [(.int ((own_dbl nn) >>> ((1 : Int32) &&& 31)))])) := pre0.trans (by
    show Steps p.tables e below (s₁.setTop (mkF m 0 #[.val (.ref a1)] [])) _
    refine XS.aloadN X0.here hx rfl (hb hby d25_0) rfl rfl ?_
    show Steps p.tables e below (s₁.setTop (mkF m 1 #[.val (.ref a1)] [(.ref a1)])) _
    refine X0.arraylength hx (by rw [e0]; exact Ab.1) (State.isArrayOf_alike hZ.alike Ab.2.1) (g := (mkF m 1 #[.val (.ref a1)] [(.ref a1)])) rfl rfl (hb hby d25_1) _ ?_
    rw [len_of Sb Mb]
    show Steps p.tables e below (s₁.setTop (mkF m 2 #[.val (.ref a1)] [(.int (own_dbl nn))])) _
    refine XS.iconst X0.here hx rfl (hb hby d25_2) ?_
    show Steps p.tables e below (s₁.setTop (mkF m 3 #[.val (.ref a1)] [(.int (1 : Int32)), (.int (own_dbl nn))])) _
    refine XS.ishr X0.here hx rfl (hb hby d25_3) rfl ?_
    exact Steps.refl _)
  rw [own_len1 nn hn0 hn4] at pre1
  obtain ⟨fs, hr, hrun, hended, hW, hsame⟩ := X0.leave (v := some (.int nn)) (fun h => by rw [Bd.returns] at h; cases h)
  refine ⟨_, _, pre1.trans ?_, hrun, hended, _, _, rfl, ?_, ⟨_, rfl⟩, hW, hsame.mono (by decide) (by decide)⟩
  · exact retI X0 hx Bd.returns (hb hby d25_4) hr
  · exact ⟨rfl, N0, e0⟩
theorem d24_0 : decode jdk_52_method_91_code 0 = .ok (.iload_n 0, 1) := by decide +kernel
theorem d24_1 : decode jdk_52_method_91_code 1 = .ok (.aload_n 1, 1) := by decide +kernel
theorem d24_2 : decode jdk_52_method_91_code 2 = .ok (.invokestatic 48, 3) := by decide +kernel
theorem d24_5 : decode jdk_52_method_91_code 5 = .ok (.invokestatic 414, 3) := by decide +kernel
theorem d24_8 : decode jdk_52_method_91_code 8 = .ok (.return_, 1) := by decide +kernel
theorem pn_rmUC : plainName "java/lang/StringUTF16" = true := by first | (simp [plainName, overriddenIn]; done) | decide +kernel
theorem pd_rmUC_0 : parseMethodDescriptor "([B)I" = some ⟨[(.array .byte)], some .int⟩ := by decide +kernel
theorem pd_rmUC_1 : parseMethodDescriptor "(II)V" = some ⟨[.int, .int], none⟩ := by decide +kernel
theorem ef_rmUC (m : MethodId) (p1 : Int32) (a2 : Addr) : entryFrame m #[(.int p1), (.ref a2)] 2 = (mkF m 0 #[.val (.int p1), .val (.ref a2)] []) := by first | (simp [entryFrame, mkF, argsToLocals, Value.category]; done) | rfl
def Q_rmUC (Z : State) (p1 : Int32) (a2 : Addr) (nn : Int32) (g : Nat → Int32) (fv : Value) (h0 : Heap) (n0 : Nat) (v : Option Value) (h : Heap) (L : List Loc) : Prop := v = none ∧ Fr n0 L ∧ h = h0
set_option maxRecDepth 65536 in
set_option maxHeartbeats 40000000 in
theorem rmUC (l : Launch) (Z : State) (a0 : Array Value) (hw : ∀ d ∈ tables_1, d.before a0 Z = true) (ws : List Jvm.Cond) (p1 : Int32) (a2 : Addr) (nn : Int32) (g : Nat → Int32) (fv : Value) (h0 : Heap) (n0 : Nat) (Z0 : n0 ≤ h0.size) (FB : Far Z h0 a2 .byte (own_dbl nn) g) (hn0 : 0 ≤ nn.toInt) (hn4 : nn.toInt ≤ 4) (u1 : ¬ p1 < 0) (u2 : p1 < nn) (SF : Sta Z h0 "jdk/internal/util/Preconditions" "SIOOBE_FORMATTER" "Ljava/util/function/BiFunction;" fv) (hfv : fv = .null ∨ ∃ a, fv = .ref a) :
    MetFree l (⟨"java/lang/StringUTF16", "checkIndex", "(I[B)V"⟩ : MethodName) (head1 (Jvm.Cond.code (⟨"java/lang/StringUTF16", "checkIndex", "(I[B)V"⟩ : MethodName) jdk_52_method_91_code 2 none :: ws) ({ frames := 2, cells := 0, slots := 0, locals := 27 } : Room)) (fun a U => a = #[(.int p1), (.ref a2)] ∧ Z.Warmed39 U.vm ∧ U.heap = h0) (fun _ _ _ _ _ => True) (fun _ U o U' => ∃ v L, o = .returned v ∧ Q_rmUC Z p1 a2 nn g fv h0 n0 v U'.heap L ∧ FrameEnd U o U' L ({ frames := 2, cells := 0, slots := 0, locals := 27 } : Room).cells ({ frames := 2, cells := 0, slots := 0, locals := 27 } : Room).slots) := by
  refine MetFree.of_bodySF (plainFor_of_name pn_rmUC) hisR ?_
  intro p e s m args below meth c s₁ Bd hml0 hP hK
  obtain ⟨rfl, hZ, hh⟩ := hP
  have hx := Bd.exec
  have hby := Bd.bytes
  have hml : c.maxLocals = 2 := hml0
  have hown : s.vm.findClass "java/lang/StringUTF16" = some m.cls := findClass_of_methodNamed Bd.named
  have hnm := (name_of_methodNamed Bd.named Bd.method).1
  have X0 : Stand p l e ({ frames := 2, cells := 0, slots := 0, locals := 27 } : Room) s m #[(.int p1), (.ref a2)] below meth c s₁ [] 0 0 := Stand.of_body Bd
  have e0 : s₁.heap = h0 := by rw [← hh, Bd.state]; rfl
  have N0 := Fr.nil n0
  have pre0 : Steps p.tables e below (s₁.setTop (entryFrame m #[(.int p1), (.ref a2)] 2)) (s₁.setTop (mkF m 0 #[.val (.int p1), .val (.ref a2)] [])) := castTop (ef_rmUC m p1 a2) (Steps.refl _)
  have pre1 : Steps p.tables e below _ (s₁.setTop (mkF m 2 #[.val (.int p1), .val (.ref a2)] [(.ref a2), (.int p1)])) := pre0.trans (by
    show Steps p.tables e below (s₁.setTop (mkF m 0 #[.val (.int p1), .val (.ref a2)] [])) _
    refine XS.iloadN X0.here hx rfl (hb hby d24_0) rfl ?_
    show Steps p.tables e below (s₁.setTop (mkF m 1 #[.val (.int p1), .val (.ref a2)] [(.int p1)])) _
    refine XS.aloadN X0.here hx rfl (hb hby d24_1) rfl rfl ?_
    exact Steps.refl _)
  obtain ⟨_, _, ⟨T2, L2, k2, n2⟩, -, X2, ⟨Lc2, hQ2, l2, y2, z2⟩, st2⟩ := Jvm.LawKit.callS X0 hx (y := (⟨"java/lang/StringUTF16", "length", "([B)I"⟩ : MethodName)) hown (mvT hZ (hw _ (List.mem_of_getElem? (i := 105) rfl))) (mvT hZ (hw _ (List.mem_of_getElem? (i := 106) rfl))) (mvT hZ (hw _ (List.mem_of_getElem? (i := 44) rfl))) (mvT hZ (hw _ (List.mem_of_getElem? (i := 107) rfl))) (by decide) (backOf (W := 1) (rmUL l Z a0 hw [] a2 nn g h0 n0 Z0 FB hn0 hn4) hZ (hw _ (List.mem_of_getElem? (i := 107) rfl)) (hw _ (List.mem_of_getElem? (i := 44) rfl)) (by decide) (by decide)) (g := (mkF m 2 #[.val (.int p1), .val (.ref a2)] [(.ref a2), (.int p1)])) rfl (by rw [hml]; rfl) (argsL := [(.ref a2)]) (rest := [(.int p1)]) (lenOf pd_rmUC_0 rfl) rfl (by show 2 * 0 + _ ≤ _; exact Nat.le_of_eq rfl) (hb hby d24_2) (fun _ _ => ⟨rfl, e0, (by decide : 0 + 0 ≤ _), (by decide : 0 + 0 ≤ _)⟩)
  dsimp only [Pt.U, Pt.locs, Pt.cells, Pt.slots] at X2 l2 y2 z2 st2 hQ2
  subst l2 y2 z2
  obtain ⟨rfl, N2q, hh2⟩ := hQ2
  have N2 := Fr.app N0 N2q
  have pre2 : Steps p.tables e below _ (T2.setTop (mkF m 5 #[.val (.int p1), .val (.ref a2)] [(.int nn), (.int p1)])) := pre1.trans (st2 _ (Steps.refl _))
  obtain ⟨_, _, ⟨T3, L3, k3, n3⟩, -, X3, ⟨Lc3, hQ3, l3, y3, z3⟩, st3⟩ := Jvm.LawKit.callS X2 hx (y := (⟨"java/lang/String", "checkIndex", "(II)V"⟩ : MethodName)) hown (mvT hZ (hw _ (List.mem_of_getElem? (i := 108) rfl))) (mvT hZ (hw _ (List.mem_of_getElem? (i := 70) rfl))) (mvT hZ (hw _ (List.mem_of_getElem? (i := 8) rfl))) (mvT hZ (hw _ (List.mem_of_getElem? (i := 71) rfl))) (by decide) (backOf (W := 0) (rmCI l Z a0 hw [] p1 nn fv h0 n0 Z0 u1 u2 SF hfv) hZ (hw _ (List.mem_of_getElem? (i := 71) rfl)) (hw _ (List.mem_of_getElem? (i := 8) rfl)) (by decide) (by decide)) (g := (mkF m 5 #[.val (.int p1), .val (.ref a2)] [(.int nn), (.int p1)])) rfl (by rw [hml]; rfl) (argsL := [(.int p1), (.int nn)]) (rest := []) (lenOf pd_rmUC_1 rfl) rfl (by show 2 * 0 + _ ≤ _; exact Nat.le_of_eq rfl) (hb hby d24_5) (fun _ _ => ⟨rfl, hh2, (by decide : 0 + 0 ≤ _), (by decide : 0 + 0 ≤ _)⟩)
  dsimp only [Pt.U, Pt.locs, Pt.cells, Pt.slots] at X3 l3 y3 z3 st3 hQ3
  subst l3 y3 z3
  obtain ⟨rfl, N3q, hh3⟩ := hQ3
  have N3 := Fr.app N2 N3q
  have pre3 : Steps p.tables e below _ (T3.setTop (mkF m 8 #[.val (.int p1), .val (.ref a2)] [])) := pre2.trans (st3 _ (Steps.refl _))
  obtain ⟨fs, hr, hrun, hended, hW, hsame⟩ := X3.leave (v := none) (fun h => by rfl)
  refine ⟨_, _, pre3.trans ?_, hrun, hended, _, _, rfl, ?_, ⟨_, rfl⟩, hW, hsame.mono (by decide) (by decide)⟩
  · exact X3.returnOut hx Bd.returns (hb hby d24_8) hr
  · exact ⟨rfl, N3, hh3⟩
theorem d23_0 : decode jdk_52_method_83_code 0 = .ok (.iload_n 1, 1) := by decide +kernel
theorem d23_1 : decode jdk_52_method_83_code 1 = .ok (.aload_n 0, 1) := by decide +kernel
theorem d23_2 : decode jdk_52_method_83_code 2 = .ok (.invokestatic 67, 3) := by decide +kernel
theorem d23_5 : decode jdk_52_method_83_code 5 = .ok (.aload_n 0, 1) := by decide +kernel
theorem d23_6 : decode jdk_52_method_83_code 6 = .ok (.iload_n 1, 1) := by decide +kernel
theorem d23_7 : decode jdk_52_method_83_code 7 = .ok (.invokestatic 71, 3) := by decide +kernel
theorem d23_10 : decode jdk_52_method_83_code 10 = .ok (.ireturn, 1) := by decide +kernel
theorem pn_rmUA : plainName "java/lang/StringUTF16" = true := by first | (simp [plainName, overriddenIn]; done) | decide +kernel
theorem pd_rmUA_0 : parseMethodDescriptor "(I[B)V" = some ⟨[.int, (.array .byte)], none⟩ := by decide +kernel
theorem pd_rmUA_1 : parseMethodDescriptor "([BI)C" = some ⟨[(.array .byte), .int], some .char⟩ := by decide +kernel
theorem ef_rmUA (m : MethodId) (a1 : Addr) (p2 : Int32) : entryFrame m #[(.ref a1), (.int p2)] 2 = (mkF m 0 #[.val (.ref a1), .val (.int p2)] []) := by first | (simp [entryFrame, mkF, argsToLocals, Value.category]; done) | rfl
def Q_rmUA (Z : State) (a1 : Addr) (p2 : Int32) (nn ch : Int32) (g : Nat → Int32) (fv : Value) (h0 : Heap) (n0 : Nat) (v : Option Value) (h : Heap) (L : List Loc) : Prop := v = some (.int ch) ∧ Fr n0 L ∧ h = h0
set_option maxRecDepth 65536 in
set_option maxHeartbeats 40000000 in
theorem rmUA (l : Launch) (Z : State) (a0 : Array Value) (hw : ∀ d ∈ tables_1, d.before a0 Z = true) (ws : List Jvm.Cond) (a1 : Addr) (p2 : Int32) (nn ch : Int32) (g : Nat → Int32) (fv : Value) (h0 : Heap) (n0 : Nat) (Z0 : n0 ≤ h0.size) (SA : Sta Z h0 "java/lang/StringUTF16" "$assertionsDisabled" "Z" (.int (1 : Int32))) (SH : Sta Z h0 "java/lang/StringUTF16" "HI_BYTE_SHIFT" "I" (.int (0 : Int32))) (SL : Sta Z h0 "java/lang/StringUTF16" "LO_BYTE_SHIFT" "I" (.int (8 : Int32))) (FB : Far Z h0 a1 .byte (own_dbl nn) g) (hn4 : nn.toInt ≤ 4) (u1 : 0 ≤ p2.toInt) (u2 : p2.toInt < nn.toInt) (hg1 : g (2 * p2.toNatClampNeg) = own_l ch) (hg2 : g (2 * p2.toNatClampNeg + 1) = own_h ch) (hc0 : 0 ≤ ch.toInt) (hc1 : ch.toInt < 65536) (SF : Sta Z h0 "jdk/internal/util/Preconditions" "SIOOBE_FORMATTER" "Ljava/util/function/BiFunction;" fv) (hfv : fv = .null ∨ ∃ a, fv = .ref a) :
    MetFree l (⟨"java/lang/StringUTF16", "charAt", "([BI)C"⟩ : MethodName) (head1 (Jvm.Cond.code (⟨"java/lang/StringUTF16", "charAt", "([BI)C"⟩ : MethodName) jdk_52_method_83_code 2 (some .char) :: ws) ({ frames := 3, cells := 0, slots := 0, locals := 40 } : Room)) (fun a U => a = #[(.ref a1), (.int p2)] ∧ Z.Warmed39 U.vm ∧ U.heap = h0) (fun _ _ _ _ _ => True) (fun _ U o U' => ∃ v L, o = .returned v ∧ Q_rmUA Z a1 p2 nn ch g fv h0 n0 v U'.heap L ∧ FrameEnd U o U' L ({ frames := 3, cells := 0, slots := 0, locals := 40 } : Room).cells ({ frames := 3, cells := 0, slots := 0, locals := 40 } : Room).slots) := by
  refine MetFree.of_bodySF (plainFor_of_name pn_rmUA) hisR ?_
  intro p e s m args below meth c s₁ Bd hml0 hP hK
  obtain ⟨rfl, hZ, hh⟩ := hP
  have hx := Bd.exec
  have hby := Bd.bytes
  have hml : c.maxLocals = 2 := hml0
  have hown : s.vm.findClass "java/lang/StringUTF16" = some m.cls := findClass_of_methodNamed Bd.named
  have hnm := (name_of_methodNamed Bd.named Bd.method).1
  have X0 : Stand p l e ({ frames := 3, cells := 0, slots := 0, locals := 40 } : Room) s m #[(.ref a1), (.int p2)] below meth c s₁ [] 0 0 := Stand.of_body Bd
  have e0 : s₁.heap = h0 := by rw [← hh, Bd.state]; rfl
  have N0 := Fr.nil n0
  have pre0 : Steps p.tables e below (s₁.setTop (entryFrame m #[(.ref a1), (.int p2)] 2)) (s₁.setTop (mkF m 0 #[.val (.ref a1), .val (.int p2)] [])) := castTop (ef_rmUA m a1 p2) (Steps.refl _)
  obtain ⟨t1, t2, t3, t4⟩ := own_in2 p2 nn u1 u2 hn4
  have e00 : (0 : Int32).toInt = 0 := rfl
  have pre1 : Steps p.tables e below _ (s₁.setTop (mkF m 2 #[.val (.ref a1), .val (.int p2)] [(.ref a1), (.int p2)])) := pre0.trans (by
    show Steps p.tables e below (s₁.setTop (mkF m 0 #[.val (.ref a1), .val (.int p2)] [])) _
    refine XS.iloadN X0.here hx rfl (hb hby d23_0) rfl ?_
    show Steps p.tables e below (s₁.setTop (mkF m 1 #[.val (.ref a1), .val (.int p2)] [(.int p2)])) _
    refine XS.aloadN X0.here hx rfl (hb hby d23_1) rfl rfl ?_
    exact Steps.refl _)
  obtain ⟨_, _, ⟨T2, L2, k2, n2⟩, -, X2, ⟨Lc2, hQ2, l2, y2, z2⟩, st2⟩ := Jvm.LawKit.callS X0 hx (y := (⟨"java/lang/StringUTF16", "checkIndex", "(I[B)V"⟩ : MethodName)) hown (mvT hZ (hw _ (List.mem_of_getElem? (i := 102) rfl))) (mvT hZ (hw _ (List.mem_of_getElem? (i := 103) rfl))) (mvT hZ (hw _ (List.mem_of_getElem? (i := 44) rfl))) (mvT hZ (hw _ (List.mem_of_getElem? (i := 104) rfl))) (by decide) (backOf (W := 0) (rmUC l Z a0 hw [] p2 a1 nn g fv h0 n0 Z0 FB (by omega) hn4 (by rw [own_lt]; omega) (by rw [own_lt]; omega) SF hfv) hZ (hw _ (List.mem_of_getElem? (i := 104) rfl)) (hw _ (List.mem_of_getElem? (i := 44) rfl)) (by decide) (by decide)) (g := (mkF m 2 #[.val (.ref a1), .val (.int p2)] [(.ref a1), (.int p2)])) rfl (by rw [hml]; rfl) (argsL := [(.int p2), (.ref a1)]) (rest := []) (lenOf pd_rmUA_0 rfl) rfl (by show 2 * 0 + _ ≤ _; exact Nat.le_of_eq rfl) (hb hby d23_2) (fun _ _ => ⟨rfl, e0, (by decide : 0 + 0 ≤ _), (by decide : 0 + 0 ≤ _)⟩)
  dsimp only [Pt.U, Pt.locs, Pt.cells, Pt.slots] at X2 l2 y2 z2 st2 hQ2
  subst l2 y2 z2
  obtain ⟨rfl, N2q, hh2⟩ := hQ2
  have N2 := Fr.app N0 N2q
  have pre2 : Steps p.tables e below _ (T2.setTop (mkF m 5 #[.val (.ref a1), .val (.int p2)] [])) := pre1.trans (st2 _ (Steps.refl _))
  have pre3 : Steps p.tables e below _ (T2.setTop (mkF m 7 #[.val (.ref a1), .val (.int p2)] [(.int p2), (.ref a1)])) := pre2.trans (by
    show Steps p.tables e below (T2.setTop (mkF m 5 #[.val (.ref a1), .val (.int p2)] [])) _
    refine XS.aloadN X2.here hx rfl (hb hby d23_5) rfl rfl ?_
    show Steps p.tables e below (T2.setTop (mkF m 6 #[.val (.ref a1), .val (.int p2)] [(.ref a1)])) _
    refine XS.iloadN X2.here hx rfl (hb hby d23_6) rfl ?_
    exact Steps.refl _)
  obtain ⟨_, _, ⟨T4, L4, k4, n4⟩, -, X4, ⟨Lc4, hQ4, l4, y4, z4⟩, st4⟩ := Jvm.LawKit.callS X2 hx (y := (⟨"java/lang/StringUTF16", "getChar", "([BI)C"⟩ : MethodName)) hown (mvT hZ (hw _ (List.mem_of_getElem? (i := 96) rfl))) (mvT hZ (hw _ (List.mem_of_getElem? (i := 97) rfl))) (mvT hZ (hw _ (List.mem_of_getElem? (i := 44) rfl))) (mvT hZ (hw _ (List.mem_of_getElem? (i := 98) rfl))) (by decide) (backOf (W := 0) (rmGC l Z a0 hw [] a1 p2 (own_dbl nn) (own_dbl p2) ch g h0 n0 Z0 SA SH SL FB rfl t1 t2 (by rw [t3]; exact hg1) (by rw [t4]; exact hg2) hc0 hc1) hZ (hw _ (List.mem_of_getElem? (i := 98) rfl)) (hw _ (List.mem_of_getElem? (i := 44) rfl)) (by decide) (by decide)) (g := (mkF m 7 #[.val (.ref a1), .val (.int p2)] [(.int p2), (.ref a1)])) rfl (by rw [hml]; rfl) (argsL := [(.ref a1), (.int p2)]) (rest := []) (lenOf pd_rmUA_1 rfl) rfl (by show 2 * 0 + _ ≤ _; exact Nat.le_of_eq rfl) (hb hby d23_7) (fun _ _ => ⟨rfl, hh2, (by decide : 0 + 0 ≤ _), (by decide : 0 + 0 ≤ _)⟩)
  dsimp only [Pt.U, Pt.locs, Pt.cells, Pt.slots] at X4 l4 y4 z4 st4 hQ4
  subst l4 y4 z4
  obtain ⟨rfl, N4q, hh4⟩ := hQ4
  have N4 := Fr.app N2 N4q
  have pre4 : Steps p.tables e below _ (T4.setTop (mkF m 10 #[.val (.ref a1), .val (.int p2)] [(.int ch)])) := pre3.trans (st4 _ (Steps.refl _))
  have en : nar .char ch = ch := own_i2c ch hc0 hc1
  obtain ⟨fs, hr, hrun, hended, hW, hsame⟩ := X4.leave (v := some (.int (nar .char ch))) (fun h => by rw [Bd.returns] at h; cases h)
  refine ⟨_, _, pre4.trans ?_, hrun, hended, _, _, rfl, ?_, ⟨_, rfl⟩, hW, hsame.mono (by decide) (by decide)⟩
  · exact retN X4 hx (t := .char) Bd.returns (by simp) (hb hby d23_10) hr
  · exact ⟨by rw [en], N4, hh4⟩
theorem d14_0 : decode jdk_43_method_2_code 0 = .ok (.iload_n 1, 1) := by decide +kernel
theorem d14_1 : decode jdk_43_method_2_code 1 = .ok (.aload_n 0, 1) := by decide +kernel
theorem d14_2 : decode jdk_43_method_2_code 2 = .ok (.arraylength, 1) := by decide +kernel
theorem d14_3 : decode jdk_43_method_2_code 3 = .ok (.invokestatic 9, 3) := by decide +kernel
theorem d14_6 : decode jdk_43_method_2_code 6 = .ok (.aload_n 0, 1) := by decide +kernel
theorem d14_7 : decode jdk_43_method_2_code 7 = .ok (.iload_n 1, 1) := by decide +kernel
theorem d14_8 : decode jdk_43_method_2_code 8 = .ok (.baload, 1) := by decide +kernel
theorem d14_9 : decode jdk_43_method_2_code 9 = .ok (.sipush 255, 3) := by decide +kernel
theorem d14_12 : decode jdk_43_method_2_code 12 = .ok (.iand, 1) := by decide +kernel
theorem d14_13 : decode jdk_43_method_2_code 13 = .ok (.i2c, 1) := by decide +kernel
theorem d14_14 : decode jdk_43_method_2_code 14 = .ok (.ireturn, 1) := by decide +kernel
theorem pn_rmLA : plainName "java/lang/StringLatin1" = true := by first | (simp [plainName, overriddenIn]; done) | decide +kernel
theorem pd_rmLA_0 : parseMethodDescriptor "(II)V" = some ⟨[.int, .int], none⟩ := by decide +kernel
theorem ef_rmLA (m : MethodId) (a1 : Addr) (p2 : Int32) : entryFrame m #[(.ref a1), (.int p2)] 2 = (mkF m 0 #[.val (.ref a1), .val (.int p2)] []) := by first | (simp [entryFrame, mkF, argsToLocals, Value.category]; done) | rfl
def Q_rmLA (Z : State) (a1 : Addr) (p2 : Int32) (nn ch : Int32) (g : Nat → Int32) (fv : Value) (h0 : Heap) (n0 : Nat) (v : Option Value) (h : Heap) (L : List Loc) : Prop := v = some (.int ch) ∧ Fr n0 L ∧ h = h0
set_option maxRecDepth 65536 in
set_option maxHeartbeats 40000000 in
theorem rmLA (l : Launch) (Z : State) (a0 : Array Value) (hw : ∀ d ∈ tables_1, d.before a0 Z = true) (ws : List Jvm.Cond) (a1 : Addr) (p2 : Int32) (nn ch : Int32) (g : Nat → Int32) (fv : Value) (h0 : Heap) (n0 : Nat) (Z0 : n0 ≤ h0.size) (FB : Far Z h0 a1 .byte nn g) (u1 : 0 ≤ p2.toInt) (u2 : p2.toInt < nn.toInt) (hg1 : g p2.toNatClampNeg = own_l ch) (hc0 : 0 ≤ ch.toInt) (hc1 : ¬ (255 : Int32) < ch) (SF : Sta Z h0 "jdk/internal/util/Preconditions" "SIOOBE_FORMATTER" "Ljava/util/function/BiFunction;" fv) (hfv : fv = .null ∨ ∃ a, fv = .ref a) :
    MetFree l (⟨"java/lang/StringLatin1", "charAt", "([BI)C"⟩ : MethodName) (head1 (Jvm.Cond.code (⟨"java/lang/StringLatin1", "charAt", "([BI)C"⟩ : MethodName) jdk_43_method_2_code 2 (some .char) :: ws) ({ frames := 2, cells := 0, slots := 0, locals := 27 } : Room)) (fun a U => a = #[(.ref a1), (.int p2)] ∧ Z.Warmed39 U.vm ∧ U.heap = h0) (fun _ _ _ _ _ => True) (fun _ U o U' => ∃ v L, o = .returned v ∧ Q_rmLA Z a1 p2 nn ch g fv h0 n0 v U'.heap L ∧ FrameEnd U o U' L ({ frames := 2, cells := 0, slots := 0, locals := 27 } : Room).cells ({ frames := 2, cells := 0, slots := 0, locals := 27 } : Room).slots) := by
  refine MetFree.of_bodySF (plainFor_of_name pn_rmLA) hisR ?_
  intro p e s m args below meth c s₁ Bd hml0 hP hK
  obtain ⟨rfl, hZ, hh⟩ := hP
  have hx := Bd.exec
  have hby := Bd.bytes
  have hml : c.maxLocals = 2 := hml0
  have hown : s.vm.findClass "java/lang/StringLatin1" = some m.cls := findClass_of_methodNamed Bd.named
  have hnm := (name_of_methodNamed Bd.named Bd.method).1
  have X0 : Stand p l e ({ frames := 2, cells := 0, slots := 0, locals := 27 } : Room) s m #[(.ref a1), (.int p2)] below meth c s₁ [] 0 0 := Stand.of_body Bd
  have e0 : s₁.heap = h0 := by rw [← hh, Bd.state]; rfl
  have N0 := Fr.nil n0
  have pre0 : Steps p.tables e below (s₁.setTop (entryFrame m #[(.ref a1), (.int p2)] 2)) (s₁.setTop (mkF m 0 #[.val (.ref a1), .val (.int p2)] [])) := castTop (ef_rmLA m a1 p2) (Steps.refl _)
  obtain ⟨cb, Ab, Sb, Mb, Hb⟩ := id FB
  have e00 : (0 : Int32).toInt = 0 := rfl
  have e255 : (255 : Int32).toInt = 255 := rfl
  have v1 : ¬ p2 < 0 := by rw [own_lt]; omega
  have v2 : p2 < nn := by rw [own_lt]; omega
  have hin := inb_of Sb ⟨v1, v2⟩
  have hat := own_at Hb hin
  rw [hg1] at hat
  have hc2 : ch.toInt < 65536 := by rw [own_lt] at hc1; omega
  have pre1 : Steps p.tables e below _ (s₁.setTop (mkF m 3 #[.val (.ref a1), .val (.int p2)] [(.int nn), (.int p2)])) := pre0.trans (by
    show Steps p.tables e below (s₁.setTop (mkF m 0 #[.val (.ref a1), .val (.int p2)] [])) _
    refine XS.iloadN X0.here hx rfl (hb hby d14_0) rfl ?_
    show Steps p.tables e below (s₁.setTop (mkF m 1 #[.val (.ref a1), .val (.int p2)] [(.int p2)])) _
    refine XS.aloadN X0.here hx rfl (hb hby d14_1) rfl rfl ?_
    show Steps p.tables e below (s₁.setTop (mkF m 2 #[.val (.ref a1), .val (.int p2)] [(.ref a1), (.int p2)])) _
    refine X0.arraylength hx (by rw [e0]; exact Ab.1) (State.isArrayOf_alike hZ.alike Ab.2.1) (g := (mkF m 2 #[.val (.ref a1), .val (.int p2)] [(.ref a1), (.int p2)])) rfl rfl (hb hby d14_2) _ ?_
    rw [len_of Sb Mb]
    exact Steps.refl _)
  obtain ⟨_, _, ⟨T2, L2, k2, n2⟩, -, X2, ⟨Lc2, hQ2, l2, y2, z2⟩, st2⟩ := Jvm.LawKit.callS X0 hx (y := (⟨"java/lang/String", "checkIndex", "(II)V"⟩ : MethodName)) hown (mvT hZ (hw _ (List.mem_of_getElem? (i := 69) rfl))) (mvT hZ (hw _ (List.mem_of_getElem? (i := 70) rfl))) (mvT hZ (hw _ (List.mem_of_getElem? (i := 8) rfl))) (mvT hZ (hw _ (List.mem_of_getElem? (i := 71) rfl))) (by decide) (backOf (W := 0) (rmCI l Z a0 hw [] p2 nn fv h0 n0 Z0 v1 v2 SF hfv) hZ (hw _ (List.mem_of_getElem? (i := 71) rfl)) (hw _ (List.mem_of_getElem? (i := 8) rfl)) (by decide) (by decide)) (g := (mkF m 3 #[.val (.ref a1), .val (.int p2)] [(.int nn), (.int p2)])) rfl (by rw [hml]; rfl) (argsL := [(.int p2), (.int nn)]) (rest := []) (lenOf pd_rmLA_0 rfl) rfl (by show 2 * 0 + _ ≤ _; exact Nat.le_of_eq rfl) (hb hby d14_3) (fun _ _ => ⟨rfl, e0, (by decide : 0 + 0 ≤ _), (by decide : 0 + 0 ≤ _)⟩)
  dsimp only [Pt.U, Pt.locs, Pt.cells, Pt.slots] at X2 l2 y2 z2 st2 hQ2
  subst l2 y2 z2
  obtain ⟨rfl, N2q, hh2⟩ := hQ2
  have N2 := Fr.app N0 N2q
  have pre2 : Steps p.tables e below _ (T2.setTop (mkF m 6 #[.val (.ref a1), .val (.int p2)] [])) := pre1.trans (st2 _ (Steps.refl _))
  have pre3 : Steps p.tables e below _ (T2.setTop (mkF m 14 #[.val (.ref a1), .val (.int p2)] [(.int (((own_l ch) &&& (255 : Int32)).toUInt32.toUInt16.toUInt32.toInt32))])) := pre2.trans (by
    show Steps p.tables e below (T2.setTop (mkF m 6 #[.val (.ref a1), .val (.int p2)] [])) _
    refine XS.aloadN X2.here hx rfl (hb hby d14_6) rfl rfl ?_
    show Steps p.tables e below (T2.setTop (mkF m 7 #[.val (.ref a1), .val (.int p2)] [(.ref a1)])) _
    refine XS.iloadN X2.here hx rfl (hb hby d14_7) rfl ?_
    show Steps p.tables e below (T2.setTop (mkF m 8 #[.val (.ref a1), .val (.int p2)] [(.int p2), (.ref a1)])) _
    refine X2.baloadBytes hx (j := p2) (v := (.int (own_l ch))) (by rw [hh2]; exact Ab.1) (State.isArrayOf_alike hZ.alike Ab.2.1) Ab.2.2 hin hat (g := (mkF m 8 #[.val (.ref a1), .val (.int p2)] [(.int p2), (.ref a1)])) rfl rfl (hb hby d14_8) _ ?_
    show Steps p.tables e below (T2.setTop (mkF m 9 #[.val (.ref a1), .val (.int p2)] [(.int (own_l ch))])) _
    refine XS.sipush X2.here hx rfl (hb hby d14_9) ?_
    show Steps p.tables e below (T2.setTop (mkF m 12 #[.val (.ref a1), .val (.int p2)] [(.int (255 : Int32)), (.int (own_l ch))])) _
    refine XS.iand X2.here hx rfl (hb hby d14_12) rfl ?_
    show Steps p.tables e below (T2.setTop (mkF m 13 #[.val (.ref a1), .val (.int p2)] [(.int ((own_l ch) &&& (255 : Int32)))])) _
    refine XS.i2c X2.here hx rfl (hb hby d14_13) rfl ?_
    exact Steps.refl _)
  rw [own_la ch hc0 hc1] at pre3
  have en : nar .char ch = ch := own_i2c ch hc0 hc2
  obtain ⟨fs, hr, hrun, hended, hW, hsame⟩ := X2.leave (v := some (.int (nar .char ch))) (fun h => by rw [Bd.returns] at h; cases h)
  refine ⟨_, _, pre3.trans ?_, hrun, hended, _, _, rfl, ?_, ⟨_, rfl⟩, hW, hsame.mono (by decide) (by decide)⟩
  · exact retN X2 hx (t := .char) Bd.returns (by simp) (hb hby d14_14) hr
  · exact ⟨by rw [en], N2, hh2⟩
theorem d13_0 : decode jdk_42_method_154_code 0 = .ok (.getstatic 38, 3) := by decide +kernel
theorem d13_3 : decode jdk_42_method_154_code 3 = .ok (.ifCond .eq 14, 3) := by decide +kernel
theorem d13_6 : decode jdk_42_method_154_code 6 = .ok (.aload_n 0, 1) := by decide +kernel
theorem d13_7 : decode jdk_42_method_154_code 7 = .ok (.getfield 15, 3) := by decide +kernel
theorem d13_10 : decode jdk_42_method_154_code 10 = .ok (.ifCond .ne 7, 3) := by decide +kernel
theorem d13_13 : decode jdk_42_method_154_code 13 = .ok (.iconst 1, 1) := by decide +kernel
theorem d13_14 : decode jdk_42_method_154_code 14 = .ok (.goto 4, 3) := by decide +kernel
theorem d13_17 : decode jdk_42_method_154_code 17 = .ok (.iconst 0, 1) := by decide +kernel
theorem d13_18 : decode jdk_42_method_154_code 18 = .ok (.ireturn, 1) := by decide +kernel
theorem pn_rmIL : plainName "java/lang/String" = true := by first | (simp [plainName, overriddenIn]; done) | decide +kernel
theorem ef_rmIL (m : MethodId) (a1 : Addr) : entryFrame m #[(.ref a1)] 1 = (mkF m 0 #[.val (.ref a1)] []) := by first | (simp [entryFrame, mkF, argsToLocals, Value.category]; done) | rfl
def own_il_0_1 (cd : Int32) : Int32 := (0 : Int32)
def own_il_0_2 (cd : Int32) : Int32 := (1 : Int32)
def own_il_0_3 (cd : Int32) : Int32 := if cd = (0 : Int32) then own_il_0_2 cd else own_il_0_1 cd
def Q_rmIL (Z : State) (a1 : Addr) (cs cd : Int32) (h0 : Heap) (n0 : Nat) (v : Option Value) (h : Heap) (L : List Loc) : Prop := v = some (.int (own_il_0_3 cd)) ∧ Fr n0 L ∧ h = h0
set_option maxRecDepth 65536 in
set_option maxHeartbeats 40000000 in
theorem rmIL (l : Launch) (Z : State) (a0 : Array Value) (hw : ∀ d ∈ tables_1, d.before a0 Z = true) (ws : List Jvm.Cond) (a1 : Addr) (cs cd : Int32) (h0 : Heap) (n0 : Nat) (Z0 : n0 ≤ h0.size) (SC : Sta Z h0 "java/lang/String" "COMPACT_STRINGS" "Z" (.int cs)) (hcs : ¬ cs = (0 : Int32)) (FK : Fld Z h0 a1 "java/lang/String" "coder" "B" (.int cd)) :
    MetFree l (⟨"java/lang/String", "isLatin1", "()Z"⟩ : MethodName) (head1 (Jvm.Cond.code (⟨"java/lang/String", "isLatin1", "()Z"⟩ : MethodName) jdk_42_method_154_code 1 (some .boolean) :: ws) ({ frames := 0, cells := 0, slots := 0, locals := 0 } : Room)) (fun a U => a = #[(.ref a1)] ∧ Z.Warmed39 U.vm ∧ U.heap = h0) (fun _ _ _ _ _ => True) (fun _ U o U' => ∃ v L, o = .returned v ∧ Q_rmIL Z a1 cs cd h0 n0 v U'.heap L ∧ FrameEnd U o U' L ({ frames := 0, cells := 0, slots := 0, locals := 0 } : Room).cells ({ frames := 0, cells := 0, slots := 0, locals := 0 } : Room).slots) := by
  refine MetFree.of_bodySF (plainFor_of_name pn_rmIL) hisR ?_
  intro p e s m args below meth c s₁ Bd hml0 hP hK
  obtain ⟨rfl, hZ, hh⟩ := hP
  have hx := Bd.exec
  have hby := Bd.bytes
  have hml : c.maxLocals = 1 := hml0
  have hown : s.vm.findClass "java/lang/String" = some m.cls := findClass_of_methodNamed Bd.named
  have hnm := (name_of_methodNamed Bd.named Bd.method).1
  have X0 : Stand p l e ({ frames := 0, cells := 0, slots := 0, locals := 0 } : Room) s m #[(.ref a1)] below meth c s₁ [] 0 0 := Stand.of_body Bd
  have e0 : s₁.heap = h0 := by rw [← hh, Bd.state]; rfl
  have N0 := Fr.nil n0
  have pre0 : Steps p.tables e below (s₁.setTop (entryFrame m #[(.ref a1)] 1)) (s₁.setTop (mkF m 0 #[.val (.ref a1)] [])) := castTop (ef_rmIL m a1) (Steps.refl _)
  obtain ⟨T1, X1, e1, st1⟩ := getS (host := "") X0 hx hZ hown (hw _ (List.mem_of_getElem? (i := 41) rfl)) Via.refl e0 SC (g := (mkF m 0 #[.val (.ref a1)] [])) rfl (hb hby d13_0)
  have pre1 : Steps p.tables e below _ (T1.setTop (mkF m 3 #[.val (.ref a1)] [(.int cs)])) := pre0.trans (st1 _ (Steps.refl _))
  have pre2 : Steps p.tables e below _ (T1.setTop (mkF m 7 #[.val (.ref a1)] [(.ref a1)])) := pre1.trans (by
    show Steps p.tables e below (T1.setTop (mkF m 3 #[.val (.ref a1)] [(.int cs)])) _
    refine XS.ifNo X1.here hx rfl (hb hby d13_3) rfl ((if0 _ _).trans (feq hcs).1) ?_
    show Steps p.tables e below (T1.setTop (mkF m 6 #[.val (.ref a1)] [])) _
    refine XS.aloadN X1.here hx rfl (hb hby d13_6) rfl rfl ?_
    exact Steps.refl _)
  obtain ⟨T3, X3, e3, st3⟩ := getF X1 hx hZ hown (host := "") (Or.inl (hw _ (List.mem_of_getElem? (i := 26) rfl))) Via.refl e1 FK (g := (mkF m 7 #[.val (.ref a1)] [(.ref a1)])) rfl rfl (hb hby d13_7)
  have pre3 : Steps p.tables e below _ (T3.setTop (mkF m 10 #[.val (.ref a1)] [(.int cd)])) := pre2.trans (st3 _ (Steps.refl _))
  obtain ⟨v_il_0, h_v_il_0⟩ : ∃ z, z = own_il_0_3 cd := ⟨_, rfl⟩
  obtain ⟨fs, hr, hrun, hended, hW, hsame⟩ := X3.leave (v := some (.int v_il_0)) (fun h => by rw [Bd.returns] at h; cases h)
  have Bil_1 (hv0 : v_il_0 = own_il_0_1 cd) : Steps p.tables e below (T3.setTop (mkF m 17 #[.val (.ref a1)] [])) (T3.setFrames fs) := by
    have hw0 : v_il_0 = (0 : Int32) := hv0
    rw [hw0] at hr
    show Steps p.tables e below (T3.setTop (mkF m 17 #[.val (.ref a1)] [])) _
    refine XS.iconst X3.here hx rfl (hb hby d13_17) ?_
    show Steps p.tables e below (T3.setTop (mkF m 18 #[.val (.ref a1)] [(.int (0 : Int32))])) _
    exact retN X3 hx (t := .boolean) Bd.returns (by simp) (hb hby d13_18) hr
  have Bil_2 (hv0 : v_il_0 = own_il_0_2 cd) : Steps p.tables e below (T3.setTop (mkF m 13 #[.val (.ref a1)] [])) (T3.setFrames fs) := by
    have hw0 : v_il_0 = (1 : Int32) := hv0
    rw [hw0] at hr
    show Steps p.tables e below (T3.setTop (mkF m 13 #[.val (.ref a1)] [])) _
    refine XS.iconst X3.here hx rfl (hb hby d13_13) ?_
    show Steps p.tables e below (T3.setTop (mkF m 14 #[.val (.ref a1)] [(.int (1 : Int32))])) _
    refine XS.goto X3.here hx rfl (pc0 := 14) (pc' := 18) rfl (hb hby d13_14) (by decide) (by decide) ?_
    show Steps p.tables e below (T3.setTop (mkF m 18 #[.val (.ref a1)] [(.int (1 : Int32))])) _
    exact retN X3 hx (t := .boolean) Bd.returns (by simp) (hb hby d13_18) hr
  have Bil_3 (hv0 : v_il_0 = own_il_0_3 cd) : Steps p.tables e below (T3.setTop (mkF m 10 #[.val (.ref a1)] [(.int cd)])) (T3.setFrames fs) := by
    show Steps p.tables e below (T3.setTop (mkF m 10 #[.val (.ref a1)] [(.int cd)])) _
    by_cases h10 : cd = (0 : Int32)
    · refine XS.ifNo X3.here hx rfl (hb hby d13_10) rfl ((if0 _ _).trans (teq h10).2) ?_
      exact Bil_2 (hv0.trans (if_pos h10))
    · refine XS.ifYes X3.here hx rfl (pc0 := 10) (pc' := 17) rfl (hb hby d13_10) rfl ((if0 _ _).trans (feq h10).2) (by decide) (by decide) ?_
      exact Bil_1 (hv0.trans (if_neg h10))
  have pre4 : Steps p.tables e below _ (T3.setFrames fs) := pre3.trans (Bil_3 h_v_il_0)
  refine ⟨_, _, pre4, hrun, hended, _, _, rfl, ?_, ⟨_, rfl⟩, hW, hsame.mono (by decide) (by decide)⟩
  exact ⟨by rw [h_v_il_0], N0, e3⟩
theorem own_il0 : own_il_0_3 0 = 1 := if_pos rfl
theorem own_il1 : own_il_0_3 1 = 0 := if_neg (by decide)
theorem d7_0 : decode jdk_42_method_152_code 0 = .ok (.getstatic 38, 3) := by decide +kernel
theorem d7_3 : decode jdk_42_method_152_code 3 = .ok (.ifCond .eq 10, 3) := by decide +kernel
theorem d7_6 : decode jdk_42_method_152_code 6 = .ok (.aload_n 0, 1) := by decide +kernel
theorem d7_7 : decode jdk_42_method_152_code 7 = .ok (.getfield 15, 3) := by decide +kernel
theorem d7_10 : decode jdk_42_method_152_code 10 = .ok (.goto 4, 3) := by decide +kernel
theorem d7_14 : decode jdk_42_method_152_code 14 = .ok (.ireturn, 1) := by decide +kernel
theorem pn_rmCo : plainName "java/lang/String" = true := by first | (simp [plainName, overriddenIn]; done) | decide +kernel
theorem ef_rmCo (m : MethodId) (a1 : Addr) : entryFrame m #[(.ref a1)] 1 = (mkF m 0 #[.val (.ref a1)] []) := by first | (simp [entryFrame, mkF, argsToLocals, Value.category]; done) | rfl
def Q_rmCo (Z : State) (a1 : Addr) (cs cd : Int32) (h0 : Heap) (n0 : Nat) (v : Option Value) (h : Heap) (L : List Loc) : Prop := v = some (.int cd) ∧ Fr n0 L ∧ h = h0
set_option maxRecDepth 65536 in
set_option maxHeartbeats 40000000 in
theorem rmCo (l : Launch) (Z : State) (a0 : Array Value) (hw : ∀ d ∈ tables_1, d.before a0 Z = true) (ws : List Jvm.Cond) (a1 : Addr) (cs cd : Int32) (h0 : Heap) (n0 : Nat) (Z0 : n0 ≤ h0.size) (SC : Sta Z h0 "java/lang/String" "COMPACT_STRINGS" "Z" (.int cs)) (hcs : ¬ cs = (0 : Int32)) (FK : Fld Z h0 a1 "java/lang/String" "coder" "B" (.int cd)) (hcn : nar .byte cd = cd) :
    MetFree l (⟨"java/lang/String", "coder", "()B"⟩ : MethodName) (head1 (Jvm.Cond.code (⟨"java/lang/String", "coder", "()B"⟩ : MethodName) jdk_42_method_152_code 1 (some .byte) :: ws) ({ frames := 0, cells := 0, slots := 0, locals := 0 } : Room)) (fun a U => a = #[(.ref a1)] ∧ Z.Warmed39 U.vm ∧ U.heap = h0) (fun _ _ _ _ _ => True) (fun _ U o U' => ∃ v L, o = .returned v ∧ Q_rmCo Z a1 cs cd h0 n0 v U'.heap L ∧ FrameEnd U o U' L ({ frames := 0, cells := 0, slots := 0, locals := 0 } : Room).cells ({ frames := 0, cells := 0, slots := 0, locals := 0 } : Room).slots) := by
  refine MetFree.of_bodySF (plainFor_of_name pn_rmCo) hisR ?_
  intro p e s m args below meth c s₁ Bd hml0 hP hK
  obtain ⟨rfl, hZ, hh⟩ := hP
  have hx := Bd.exec
  have hby := Bd.bytes
  have hml : c.maxLocals = 1 := hml0
  have hown : s.vm.findClass "java/lang/String" = some m.cls := findClass_of_methodNamed Bd.named
  have hnm := (name_of_methodNamed Bd.named Bd.method).1
  have X0 : Stand p l e ({ frames := 0, cells := 0, slots := 0, locals := 0 } : Room) s m #[(.ref a1)] below meth c s₁ [] 0 0 := Stand.of_body Bd
  have e0 : s₁.heap = h0 := by rw [← hh, Bd.state]; rfl
  have N0 := Fr.nil n0
  have pre0 : Steps p.tables e below (s₁.setTop (entryFrame m #[(.ref a1)] 1)) (s₁.setTop (mkF m 0 #[.val (.ref a1)] [])) := castTop (ef_rmCo m a1) (Steps.refl _)
  obtain ⟨T1, X1, e1, st1⟩ := getS (host := "") X0 hx hZ hown (hw _ (List.mem_of_getElem? (i := 41) rfl)) Via.refl e0 SC (g := (mkF m 0 #[.val (.ref a1)] [])) rfl (hb hby d7_0)
  have pre1 : Steps p.tables e below _ (T1.setTop (mkF m 3 #[.val (.ref a1)] [(.int cs)])) := pre0.trans (st1 _ (Steps.refl _))
  have pre2 : Steps p.tables e below _ (T1.setTop (mkF m 7 #[.val (.ref a1)] [(.ref a1)])) := pre1.trans (by
    show Steps p.tables e below (T1.setTop (mkF m 3 #[.val (.ref a1)] [(.int cs)])) _
    refine XS.ifNo X1.here hx rfl (hb hby d7_3) rfl ((if0 _ _).trans (feq hcs).1) ?_
    show Steps p.tables e below (T1.setTop (mkF m 6 #[.val (.ref a1)] [])) _
    refine XS.aloadN X1.here hx rfl (hb hby d7_6) rfl rfl ?_
    exact Steps.refl _)
  obtain ⟨T3, X3, e3, st3⟩ := getF X1 hx hZ hown (host := "") (Or.inl (hw _ (List.mem_of_getElem? (i := 26) rfl))) Via.refl e1 FK (g := (mkF m 7 #[.val (.ref a1)] [(.ref a1)])) rfl rfl (hb hby d7_7)
  have pre3 : Steps p.tables e below _ (T3.setTop (mkF m 10 #[.val (.ref a1)] [(.int cd)])) := pre2.trans (st3 _ (Steps.refl _))
  have pre4 : Steps p.tables e below _ (T3.setTop (mkF m 14 #[.val (.ref a1)] [(.int cd)])) := pre3.trans (by
    show Steps p.tables e below (T3.setTop (mkF m 10 #[.val (.ref a1)] [(.int cd)])) _
    refine XS.goto X3.here hx rfl (pc0 := 10) (pc' := 14) rfl (hb hby d7_10) (by decide) (by decide) ?_
    exact Steps.refl _)
  obtain ⟨fs, hr, hrun, hended, hW, hsame⟩ := X3.leave (v := some (.int (nar .byte cd))) (fun h => by rw [Bd.returns] at h; cases h)
  refine ⟨_, _, pre4.trans ?_, hrun, hended, _, _, rfl, ?_, ⟨_, rfl⟩, hW, hsame.mono (by decide) (by decide)⟩
  · exact retN X3 hx (t := .byte) Bd.returns (by simp) (hb hby d7_14) hr
  · exact ⟨by rw [hcn], N0, e3⟩
theorem d6_0 : decode jdk_42_method_54_code 0 = .ok (.aload_n 0, 1) := by decide +kernel
theorem d6_1 : decode jdk_42_method_54_code 1 = .ok (.getfield 9, 3) := by decide +kernel
theorem d6_4 : decode jdk_42_method_54_code 4 = .ok (.arraylength, 1) := by decide +kernel
theorem d6_5 : decode jdk_42_method_54_code 5 = .ok (.aload_n 0, 1) := by decide +kernel
theorem d6_6 : decode jdk_42_method_54_code 6 = .ok (.invokevirtual 335, 3) := by decide +kernel
theorem d6_9 : decode jdk_42_method_54_code 9 = .ok (.ishr, 1) := by decide +kernel
theorem d6_10 : decode jdk_42_method_54_code 10 = .ok (.ireturn, 1) := by decide +kernel
theorem pn_rmLe : plainName "java/lang/String" = true := by first | (simp [plainName, overriddenIn]; done) | decide +kernel
theorem pd_rmLe_0 : parseMethodDescriptor "()B" = some ⟨[], some .byte⟩ := by decide +kernel
theorem ef_rmLe (m : MethodId) (a1 : Addr) : entryFrame m #[(.ref a1)] 1 = (mkF m 0 #[.val (.ref a1)] []) := by first | (simp [entryFrame, mkF, argsToLocals, Value.category]; done) | rfl
def Q_rmLe (Z : State) (a1 : Addr) (nn cs : Int32) (f : Nat → Int32) (h0 : Heap) (n0 : Nat) (v : Option Value) (h : Heap) (L : List Loc) : Prop := v = some (.int nn) ∧ Fr n0 L ∧ h = h0
set_option maxRecDepth 65536 in
set_option maxHeartbeats 40000000 in
theorem rmLe (l : Launch) (Z : State) (a0 : Array Value) (hw : ∀ d ∈ tables_1, d.before a0 Z = true) (ws : List Jvm.Cond) (a1 : Addr) (nn cs : Int32) (f : Nat → Int32) (h0 : Heap) (n0 : Nat) (Z0 : n0 ≤ h0.size) (SC : Sta Z h0 "java/lang/String" "COMPACT_STRINGS" "Z" (.int cs)) (hcs : ¬ cs = (0 : Int32)) (SS : Str Z h0 a1 nn f) (hn0 : 0 ≤ nn.toInt) (hn4 : nn.toInt ≤ 4) :
    MetFree l (⟨"java/lang/String", "length", "()I"⟩ : MethodName) (head1 (Jvm.Cond.code (⟨"java/lang/String", "length", "()I"⟩ : MethodName) jdk_42_method_54_code 1 (some .int) :: ws) ({ frames := 1, cells := 0, slots := 0, locals := 13 } : Room)) (fun a U => a = #[(.ref a1)] ∧ Z.Warmed39 U.vm ∧ U.heap = h0) (fun _ _ _ _ _ => True) (fun _ U o U' => ∃ v L, o = .returned v ∧ Q_rmLe Z a1 nn cs f h0 n0 v U'.heap L ∧ FrameEnd U o U' L ({ frames := 1, cells := 0, slots := 0, locals := 13 } : Room).cells ({ frames := 1, cells := 0, slots := 0, locals := 13 } : Room).slots) := by
  refine MetFree.of_bodySF (plainFor_of_name pn_rmLe) hisR ?_
  intro p e s m args below meth c s₁ Bd hml0 hP hK
  obtain ⟨rfl, hZ, hh⟩ := hP
  have hx := Bd.exec
  have hby := Bd.bytes
  have hml : c.maxLocals = 1 := hml0
  have hown : s.vm.findClass "java/lang/String" = some m.cls := findClass_of_methodNamed Bd.named
  have hnm := (name_of_methodNamed Bd.named Bd.method).1
  have X0 : Stand p l e ({ frames := 1, cells := 0, slots := 0, locals := 13 } : Room) s m #[(.ref a1)] below meth c s₁ [] 0 0 := Stand.of_body Bd
  have e0 : s₁.heap = h0 := by rw [← hh, Bd.state]; rfl
  have N0 := Fr.nil n0
  have pre0 : Steps p.tables e below (s₁.setTop (entryFrame m #[(.ref a1)] 1)) (s₁.setTop (mkF m 0 #[.val (.ref a1)] [])) := castTop (ef_rmLe m a1) (Steps.refl _)
  obtain ⟨EA, b, cd, m2, g, FV, FK, FB, hor⟩ := id SS
  have hl : m2 >>> (cd &&& 31) = nn := by
    rcases hor with ⟨rfl, rfl, -⟩ | ⟨rfl, rfl, -⟩
    · exact own_len0 _
    · exact own_len1 _ hn0 hn4
  have hcn : nar .byte cd = cd := by rcases hor with ⟨rfl, -, -⟩ | ⟨rfl, -, -⟩ <;> decide
  obtain ⟨cb, Ab, Sb, Mb, Hb⟩ := id FB
  have pre1 : Steps p.tables e below _ (s₁.setTop (mkF m 1 #[.val (.ref a1)] [(.ref a1)])) := pre0.trans (by
    show Steps p.tables e below (s₁.setTop (mkF m 0 #[.val (.ref a1)] [])) _
    refine XS.aloadN X0.here hx rfl (hb hby d6_0) rfl rfl ?_
    exact Steps.refl _)
  obtain ⟨T2, X2, e2, st2⟩ := getF X0 hx hZ hown (host := "") (Or.inl (hw _ (List.mem_of_getElem? (i := 25) rfl))) Via.refl e0 FV (g := (mkF m 1 #[.val (.ref a1)] [(.ref a1)])) rfl rfl (hb hby d6_1)
  have pre2 : Steps p.tables e below _ (T2.setTop (mkF m 4 #[.val (.ref a1)] [(.ref b)])) := pre1.trans (st2 _ (Steps.refl _))
  have pre3 : Steps p.tables e below _ (T2.setTop (mkF m 6 #[.val (.ref a1)] [(.ref a1), (.int m2)])) := pre2.trans (by
    show Steps p.tables e below (T2.setTop (mkF m 4 #[.val (.ref a1)] [(.ref b)])) _
    refine X2.arraylength hx (by rw [e2]; exact Ab.1) (State.isArrayOf_alike hZ.alike Ab.2.1) (g := (mkF m 4 #[.val (.ref a1)] [(.ref b)])) rfl rfl (hb hby d6_4) _ ?_
    rw [len_of Sb Mb]
    show Steps p.tables e below (T2.setTop (mkF m 5 #[.val (.ref a1)] [(.int m2)])) _
    refine XS.aloadN X2.here hx rfl (hb hby d6_5) rfl rfl ?_
    exact Steps.refl _)
  obtain ⟨cq4, kq4, q4a, q4b, q4c⟩ := isOf hZ e2 EA
  obtain ⟨_, _, ⟨T4, L4, k4, n4⟩, -, X4, ⟨Lc4, hQ4, l4, y4, z4⟩, st4⟩ := X2.virtualBack hx (y := (⟨"java/lang/String", "coder", "()B"⟩ : MethodName)) (z := (⟨"java/lang/String", "coder", "()B"⟩ : MethodName)) hown (mvT hZ (hw _ (List.mem_of_getElem? (i := 36) rfl))) (mvT hZ (hw _ (List.mem_of_getElem? (i := 37) rfl))) (notFace_of_selects (args := #[]) (mvT hZ (hw _ (List.mem_of_getElem? (i := 39) rfl)))) (mvT hZ (hw _ (List.mem_of_getElem? (i := 39) rfl))) (mvT hZ (hw _ (List.mem_of_getElem? (i := 38) rfl))) (by decide) (backOf (W := 1) (rmCo l Z a0 hw [] a1 cs cd h0 n0 Z0 SC hcs FK hcn) hZ (hw _ (List.mem_of_getElem? (i := 40) rfl)) (hw _ (List.mem_of_getElem? (i := 8) rfl)) (by decide) (by decide)) q4a q4c (g := (mkF m 6 #[.val (.ref a1)] [(.ref a1), (.int m2)])) rfl (by rw [hml]; rfl) (Steps.refl _) (argsL := []) (rest := [(.int m2)]) (lenOf pd_rmLe_0 rfl) rfl (by show 2 * 0 + _ ≤ _; exact Nat.le_of_eq rfl) (hb hby d6_6) (fun _ _ => ⟨rfl, e2, (by decide : 0 + 0 ≤ _), (by decide : 0 + 0 ≤ _)⟩)
  dsimp only [Pt.U, Pt.locs, Pt.cells, Pt.slots] at X4 l4 y4 z4 st4 hQ4
  subst l4 y4 z4
  obtain ⟨rfl, N4q, hh4⟩ := hQ4
  have N4 := Fr.app N0 N4q
  have pre4 : Steps p.tables e below _ (T4.setTop (mkF m 9 #[.val (.ref a1)] [(.int cd), (.int m2)])) := pre3.trans (st4)
  have pre5 : Steps p.tables e below _ (T4.setTop (mkF m 10 #[.val (.ref a1)] [(.int (m2 >>> (cd &&& 31)))])) := pre4.trans (by
    show Steps p.tables e below (T4.setTop (mkF m 9 #[.val (.ref a1)] [(.int cd), (.int m2)])) _
    refine XS.ishr X4.here hx rfl (hb hby d6_9) rfl ?_
    exact Steps.refl _)
  rw [hl] at pre5
  obtain ⟨fs, hr, hrun, hended, hW, hsame⟩ := X4.leave (v := some (.int nn)) (fun h => by rw [Bd.returns] at h; cases h)
  refine ⟨_, _, pre5.trans ?_, hrun, hended, _, _, rfl, ?_, ⟨_, rfl⟩, hW, hsame.mono (by decide) (by decide)⟩
  · exact retI X4 hx Bd.returns (hb hby d6_10) hr
  · exact ⟨rfl, N4, hh4⟩
theorem d12_0 : decode jdk_42_method_56_code 0 = .ok (.aload_n 0, 1) := by decide +kernel
theorem d12_1 : decode jdk_42_method_56_code 1 = .ok (.invokevirtual 492, 3) := by decide +kernel
theorem d12_4 : decode jdk_42_method_56_code 4 = .ok (.ifCond .eq 12, 3) := by decide +kernel
theorem d12_7 : decode jdk_42_method_56_code 7 = .ok (.aload_n 0, 1) := by decide +kernel
theorem d12_8 : decode jdk_42_method_56_code 8 = .ok (.getfield 9, 3) := by decide +kernel
theorem d12_11 : decode jdk_42_method_56_code 11 = .ok (.iload_n 1, 1) := by decide +kernel
theorem d12_12 : decode jdk_42_method_56_code 12 = .ok (.invokestatic 495, 3) := by decide +kernel
theorem d12_15 : decode jdk_42_method_56_code 15 = .ok (.ireturn, 1) := by decide +kernel
theorem d12_16 : decode jdk_42_method_56_code 16 = .ok (.aload_n 0, 1) := by decide +kernel
theorem d12_17 : decode jdk_42_method_56_code 17 = .ok (.getfield 9, 3) := by decide +kernel
theorem d12_20 : decode jdk_42_method_56_code 20 = .ok (.iload_n 1, 1) := by decide +kernel
theorem d12_21 : decode jdk_42_method_56_code 21 = .ok (.invokestatic 498, 3) := by decide +kernel
theorem d12_24 : decode jdk_42_method_56_code 24 = .ok (.ireturn, 1) := by decide +kernel
theorem pn_rmCA : plainName "java/lang/String" = true := by first | (simp [plainName, overriddenIn]; done) | decide +kernel
theorem pd_rmCA_0 : parseMethodDescriptor "()Z" = some ⟨[], some .boolean⟩ := by decide +kernel
theorem pd_rmCA_1 : parseMethodDescriptor "([BI)C" = some ⟨[(.array .byte), .int], some .char⟩ := by decide +kernel
theorem ef_rmCA (m : MethodId) (a1 : Addr) (p2 : Int32) : entryFrame m #[(.ref a1), (.int p2)] 2 = (mkF m 0 #[.val (.ref a1), .val (.int p2)] []) := by first | (simp [entryFrame, mkF, argsToLocals, Value.category]; done) | rfl
def Q_rmCA (Z : State) (a1 : Addr) (p2 : Int32) (nn cs : Int32) (f : Nat → Int32) (fv : Value) (h0 : Heap) (n0 : Nat) (v : Option Value) (h : Heap) (L : List Loc) : Prop := v = some (.int (f p2.toNatClampNeg)) ∧ Fr n0 L ∧ h = h0
set_option maxRecDepth 65536 in
set_option maxHeartbeats 40000000 in
theorem rmCA (l : Launch) (Z : State) (a0 : Array Value) (hw : ∀ d ∈ tables_1, d.before a0 Z = true) (ws : List Jvm.Cond) (a1 : Addr) (p2 : Int32) (nn cs : Int32) (f : Nat → Int32) (fv : Value) (h0 : Heap) (n0 : Nat) (Z0 : n0 ≤ h0.size) (SC : Sta Z h0 "java/lang/String" "COMPACT_STRINGS" "Z" (.int cs)) (hcs : ¬ cs = (0 : Int32)) (SA : Sta Z h0 "java/lang/StringUTF16" "$assertionsDisabled" "Z" (.int (1 : Int32))) (SH : Sta Z h0 "java/lang/StringUTF16" "HI_BYTE_SHIFT" "I" (.int (0 : Int32))) (SL : Sta Z h0 "java/lang/StringUTF16" "LO_BYTE_SHIFT" "I" (.int (8 : Int32))) (SS : Str Z h0 a1 nn f) (hn4 : nn.toInt ≤ 4) (u1 : 0 ≤ p2.toInt) (u2 : p2.toInt < nn.toInt) (hch : ∀ k : Nat, 0 ≤ (f k).toInt ∧ (f k).toInt < 65536) (SF : Sta Z h0 "jdk/internal/util/Preconditions" "SIOOBE_FORMATTER" "Ljava/util/function/BiFunction;" fv) (hfv : fv = .null ∨ ∃ a, fv = .ref a) :
    MetFree l (⟨"java/lang/String", "charAt", "(I)C"⟩ : MethodName) (head1 (Jvm.Cond.code (⟨"java/lang/String", "charAt", "(I)C"⟩ : MethodName) jdk_42_method_56_code 2 (some .char) :: ws) ({ frames := 4, cells := 0, slots := 0, locals := 53 } : Room)) (fun a U => a = #[(.ref a1), (.int p2)] ∧ Z.Warmed39 U.vm ∧ U.heap = h0) (fun _ _ _ _ _ => True) (fun _ U o U' => ∃ v L, o = .returned v ∧ Q_rmCA Z a1 p2 nn cs f fv h0 n0 v U'.heap L ∧ FrameEnd U o U' L ({ frames := 4, cells := 0, slots := 0, locals := 53 } : Room).cells ({ frames := 4, cells := 0, slots := 0, locals := 53 } : Room).slots) := by
  refine MetFree.of_bodySF (plainFor_of_name pn_rmCA) hisR ?_
  intro p e s m args below meth c s₁ Bd hml0 hP hK
  obtain ⟨rfl, hZ, hh⟩ := hP
  have hx := Bd.exec
  have hby := Bd.bytes
  have hml : c.maxLocals = 2 := hml0
  have hown : s.vm.findClass "java/lang/String" = some m.cls := findClass_of_methodNamed Bd.named
  have hnm := (name_of_methodNamed Bd.named Bd.method).1
  have X0 : Stand p l e ({ frames := 4, cells := 0, slots := 0, locals := 53 } : Room) s m #[(.ref a1), (.int p2)] below meth c s₁ [] 0 0 := Stand.of_body Bd
  have e0 : s₁.heap = h0 := by rw [← hh, Bd.state]; rfl
  have N0 := Fr.nil n0
  have pre0 : Steps p.tables e below (s₁.setTop (entryFrame m #[(.ref a1), (.int p2)] 2)) (s₁.setTop (mkF m 0 #[.val (.ref a1), .val (.int p2)] [])) := castTop (ef_rmCA m a1 p2) (Steps.refl _)
  obtain ⟨EA, b, cd, m2, g, FV, FK, FB, hor⟩ := id SS
  have hcf := hch p2.toNatClampNeg
  have hkn : (p2.toNatClampNeg : Int) < nn.toInt := by have q := own_nat p2 u1; omega
  have en : nar .char (f p2.toNatClampNeg) = f p2.toNatClampNeg := own_i2c _ hcf.1 hcf.2
  have pre1 : Steps p.tables e below _ (s₁.setTop (mkF m 1 #[.val (.ref a1), .val (.int p2)] [(.ref a1)])) := pre0.trans (by
    show Steps p.tables e below (s₁.setTop (mkF m 0 #[.val (.ref a1), .val (.int p2)] [])) _
    refine XS.aloadN X0.here hx rfl (hb hby d12_0) rfl rfl ?_
    exact Steps.refl _)
  obtain ⟨cq2, kq2, q2a, q2b, q2c⟩ := isOf hZ e0 EA
  obtain ⟨_, _, ⟨T2, L2, k2, n2⟩, -, X2, ⟨Lc2, hQ2, l2, y2, z2⟩, st2⟩ := X0.virtualBack hx (y := (⟨"java/lang/String", "isLatin1", "()Z"⟩ : MethodName)) (z := (⟨"java/lang/String", "isLatin1", "()Z"⟩ : MethodName)) hown (mvT hZ (hw _ (List.mem_of_getElem? (i := 60) rfl))) (mvT hZ (hw _ (List.mem_of_getElem? (i := 61) rfl))) (notFace_of_selects (args := #[]) (mvT hZ (hw _ (List.mem_of_getElem? (i := 63) rfl)))) (mvT hZ (hw _ (List.mem_of_getElem? (i := 63) rfl))) (mvT hZ (hw _ (List.mem_of_getElem? (i := 62) rfl))) (by decide) (backOf (W := 0) (rmIL l Z a0 hw [] a1 cs cd h0 n0 Z0 SC hcs FK) hZ (hw _ (List.mem_of_getElem? (i := 64) rfl)) (hw _ (List.mem_of_getElem? (i := 8) rfl)) (by decide) (by decide)) q2a q2c (g := (mkF m 1 #[.val (.ref a1), .val (.int p2)] [(.ref a1)])) rfl (by rw [hml]; rfl) (Steps.refl _) (argsL := []) (rest := []) (lenOf pd_rmCA_0 rfl) rfl (by show 2 * 0 + _ ≤ _; exact Nat.le_of_eq rfl) (hb hby d12_1) (fun _ _ => ⟨rfl, e0, (by decide : 0 + 0 ≤ _), (by decide : 0 + 0 ≤ _)⟩)
  dsimp only [Pt.U, Pt.locs, Pt.cells, Pt.slots] at X2 l2 y2 z2 st2 hQ2
  subst l2 y2 z2
  obtain ⟨rfl, N2q, hh2⟩ := hQ2
  have N2 := Fr.app N0 N2q
  have pre2 : Steps p.tables e below _ (T2.setTop (mkF m 4 #[.val (.ref a1), .val (.int p2)] [(.int (own_il_0_3 cd))])) := pre1.trans (st2)
  rcases hor with ⟨rfl, rfl, hg⟩ | ⟨rfl, rfl, hg⟩
  · have hgk := hg _ hkn
    have c4 : ¬ own_il_0_3 0 = (0 : Int32) := by rw [own_il0]; decide
    have pre3 : Steps p.tables e below _ (T2.setTop (mkF m 8 #[.val (.ref a1), .val (.int p2)] [(.ref a1)])) := pre2.trans (by
      show Steps p.tables e below (T2.setTop (mkF m 4 #[.val (.ref a1), .val (.int p2)] [(.int (own_il_0_3 0))])) _
      refine XS.ifNo X2.here hx rfl (hb hby d12_4) rfl ((if0 _ _).trans (feq c4).1) ?_
      show Steps p.tables e below (T2.setTop (mkF m 7 #[.val (.ref a1), .val (.int p2)] [])) _
      refine XS.aloadN X2.here hx rfl (hb hby d12_7) rfl rfl ?_
      exact Steps.refl _)
    obtain ⟨T4, X4, e4, st4⟩ := getF X2 hx hZ hown (host := "") (Or.inl (hw _ (List.mem_of_getElem? (i := 25) rfl))) Via.refl hh2 FV (g := (mkF m 8 #[.val (.ref a1), .val (.int p2)] [(.ref a1)])) rfl rfl (hb hby d12_8)
    have pre4 : Steps p.tables e below _ (T4.setTop (mkF m 11 #[.val (.ref a1), .val (.int p2)] [(.ref b)])) := pre3.trans (st4 _ (Steps.refl _))
    have pre5 : Steps p.tables e below _ (T4.setTop (mkF m 12 #[.val (.ref a1), .val (.int p2)] [(.int p2), (.ref b)])) := pre4.trans (by
      show Steps p.tables e below (T4.setTop (mkF m 11 #[.val (.ref a1), .val (.int p2)] [(.ref b)])) _
      refine XS.iloadN X4.here hx rfl (hb hby d12_11) rfl ?_
      exact Steps.refl _)
    obtain ⟨_, _, ⟨T6, L6, k6, n6⟩, -, X6, ⟨Lc6, hQ6, l6, y6, z6⟩, st6⟩ := Jvm.LawKit.callS X4 hx (y := (⟨"java/lang/StringLatin1", "charAt", "([BI)C"⟩ : MethodName)) hown (mvT hZ (hw _ (List.mem_of_getElem? (i := 65) rfl))) (mvT hZ (hw _ (List.mem_of_getElem? (i := 66) rfl))) (mvT hZ (hw _ (List.mem_of_getElem? (i := 67) rfl))) (mvT hZ (hw _ (List.mem_of_getElem? (i := 68) rfl))) (by decide) (backOf (W := 0) (rmLA l Z a0 hw [] b p2 m2 (f p2.toNatClampNeg) g fv h0 n0 Z0 FB u1 u2 hgk.1 hcf.1 hgk.2 SF hfv) hZ (hw _ (List.mem_of_getElem? (i := 68) rfl)) (hw _ (List.mem_of_getElem? (i := 67) rfl)) (by decide) (by decide)) (g := (mkF m 12 #[.val (.ref a1), .val (.int p2)] [(.int p2), (.ref b)])) rfl (by rw [hml]; rfl) (argsL := [(.ref b), (.int p2)]) (rest := []) (lenOf pd_rmCA_1 rfl) rfl (by show 2 * 0 + _ ≤ _; exact Nat.le_of_eq rfl) (hb hby d12_12) (fun _ _ => ⟨rfl, e4, (by decide : 0 + 0 ≤ _), (by decide : 0 + 0 ≤ _)⟩)
    dsimp only [Pt.U, Pt.locs, Pt.cells, Pt.slots] at X6 l6 y6 z6 st6 hQ6
    subst l6 y6 z6
    obtain ⟨rfl, N6q, hh6⟩ := hQ6
    have N6 := Fr.app N2 N6q
    have pre6 : Steps p.tables e below _ (T6.setTop (mkF m 15 #[.val (.ref a1), .val (.int p2)] [(.int (f p2.toNatClampNeg))])) := pre5.trans (st6 _ (Steps.refl _))
    obtain ⟨fs, hr, hrun, hended, hW, hsame⟩ := X6.leave (v := some (.int (nar .char (f p2.toNatClampNeg)))) (fun h => by rw [Bd.returns] at h; cases h)
    refine ⟨_, _, pre6.trans ?_, hrun, hended, _, _, rfl, ?_, ⟨_, rfl⟩, hW, hsame.mono (by decide) (by decide)⟩
    · exact retN X6 hx (t := .char) Bd.returns (by simp) (hb hby d12_15) hr
    · exact ⟨by rw [en], N6, hh6⟩
  · have hgk := hg _ hkn
    have c4 : own_il_0_3 1 = (0 : Int32) := by rw [own_il1]
    have pre7 : Steps p.tables e below _ (T2.setTop (mkF m 17 #[.val (.ref a1), .val (.int p2)] [(.ref a1)])) := pre2.trans (by
      show Steps p.tables e below (T2.setTop (mkF m 4 #[.val (.ref a1), .val (.int p2)] [(.int (own_il_0_3 1))])) _
      refine XS.ifYes X2.here hx rfl (pc0 := 4) (pc' := 16) rfl (hb hby d12_4) rfl ((if0 _ _).trans (teq c4).1) (by decide) (by decide) ?_
      show Steps p.tables e below (T2.setTop (mkF m 16 #[.val (.ref a1), .val (.int p2)] [])) _
      refine XS.aloadN X2.here hx rfl (hb hby d12_16) rfl rfl ?_
      exact Steps.refl _)
    obtain ⟨T8, X8, e8, st8⟩ := getF X2 hx hZ hown (host := "") (Or.inl (hw _ (List.mem_of_getElem? (i := 25) rfl))) Via.refl hh2 FV (g := (mkF m 17 #[.val (.ref a1), .val (.int p2)] [(.ref a1)])) rfl rfl (hb hby d12_17)
    have pre8 : Steps p.tables e below _ (T8.setTop (mkF m 20 #[.val (.ref a1), .val (.int p2)] [(.ref b)])) := pre7.trans (st8 _ (Steps.refl _))
    have pre9 : Steps p.tables e below _ (T8.setTop (mkF m 21 #[.val (.ref a1), .val (.int p2)] [(.int p2), (.ref b)])) := pre8.trans (by
      show Steps p.tables e below (T8.setTop (mkF m 20 #[.val (.ref a1), .val (.int p2)] [(.ref b)])) _
      refine XS.iloadN X8.here hx rfl (hb hby d12_20) rfl ?_
      exact Steps.refl _)
    obtain ⟨_, _, ⟨T10, L10, k10, n10⟩, -, X10, ⟨Lc10, hQ10, l10, y10, z10⟩, st10⟩ := Jvm.LawKit.callS X8 hx (y := (⟨"java/lang/StringUTF16", "charAt", "([BI)C"⟩ : MethodName)) hown (mvT hZ (hw _ (List.mem_of_getElem? (i := 99) rfl))) (mvT hZ (hw _ (List.mem_of_getElem? (i := 100) rfl))) (mvT hZ (hw _ (List.mem_of_getElem? (i := 44) rfl))) (mvT hZ (hw _ (List.mem_of_getElem? (i := 101) rfl))) (by decide) (backOf (W := 0) (rmUA l Z a0 hw [] b p2 nn (f p2.toNatClampNeg) g fv h0 n0 Z0 SA SH SL FB hn4 u1 u2 hgk.1 hgk.2 hcf.1 hcf.2 SF hfv) hZ (hw _ (List.mem_of_getElem? (i := 101) rfl)) (hw _ (List.mem_of_getElem? (i := 44) rfl)) (by decide) (by decide)) (g := (mkF m 21 #[.val (.ref a1), .val (.int p2)] [(.int p2), (.ref b)])) rfl (by rw [hml]; rfl) (argsL := [(.ref b), (.int p2)]) (rest := []) (lenOf pd_rmCA_1 rfl) rfl (by show 2 * 0 + _ ≤ _; exact Nat.le_of_eq rfl) (hb hby d12_21) (fun _ _ => ⟨rfl, e8, (by decide : 0 + 0 ≤ _), (by decide : 0 + 0 ≤ _)⟩)
    dsimp only [Pt.U, Pt.locs, Pt.cells, Pt.slots] at X10 l10 y10 z10 st10 hQ10
    subst l10 y10 z10
    obtain ⟨rfl, N10q, hh10⟩ := hQ10
    have N10 := Fr.app N2 N10q
    have pre10 : Steps p.tables e below _ (T10.setTop (mkF m 24 #[.val (.ref a1), .val (.int p2)] [(.int (f p2.toNatClampNeg))])) := pre9.trans (st10 _ (Steps.refl _))
    obtain ⟨fs, hr, hrun, hended, hW, hsame⟩ := X10.leave (v := some (.int (nar .char (f p2.toNatClampNeg)))) (fun h => by rw [Bd.returns] at h; cases h)
    refine ⟨_, _, pre10.trans ?_, hrun, hended, _, _, rfl, ?_, ⟨_, rfl⟩, hW, hsame.mono (by decide) (by decide)⟩
    · exact retN X10 hx (t := .char) Bd.returns (by simp) (hb hby d12_24) hr
    · exact ⟨by rw [en], N10, hh10⟩
theorem own_iw_ws (x : Int32) : own_iw_0_6 x = own_ws_0_6 x := rfl
theorem d5_0 : decode prog_10_method_22_code 0 = .ok (.iconst 0, 1) := by decide +kernel
theorem d5_1 : decode prog_10_method_22_code 1 = .ok (.istore_n 1, 1) := by decide +kernel
theorem d5_2 : decode prog_10_method_22_code 2 = .ok (.iload_n 1, 1) := by decide +kernel
theorem d5_3 : decode prog_10_method_22_code 3 = .ok (.aload_n 0, 1) := by decide +kernel
theorem d5_4 : decode prog_10_method_22_code 4 = .ok (.invokevirtual 198, 3) := by decide +kernel
theorem d5_7 : decode prog_10_method_22_code 7 = .ok (.if_icmp .ge 22, 3) := by decide +kernel
theorem d5_10 : decode prog_10_method_22_code 10 = .ok (.aload_n 0, 1) := by decide +kernel
theorem d5_11 : decode prog_10_method_22_code 11 = .ok (.iload_n 1, 1) := by decide +kernel
theorem d5_12 : decode prog_10_method_22_code 12 = .ok (.invokevirtual 201, 3) := by decide +kernel
theorem d5_15 : decode prog_10_method_22_code 15 = .ok (.invokestatic 205, 3) := by decide +kernel
theorem d5_18 : decode prog_10_method_22_code 18 = .ok (.ifCond .ne 5, 3) := by decide +kernel
theorem d5_21 : decode prog_10_method_22_code 21 = .ok (.iconst 0, 1) := by decide +kernel
theorem d5_22 : decode prog_10_method_22_code 22 = .ok (.ireturn, 1) := by decide +kernel
theorem d5_23 : decode prog_10_method_22_code 23 = .ok (.iinc 1 1, 3) := by decide +kernel
theorem d5_26 : decode prog_10_method_22_code 26 = .ok (.goto (-24), 3) := by decide +kernel
theorem d5_29 : decode prog_10_method_22_code 29 = .ok (.iconst 1, 1) := by decide +kernel
theorem d5_30 : decode prog_10_method_22_code 30 = .ok (.ireturn, 1) := by decide +kernel
theorem pn_rmIS : plainName "com/example/summarium/summarium/cda/CdaElements" = true := by first | (simp [plainName, overriddenIn]; done) | decide +kernel
theorem pd_rmIS_0 : parseMethodDescriptor "()I" = some ⟨[], some .int⟩ := by decide +kernel
theorem pd_rmIS_1 : parseMethodDescriptor "(I)C" = some ⟨[.int], some .char⟩ := by decide +kernel
theorem pd_rmIS_2 : parseMethodDescriptor "(C)Z" = some ⟨[.char], some .boolean⟩ := by decide +kernel
theorem ef_rmIS (m : MethodId) (a1 : Addr) : entryFrame m #[(.ref a1)] 2 = (mkF m 0 #[.val (.ref a1), .unset] []) := by first | (simp [entryFrame, mkF, argsToLocals, Value.category]; done) | rfl
def Q_rmIS (Z : State) (a1 : Addr) (nn cs : Int32) (f : Nat → Int32) (fv : Value) (h0 : Heap) (n0 : Nat) (v : Option Value) (h : Heap) (L : List Loc) : Prop := ∃ r : Int32, v = some (.int r) ∧ Fr n0 L ∧ h = h0 ∧ ((r = (1 : Int32) ∧ ∀ j : Nat, (j : Int) < nn.toInt → ¬ own_iw_0_6 (f j) = 0) ∨ (r = (0 : Int32) ∧ ∃ j : Nat, (j : Int) < nn.toInt ∧ own_iw_0_6 (f j) = 0))
set_option maxRecDepth 65536 in
set_option maxHeartbeats 40000000 in
theorem rmIS (l : Launch) (Z : State) (a0 : Array Value) (hw : ∀ d ∈ tables_1, d.before a0 Z = true) (ws : List Jvm.Cond) (a1 : Addr) (nn cs : Int32) (f : Nat → Int32) (fv : Value) (h0 : Heap) (n0 : Nat) (Z0 : n0 ≤ h0.size) (SC : Sta Z h0 "java/lang/String" "COMPACT_STRINGS" "Z" (.int cs)) (hcs : ¬ cs = (0 : Int32)) (SA : Sta Z h0 "java/lang/StringUTF16" "$assertionsDisabled" "Z" (.int (1 : Int32))) (SH : Sta Z h0 "java/lang/StringUTF16" "HI_BYTE_SHIFT" "I" (.int (0 : Int32))) (SL : Sta Z h0 "java/lang/StringUTF16" "LO_BYTE_SHIFT" "I" (.int (8 : Int32))) (SS : Str Z h0 a1 nn f) (hn0 : 0 ≤ nn.toInt) (hn4 : nn.toInt ≤ 4) (hch : ∀ k : Nat, 0 ≤ (f k).toInt ∧ (f k).toInt < 65536) (SF : Sta Z h0 "jdk/internal/util/Preconditions" "SIOOBE_FORMATTER" "Ljava/util/function/BiFunction;" fv) (hfv : fv = .null ∨ ∃ a, fv = .ref a) :
    MetFree l (⟨"com/example/summarium/summarium/cda/CdaElements", "isWhiteSpace", "(Ljava/lang/String;)Z"⟩ : MethodName) (head1 (Jvm.Cond.code (⟨"com/example/summarium/summarium/cda/CdaElements", "isWhiteSpace", "(Ljava/lang/String;)Z"⟩ : MethodName) prog_10_method_22_code 2 (some .boolean) :: ws) ({ frames := 5, cells := 0, slots := 0, locals := 66 } : Room)) (fun a U => a = #[(.ref a1)] ∧ Z.Warmed39 U.vm ∧ U.heap = h0) (fun _ _ _ _ _ => True) (fun _ U o U' => ∃ v L, o = .returned v ∧ Q_rmIS Z a1 nn cs f fv h0 n0 v U'.heap L ∧ FrameEnd U o U' L ({ frames := 5, cells := 0, slots := 0, locals := 66 } : Room).cells ({ frames := 5, cells := 0, slots := 0, locals := 66 } : Room).slots) := by
  refine MetFree.of_bodySF (plainFor_of_name pn_rmIS) hisR ?_
  intro p e s m args below meth c s₁ Bd hml0 hP hK
  obtain ⟨rfl, hZ, hh⟩ := hP
  have hx := Bd.exec
  have hby := Bd.bytes
  have hml : c.maxLocals = 2 := hml0
  have hown : s.vm.findClass "com/example/summarium/summarium/cda/CdaElements" = some m.cls := findClass_of_methodNamed Bd.named
  have hnm := (name_of_methodNamed Bd.named Bd.method).1
  have X0 : Stand p l e ({ frames := 5, cells := 0, slots := 0, locals := 66 } : Room) s m #[(.ref a1)] below meth c s₁ [] 0 0 := Stand.of_body Bd
  have e0 : s₁.heap = h0 := by rw [← hh, Bd.state]; rfl
  have N0 := Fr.nil n0
  have pre0 : Steps p.tables e below (s₁.setTop (entryFrame m #[(.ref a1)] 2)) (s₁.setTop (mkF m 0 #[.val (.ref a1), .unset] [])) := castTop (ef_rmIS m a1) (Steps.refl _)
  have e00 : (0 : Int32).toInt = 0 := rfl
  have EA := SS.1
  have pre1 : Steps p.tables e below _ (s₁.setTop (mkF m 2 #[.val (.ref a1), .val (.int (0 : Int32))] [])) := pre0.trans (by
    show Steps p.tables e below (s₁.setTop (mkF m 0 #[.val (.ref a1), .unset] [])) _
    refine XS.iconst X0.here hx rfl (hb hby d5_0) ?_
    show Steps p.tables e below (s₁.setTop (mkF m 1 #[.val (.ref a1), .unset] [(.int (0 : Int32))])) _
    refine XS.istoreN X0.here hx rfl (hb hby d5_1) rfl (l' := #[.val (.ref a1), .val (.int (0 : Int32))]) rfl ?_
    exact Steps.refl _)
  have loop : ∀ (k : Nat) (i : Int32) (T : State) (locs : List Loc), Stand p l e ({ frames := 5, cells := 0, slots := 0, locals := 66 } : Room) s m #[(.ref a1)] below meth c T locs 0 0 → Fr n0 locs → T.heap = h0 → 0 ≤ i.toInt → i.toInt + k = nn.toInt → (∀ j : Nat, (j : Int) < i.toInt → ¬ own_iw_0_6 (f j) = 0) → ∃ (T' : State) (locs' : List Loc) (r : Int32) (pc : Nat) (Ls : Array Slot), Stand p l e ({ frames := 5, cells := 0, slots := 0, locals := 66 } : Room) s m #[(.ref a1)] below meth c T' locs' 0 0 ∧ Fr n0 locs' ∧ T'.heap = h0 ∧ ((r = (1 : Int32) ∧ ∀ j : Nat, (j : Int) < nn.toInt → ¬ own_iw_0_6 (f j) = 0) ∨ (r = (0 : Int32) ∧ ∃ j : Nat, (j : Int) < nn.toInt ∧ own_iw_0_6 (f j) = 0)) ∧ decode c.code pc = .ok (.ireturn, 1) ∧ Steps p.tables e below (T.setTop (mkF m 2 #[.val (.ref a1), .val (.int i)] [])) (T'.setTop (mkF m pc Ls [(.int r)])) := by
    intro k
    induction k with
    | zero =>
      intro i T locs X Nf eT i0 ik hg
      have preL : Steps p.tables e below (T.setTop (mkF m 2 #[.val (.ref a1), .val (.int i)] [])) (T.setTop (mkF m 2 #[.val (.ref a1), .val (.int i)] [])) := Steps.refl _
      have pre2 : Steps p.tables e below _ (T.setTop (mkF m 4 #[.val (.ref a1), .val (.int i)] [(.ref a1), (.int i)])) := preL.trans (by
        show Steps p.tables e below (T.setTop (mkF m 2 #[.val (.ref a1), .val (.int i)] [])) _
        refine XS.iloadN X.here hx rfl (hb hby d5_2) rfl ?_
        show Steps p.tables e below (T.setTop (mkF m 3 #[.val (.ref a1), .val (.int i)] [(.int i)])) _
        refine XS.aloadN X.here hx rfl (hb hby d5_3) rfl rfl ?_
        exact Steps.refl _)
      obtain ⟨cq3, kq3, q3a, q3b, q3c⟩ := isOf hZ eT EA
      obtain ⟨_, _, ⟨T3, L3, k3, n3⟩, -, X3, ⟨Lc3, hQ3, l3, y3, z3⟩, st3⟩ := X.virtualBack hx (y := (⟨"java/lang/String", "length", "()I"⟩ : MethodName)) (z := (⟨"java/lang/String", "length", "()I"⟩ : MethodName)) hown (mvT hZ (hw _ (List.mem_of_getElem? (i := 31) rfl))) (mvT hZ (hw _ (List.mem_of_getElem? (i := 32) rfl))) (notFace_of_selects (args := #[]) (mvT hZ (hw _ (List.mem_of_getElem? (i := 34) rfl)))) (mvT hZ (hw _ (List.mem_of_getElem? (i := 34) rfl))) (mvT hZ (hw _ (List.mem_of_getElem? (i := 33) rfl))) (by decide) (backOf (W := 1) (rmLe l Z a0 hw [] a1 nn cs f h0 n0 Z0 SC hcs SS hn0 hn4) hZ (hw _ (List.mem_of_getElem? (i := 35) rfl)) (hw _ (List.mem_of_getElem? (i := 8) rfl)) (by decide) (by decide)) q3a q3c (g := (mkF m 4 #[.val (.ref a1), .val (.int i)] [(.ref a1), (.int i)])) rfl (by rw [hml]; rfl) (Steps.refl _) (argsL := []) (rest := [(.int i)]) (lenOf pd_rmIS_0 rfl) rfl (by show 2 * 0 + _ ≤ _; exact Nat.le_of_eq rfl) (hb hby d5_4) (fun _ _ => ⟨rfl, eT, (by decide : 0 + 0 ≤ _), (by decide : 0 + 0 ≤ _)⟩)
      dsimp only [Pt.U, Pt.locs, Pt.cells, Pt.slots] at X3 l3 y3 z3 st3 hQ3
      subst l3 y3 z3
      obtain ⟨rfl, N3q, hh3⟩ := hQ3
      have N3 := Fr.app Nf N3q
      have pre3 : Steps p.tables e below _ (T3.setTop (mkF m 7 #[.val (.ref a1), .val (.int i)] [(.int nn), (.int i)])) := pre2.trans (st3)
      have hge : ¬ i < nn := by rw [own_lt]; omega
      have pre4 : Steps p.tables e below _ (T3.setTop (mkF m 30 #[.val (.ref a1), .val (.int i)] [(.int (1 : Int32))])) := pre3.trans (by
        show Steps p.tables e below (T3.setTop (mkF m 7 #[.val (.ref a1), .val (.int i)] [(.int nn), (.int i)])) _
        refine XS.icmpYes X3.here hx rfl (pc0 := 7) (pc' := 29) rfl (hb hby d5_7) rfl (flt hge).2.1 (by decide) (by decide) ?_
        show Steps p.tables e below (T3.setTop (mkF m 29 #[.val (.ref a1), .val (.int i)] [])) _
        refine XS.iconst X3.here hx rfl (hb hby d5_29) ?_
        exact Steps.refl _)
      exact ⟨T3, _, (1 : Int32), 30, _, X3, N3, hh3, Or.inl ⟨rfl, fun j hj => hg j (by omega)⟩, (hb hby d5_30), pre4⟩
    | succ k ih =>
      intro i T locs X Nf eT i0 ik hg
      have preL : Steps p.tables e below (T.setTop (mkF m 2 #[.val (.ref a1), .val (.int i)] [])) (T.setTop (mkF m 2 #[.val (.ref a1), .val (.int i)] [])) := Steps.refl _
      have pre5 : Steps p.tables e below _ (T.setTop (mkF m 4 #[.val (.ref a1), .val (.int i)] [(.ref a1), (.int i)])) := preL.trans (by
        show Steps p.tables e below (T.setTop (mkF m 2 #[.val (.ref a1), .val (.int i)] [])) _
        refine XS.iloadN X.here hx rfl (hb hby d5_2) rfl ?_
        show Steps p.tables e below (T.setTop (mkF m 3 #[.val (.ref a1), .val (.int i)] [(.int i)])) _
        refine XS.aloadN X.here hx rfl (hb hby d5_3) rfl rfl ?_
        exact Steps.refl _)
      obtain ⟨cq6, kq6, q6a, q6b, q6c⟩ := isOf hZ eT EA
      obtain ⟨_, _, ⟨T6, L6, k6, n6⟩, -, X6, ⟨Lc6, hQ6, l6, y6, z6⟩, st6⟩ := X.virtualBack hx (y := (⟨"java/lang/String", "length", "()I"⟩ : MethodName)) (z := (⟨"java/lang/String", "length", "()I"⟩ : MethodName)) hown (mvT hZ (hw _ (List.mem_of_getElem? (i := 31) rfl))) (mvT hZ (hw _ (List.mem_of_getElem? (i := 32) rfl))) (notFace_of_selects (args := #[]) (mvT hZ (hw _ (List.mem_of_getElem? (i := 34) rfl)))) (mvT hZ (hw _ (List.mem_of_getElem? (i := 34) rfl))) (mvT hZ (hw _ (List.mem_of_getElem? (i := 33) rfl))) (by decide) (backOf (W := 1) (rmLe l Z a0 hw [] a1 nn cs f h0 n0 Z0 SC hcs SS hn0 hn4) hZ (hw _ (List.mem_of_getElem? (i := 35) rfl)) (hw _ (List.mem_of_getElem? (i := 8) rfl)) (by decide) (by decide)) q6a q6c (g := (mkF m 4 #[.val (.ref a1), .val (.int i)] [(.ref a1), (.int i)])) rfl (by rw [hml]; rfl) (Steps.refl _) (argsL := []) (rest := [(.int i)]) (lenOf pd_rmIS_0 rfl) rfl (by show 2 * 0 + _ ≤ _; exact Nat.le_of_eq rfl) (hb hby d5_4) (fun _ _ => ⟨rfl, eT, (by decide : 0 + 0 ≤ _), (by decide : 0 + 0 ≤ _)⟩)
      dsimp only [Pt.U, Pt.locs, Pt.cells, Pt.slots] at X6 l6 y6 z6 st6 hQ6
      subst l6 y6 z6
      obtain ⟨rfl, N6q, hh6⟩ := hQ6
      have N6 := Fr.app Nf N6q
      have pre6 : Steps p.tables e below _ (T6.setTop (mkF m 7 #[.val (.ref a1), .val (.int i)] [(.int nn), (.int i)])) := pre5.trans (st6)
      have hlt : i < nn := by rw [own_lt]; omega
      have pre7 : Steps p.tables e below _ (T6.setTop (mkF m 12 #[.val (.ref a1), .val (.int i)] [(.int i), (.ref a1)])) := pre6.trans (by
        show Steps p.tables e below (T6.setTop (mkF m 7 #[.val (.ref a1), .val (.int i)] [(.int nn), (.int i)])) _
        refine XS.icmpNo X6.here hx rfl (hb hby d5_7) rfl (tlt hlt).2.1 ?_
        show Steps p.tables e below (T6.setTop (mkF m 10 #[.val (.ref a1), .val (.int i)] [])) _
        refine XS.aloadN X6.here hx rfl (hb hby d5_10) rfl rfl ?_
        show Steps p.tables e below (T6.setTop (mkF m 11 #[.val (.ref a1), .val (.int i)] [(.ref a1)])) _
        refine XS.iloadN X6.here hx rfl (hb hby d5_11) rfl ?_
        exact Steps.refl _)
      obtain ⟨cq8, kq8, q8a, q8b, q8c⟩ := isOf hZ hh6 EA
      obtain ⟨_, _, ⟨T8, L8, k8, n8⟩, -, X8, ⟨Lc8, hQ8, l8, y8, z8⟩, st8⟩ := X6.virtualBack hx (y := (⟨"java/lang/String", "charAt", "(I)C"⟩ : MethodName)) (z := (⟨"java/lang/String", "charAt", "(I)C"⟩ : MethodName)) hown (mvT hZ (hw _ (List.mem_of_getElem? (i := 55) rfl))) (mvT hZ (hw _ (List.mem_of_getElem? (i := 56) rfl))) (notFace_of_selects (args := #[]) (mvT hZ (hw _ (List.mem_of_getElem? (i := 58) rfl)))) (mvT hZ (hw _ (List.mem_of_getElem? (i := 58) rfl))) (mvT hZ (hw _ (List.mem_of_getElem? (i := 57) rfl))) (by decide) (backOf (W := 0) (rmCA l Z a0 hw [] a1 i nn cs f fv h0 n0 Z0 SC hcs SA SH SL SS hn4 i0 (by omega) hch SF hfv) hZ (hw _ (List.mem_of_getElem? (i := 59) rfl)) (hw _ (List.mem_of_getElem? (i := 8) rfl)) (by decide) (by decide)) q8a q8c (g := (mkF m 12 #[.val (.ref a1), .val (.int i)] [(.int i), (.ref a1)])) rfl (by rw [hml]; rfl) (Steps.refl _) (argsL := [(.int i)]) (rest := []) (lenOf pd_rmIS_1 rfl) rfl (by show 2 * 0 + _ ≤ _; exact Nat.le_of_eq rfl) (hb hby d5_12) (fun _ _ => ⟨rfl, hh6, (by decide : 0 + 0 ≤ _), (by decide : 0 + 0 ≤ _)⟩)
      dsimp only [Pt.U, Pt.locs, Pt.cells, Pt.slots] at X8 l8 y8 z8 st8 hQ8
      subst l8 y8 z8
      obtain ⟨rfl, N8q, hh8⟩ := hQ8
      have N8 := Fr.app N6 N8q
      have pre8 : Steps p.tables e below _ (T8.setTop (mkF m 15 #[.val (.ref a1), .val (.int i)] [(.int (f i.toNatClampNeg))])) := pre7.trans (st8)
      obtain ⟨_, _, ⟨T9, L9, k9, n9⟩, -, X9, ⟨Lc9, hQ9, l9, y9, z9⟩, st9⟩ := Jvm.LawKit.callS X8 hx (y := (⟨"com/example/summarium/summarium/cda/CdaElements", "isWhiteSpace", "(C)Z"⟩ : MethodName)) hown (mvT hZ (hw _ (List.mem_of_getElem? (i := 77) rfl))) (mvT hZ (hw _ (List.mem_of_getElem? (i := 78) rfl))) (mvT hZ (hw _ (List.mem_of_getElem? (i := 29) rfl))) (mvT hZ (hw _ (List.mem_of_getElem? (i := 79) rfl))) (by decide) (backOf (W := 0) (rmIw l Z a0 hw [] (f i.toNatClampNeg) h0 n0 Z0) hZ (hw _ (List.mem_of_getElem? (i := 79) rfl)) (hw _ (List.mem_of_getElem? (i := 29) rfl)) (by decide) (by decide)) (g := (mkF m 15 #[.val (.ref a1), .val (.int i)] [(.int (f i.toNatClampNeg))])) rfl (by rw [hml]; rfl) (argsL := [(.int (f i.toNatClampNeg))]) (rest := []) (lenOf pd_rmIS_2 rfl) rfl (by show 2 * 0 + _ ≤ _; exact Nat.le_of_eq rfl) (hb hby d5_15) (fun _ _ => ⟨rfl, hh8, (by decide : 0 + 0 ≤ _), (by decide : 0 + 0 ≤ _)⟩)
      dsimp only [Pt.U, Pt.locs, Pt.cells, Pt.slots] at X9 l9 y9 z9 st9 hQ9
      subst l9 y9 z9
      obtain ⟨rfl, N9q, hh9⟩ := hQ9
      have N9 := Fr.app N8 N9q
      have pre9 : Steps p.tables e below _ (T9.setTop (mkF m 18 #[.val (.ref a1), .val (.int i)] [(.int (own_iw_0_6 (f i.toNatClampNeg)))])) := pre8.trans (st9 _ (Steps.refl _))
      have w1 := own_nat i i0
      rcases Decidable.em (own_iw_0_6 (f i.toNatClampNeg) = 0) with hb2 | hb2
      · have h18 := hb2
        have pre10 : Steps p.tables e below _ (T9.setTop (mkF m 22 #[.val (.ref a1), .val (.int i)] [(.int (0 : Int32))])) := pre9.trans (by
          show Steps p.tables e below (T9.setTop (mkF m 18 #[.val (.ref a1), .val (.int i)] [(.int (own_iw_0_6 (f i.toNatClampNeg)))])) _
          refine XS.ifNo X9.here hx rfl (hb hby d5_18) rfl ((if0 _ _).trans (teq h18).2) ?_
          show Steps p.tables e below (T9.setTop (mkF m 21 #[.val (.ref a1), .val (.int i)] [])) _
          refine XS.iconst X9.here hx rfl (hb hby d5_21) ?_
          exact Steps.refl _)
        exact ⟨T9, _, (0 : Int32), 22, _, X9, N9, hh9, Or.inr ⟨rfl, i.toNatClampNeg, by omega, h18⟩, (hb hby d5_22), pre10⟩
      · have h18 := hb2
        have pre11 : Steps p.tables e below _ (T9.setTop (mkF m 2 #[.val (.ref a1), .val (.int (i + (1 : Int32)))] [])) := pre9.trans (by
          show Steps p.tables e below (T9.setTop (mkF m 18 #[.val (.ref a1), .val (.int i)] [(.int (own_iw_0_6 (f i.toNatClampNeg)))])) _
          refine XS.ifYes X9.here hx rfl (pc0 := 18) (pc' := 23) rfl (hb hby d5_18) rfl ((if0 _ _).trans (feq h18).2) (by decide) (by decide) ?_
          show Steps p.tables e below (T9.setTop (mkF m 23 #[.val (.ref a1), .val (.int i)] [])) _
          refine XS.iinc X9.here hx rfl (hb hby d5_23) rfl (l' := #[.val (.ref a1), .val (.int (i + (1 : Int32)))]) rfl ?_
          show Steps p.tables e below (T9.setTop (mkF m 26 #[.val (.ref a1), .val (.int (i + (1 : Int32)))] [])) _
          refine XS.goto X9.here hx rfl (pc0 := 26) (pc' := 2) rfl (hb hby d5_26) (by decide) (by decide) ?_
          exact Steps.refl _)
        have ei := own_inc i i0 (by omega)
        obtain ⟨T', locs', r, pc, Ls, q1, q2, q3, q4, q5, q6⟩ := ih (i + (1 : Int32)) T9 _ X9 N9 hh9 (by omega) (by omega) (fun j hj => by
            by_cases q1 : j = i.toNatClampNeg
            · subst q1; exact h18
            · exact hg j (by omega))
        exact ⟨T', locs', r, pc, Ls, q1, q2, q3, q4, q5, pre11.trans q6⟩
  obtain ⟨T9, l9, r, pc9, Ls9, X9, N9, e9, hr9, d9, st9⟩ := loop nn.toInt.toNat (0 : Int32) s₁ [] X0 N0 e0 (by decide) (by rw [Int.toNat_of_nonneg hn0]; exact Int.zero_add _) (fun j hj => by rw [e00] at hj; omega)
  have hnr : nar .boolean r = r := by rcases hr9 with ⟨rfl, -⟩ | ⟨rfl, -⟩ <;> decide
  obtain ⟨fs, hr, hrun, hended, hW, hsame⟩ := X9.leave (v := some (.int (nar .boolean r))) (fun h => by rw [Bd.returns] at h; cases h)
  refine ⟨_, _, (pre1.trans st9).trans (retN X9 hx (t := .boolean) Bd.returns (by simp) d9 hr), hrun, hended, _, _, rfl, ?_, ⟨_, rfl⟩, hW, hsame.mono (by decide) (by decide)⟩
  exact ⟨r, by rw [hnr], N9, e9, hr9⟩
def own_R (c : Int32) : Prop := 0 ≤ c.toInt ∧ c.toInt < 65536
theorem own_ifr {P : Prop} [Decidable P] {a b : Int32} (ha : own_R a) (hb : own_R b) : own_R (if P then a else b) := by
  by_cases q : P
  · rw [if_pos q]; exact ha
  · rw [if_neg q]; exact hb
theorem own_nc (x : Int32) : own_R (nar .char x) := by
  have q := c_i2c x
  show 0 ≤ (x.toUInt32.toUInt16.toUInt32.toInt32).toInt ∧ (x.toUInt32.toUInt16.toUInt32.toInt32).toInt < 65536
  omega
theorem own_ncc (c : Int32) (h : own_R c) : nar .char c = c := own_i2c c h.1 h.2
theorem own_pkr (x : Int32) : own_R (own_pk_0_9 x) := own_ifr (own_nc _) (own_ifr (own_nc _) (own_ifr (own_nc _) (own_ifr (own_nc _) (own_nc _))))
theorem own_n5 (x : Int32) : 0 ≤ ((x &&& (2147483647 : Int32)) % (5 : Int32)).toInt ∧ ((x &&& (2147483647 : Int32)) % (5 : Int32)).toInt ≤ 4 := by
  have q := c_and x (2147483647 : Int32) (by decide)
  have r := (c_irem (x &&& (2147483647 : Int32)) (5 : Int32) 5 rfl).1 q.1
  omega
def own_f (a b c d : Int32) (k : Nat) : Int32 := if k = 0 then a else if k = 1 then b else if k = 2 then c else d
theorem own_fr {a b c d : Int32} (ha : own_R a) (hb : own_R b) (hc : own_R c) (hd : own_R d) (k : Nat) : own_R (own_f a b c d k) := own_ifr ha (own_ifr hb (own_ifr hc hd))
theorem own_all {L : List Jvm.Cond} {c0 : Jvm.Cond} {args : Array Value} {s : State} (h : (L.foldr Jvm.Cond.and c0).before args s = true) : ∀ c ∈ L, c.before args s = true := by
  induction L with
  | nil => intro c hc; cases hc
  | cons a t ih =>
    intro c hc
    have h' : (Jvm.Cond.and a (t.foldr Jvm.Cond.and c0)).before args s = true := h
    rw [Jvm.Cond.before_and, Bool.and_eq_true] at h'
    rcases List.mem_cons.mp hc with rfl | hc
    · exact h'.1
    · exact ih h'.2 c hc
theorem own_seq {t : Term} {n : Int32} {args : Array Value} {s : State} (h : (Jvm.Cond.eq t (.int n)).before args s = true) : t.eval args s none [] s = some (.int n) := by
  have h := Cond.before_iff.mp h
  simp only [Cond.value, Term.eval] at h
  cases ht : t.eval args s none [] s with
  | none => simp [ht] at h
  | some x => cases x <;> simp [ht] at h ⊢; exact h
theorem pn_rm0 : plainName "com/example/summarium/summarium/cda/CdaElementsIsWhiteSpacePinLaw" = true := by first | (simp [plainName, overriddenIn]; done) | decide +kernel
theorem pd_rm0_0 : parseMethodDescriptor "(I)C" = some ⟨[.int], some .char⟩ := by decide +kernel
theorem pd_rm0_1 : parseMethodDescriptor "([C)V" = some ⟨[(.array .char)], none⟩ := by decide +kernel
theorem pd_rm0_2 : parseMethodDescriptor "(C)Z" = some ⟨[.char], some .boolean⟩ := by decide +kernel
theorem pd_rm0_3 : parseMethodDescriptor "(Ljava/lang/String;)Z" = some ⟨[(.object "java/lang/String")], some .boolean⟩ := by decide +kernel
theorem ef_rm0 (m : MethodId) (p1 : Int32) (p2 : Int32) (p3 : Int32) (p4 : Int32) (p5 : Int32) : entryFrame m #[(.int p1), (.int p2), (.int p3), (.int p4), (.int p5)] maxLocals = (mkF m 0 #[.val (.int p1), .val (.int p2), .val (.int p3), .val (.int p4), .val (.int p5), .unset, .unset, .unset, .unset, .unset, .unset, .unset, .unset] []) := by first | (simp [entryFrame, mkF, argsToLocals, Value.category, maxLocals]; done) | rfl
def Q_rm0 (Z : State) (p1 : Int32) (p2 : Int32) (p3 : Int32) (p4 : Int32) (p5 : Int32) (cs : Int32) (fv : Value) (h0 : Heap) (n0 : Nat) (v : Option Value) (h : Heap) (L : List Loc) : Prop := v = some (.int (1 : Int32)) ∧ Fr n0 L
set_option maxRecDepth 65536 in
set_option maxHeartbeats 40000000 in
theorem rm0 (l : Launch) (Z : State) (a0 : Array Value) (hw : ∀ d ∈ tables_1, d.before a0 Z = true) (ws : List Jvm.Cond) (p1 : Int32) (p2 : Int32) (p3 : Int32) (p4 : Int32) (p5 : Int32) (cs : Int32) (fv : Value) (h0 : Heap) (n0 : Nat) (Z0 : n0 ≤ h0.size) (SC : Sta Z h0 "java/lang/String" "COMPACT_STRINGS" "Z" (.int cs)) (hcs : ¬ cs = (0 : Int32)) (SA : Sta Z h0 "java/lang/StringUTF16" "$assertionsDisabled" "Z" (.int (1 : Int32))) (SH : Sta Z h0 "java/lang/StringUTF16" "HI_BYTE_SHIFT" "I" (.int (0 : Int32))) (SL : Sta Z h0 "java/lang/StringUTF16" "LO_BYTE_SHIFT" "I" (.int (8 : Int32))) (SF : Sta Z h0 "jdk/internal/util/Preconditions" "SIOOBE_FORMATTER" "Ljava/util/function/BiFunction;" fv) (hfv : fv = .null ∨ ∃ a, fv = .ref a) :
    MetFree l x (head1 (Jvm.Cond.code x code maxLocals ret :: ws) room_1) (fun a U => a = #[(.int p1), (.int p2), (.int p3), (.int p4), (.int p5)] ∧ Z.Warmed39 U.vm ∧ U.heap = h0 ∧ CHv Z [("java/lang/String", (7 : Nat))] U.vm h0) (fun _ _ _ _ _ => True) (fun _ U o U' => ∃ v L, o = .returned v ∧ Q_rm0 Z p1 p2 p3 p4 p5 cs fv h0 n0 v U'.heap L ∧ ReturnedEndW U o U' L 4 20) := by
  refine MetFree.of_bodySF (plainFor_of_name pn_rm0) hisR ?_
  intro p e s m args below meth c s₁ Bd hml0 hP hK
  obtain ⟨rfl, hZ, hh, hCH⟩ := hP
  have hx := Bd.exec
  have hby := Bd.bytes
  have hml : c.maxLocals = 13 := hml0
  have hown : s.vm.findClass "com/example/summarium/summarium/cda/CdaElementsIsWhiteSpacePinLaw" = some m.cls := findClass_of_methodNamed Bd.named
  have hnm := (name_of_methodNamed Bd.named Bd.method).1
  have X0 : Stand p l e room_1 s m #[(.int p1), (.int p2), (.int p3), (.int p4), (.int p5)] below meth c s₁ [] 0 0 := Stand.of_body Bd
  have e0 : s₁.heap = h0 := by rw [← hh, Bd.state]; rfl
  have N0 := Fr.nil n0
  have pre0 : Steps p.tables e below (s₁.setTop (entryFrame m #[(.int p1), (.int p2), (.int p3), (.int p4), (.int p5)] maxLocals)) (s₁.setTop (mkF m 0 #[.val (.int p1), .val (.int p2), .val (.int p3), .val (.int p4), .val (.int p5), .unset, .unset, .unset, .unset, .unset, .unset, .unset, .unset] [])) := castTop (ef_rm0 m p1 p2 p3 p4 p5) (Steps.refl _)
  have pre1 : Steps p.tables e below _ (s₁.setTop (mkF m 6 #[.val (.int p1), .val (.int p2), .val (.int p3), .val (.int p4), .val (.int p5), .unset, .unset, .unset, .unset, .unset, .unset, .unset, .unset] [(.int ((p1 &&& (2147483647 : Int32)) % (5 : Int32)))])) := pre0.trans (by
    show Steps p.tables e below (s₁.setTop (mkF m 0 #[.val (.int p1), .val (.int p2), .val (.int p3), .val (.int p4), .val (.int p5), .unset, .unset, .unset, .unset, .unset, .unset, .unset, .unset] [])) _
    refine XS.iloadN X0.here hx rfl (hb hby at_0) rfl ?_
    show Steps p.tables e below (s₁.setTop (mkF m 1 #[.val (.int p1), .val (.int p2), .val (.int p3), .val (.int p4), .val (.int p5), .unset, .unset, .unset, .unset, .unset, .unset, .unset, .unset] [(.int p1)])) _
    refine X0.ldcInt hx hown (mvT hZ (hw _ (List.mem_of_getElem? (i := 0) rfl))) (g := (mkF m 1 #[.val (.int p1), .val (.int p2), .val (.int p3), .val (.int p4), .val (.int p5), .unset, .unset, .unset, .unset, .unset, .unset, .unset, .unset] [(.int p1)])) rfl (hb hby at_1) _ ?_
    show Steps p.tables e below (s₁.setTop (mkF m 3 #[.val (.int p1), .val (.int p2), .val (.int p3), .val (.int p4), .val (.int p5), .unset, .unset, .unset, .unset, .unset, .unset, .unset, .unset] [(.int (2147483647 : Int32)), (.int p1)])) _
    refine XS.iand X0.here hx rfl (hb hby at_3) rfl ?_
    show Steps p.tables e below (s₁.setTop (mkF m 4 #[.val (.int p1), .val (.int p2), .val (.int p3), .val (.int p4), .val (.int p5), .unset, .unset, .unset, .unset, .unset, .unset, .unset, .unset] [(.int (p1 &&& (2147483647 : Int32)))])) _
    refine XS.iconst X0.here hx rfl (hb hby at_4) ?_
    show Steps p.tables e below (s₁.setTop (mkF m 5 #[.val (.int p1), .val (.int p2), .val (.int p3), .val (.int p4), .val (.int p5), .unset, .unset, .unset, .unset, .unset, .unset, .unset, .unset] [(.int (5 : Int32)), (.int (p1 &&& (2147483647 : Int32)))])) _
    refine iremM X0 hx rfl (hb hby at_5) rfl (by decide) ?_
    exact Steps.refl _)
  obtain ⟨nn, h_nn⟩ : ∃ z, z = ((p1 &&& (2147483647 : Int32)) % (5 : Int32)) := ⟨_, rfl⟩
  rw [← h_nn] at pre1
  have hn0 : 0 ≤ nn.toInt := by rw [h_nn]; exact (own_n5 p1).1
  have hn4 : nn.toInt ≤ 4 := by rw [h_nn]; exact (own_n5 p1).2
  have pre2 : Steps p.tables e below _ (s₁.setTop (mkF m 9 #[.val (.int p1), .val (.int p2), .val (.int p3), .val (.int p4), .val (.int p5), .val (.int nn), .unset, .unset, .unset, .unset, .unset, .unset, .unset] [(.int p2)])) := pre1.trans (by
    show Steps p.tables e below (s₁.setTop (mkF m 6 #[.val (.int p1), .val (.int p2), .val (.int p3), .val (.int p4), .val (.int p5), .unset, .unset, .unset, .unset, .unset, .unset, .unset, .unset] [(.int nn)])) _
    refine XS.istore X0.here hx rfl (hb hby at_6) rfl (l' := #[.val (.int p1), .val (.int p2), .val (.int p3), .val (.int p4), .val (.int p5), .val (.int nn), .unset, .unset, .unset, .unset, .unset, .unset, .unset]) rfl ?_
    show Steps p.tables e below (s₁.setTop (mkF m 8 #[.val (.int p1), .val (.int p2), .val (.int p3), .val (.int p4), .val (.int p5), .val (.int nn), .unset, .unset, .unset, .unset, .unset, .unset, .unset] [])) _
    refine XS.iloadN X0.here hx rfl (hb hby at_8) rfl ?_
    exact Steps.refl _)
  obtain ⟨_, _, ⟨T3, L3, k3, n3⟩, -, X3, ⟨Lc3, hQ3, l3, y3, z3⟩, st3⟩ := Jvm.LawKit.callS X0 hx (y := (⟨"com/example/summarium/summarium/cda/CdaElementsIsWhiteSpacePinLaw", "pick", "(I)C"⟩ : MethodName)) hown (mvT hZ (hw _ (List.mem_of_getElem? (i := 1) rfl))) (mvT hZ (hw _ (List.mem_of_getElem? (i := 2) rfl))) (mvT hZ (hw _ (List.mem_of_getElem? (i := 3) rfl))) (mvT hZ (hw _ (List.mem_of_getElem? (i := 4) rfl))) (by decide) (backOf (W := 0) (rmPk l Z a0 hw [] p2 h0 n0 Z0) hZ (hw _ (List.mem_of_getElem? (i := 4) rfl)) (hw _ (List.mem_of_getElem? (i := 3) rfl)) (by decide) (by decide)) (g := (mkF m 9 #[.val (.int p1), .val (.int p2), .val (.int p3), .val (.int p4), .val (.int p5), .val (.int nn), .unset, .unset, .unset, .unset, .unset, .unset, .unset] [(.int p2)])) rfl (by rw [hml]; rfl) (argsL := [(.int p2)]) (rest := []) (lenOf pd_rm0_0 rfl) rfl (by show 2 * 0 + _ ≤ _; exact Nat.le_of_eq rfl) (hb hby at_9) (fun _ _ => ⟨rfl, e0, (by decide : 0 + 0 ≤ _), (by decide : 0 + 0 ≤ _)⟩)
  dsimp only [Pt.U, Pt.locs, Pt.cells, Pt.slots] at X3 l3 y3 z3 st3 hQ3
  subst l3 y3 z3
  obtain ⟨rfl, N3q, hh3⟩ := hQ3
  have N3 := Fr.app N0 N3q
  have pre3 : Steps p.tables e below _ (T3.setTop (mkF m 12 #[.val (.int p1), .val (.int p2), .val (.int p3), .val (.int p4), .val (.int p5), .val (.int nn), .unset, .unset, .unset, .unset, .unset, .unset, .unset] [(.int (own_pk_0_9 p2))])) := pre2.trans (st3 _ (Steps.refl _))
  obtain ⟨u0, h_u0⟩ : ∃ z, z = (own_pk_0_9 p2) := ⟨_, rfl⟩
  rw [← h_u0] at pre3
  have hu0 : own_R u0 := by rw [h_u0]; exact own_pkr p2
  have pre4 : Steps p.tables e below _ (T3.setTop (mkF m 15 #[.val (.int p1), .val (.int p2), .val (.int p3), .val (.int p4), .val (.int p5), .val (.int nn), .val (.int u0), .unset, .unset, .unset, .unset, .unset, .unset] [(.int p3)])) := pre3.trans (by
    show Steps p.tables e below (T3.setTop (mkF m 12 #[.val (.int p1), .val (.int p2), .val (.int p3), .val (.int p4), .val (.int p5), .val (.int nn), .unset, .unset, .unset, .unset, .unset, .unset, .unset] [(.int u0)])) _
    refine XS.istore X3.here hx rfl (hb hby at_12) rfl (l' := #[.val (.int p1), .val (.int p2), .val (.int p3), .val (.int p4), .val (.int p5), .val (.int nn), .val (.int u0), .unset, .unset, .unset, .unset, .unset, .unset]) rfl ?_
    show Steps p.tables e below (T3.setTop (mkF m 14 #[.val (.int p1), .val (.int p2), .val (.int p3), .val (.int p4), .val (.int p5), .val (.int nn), .val (.int u0), .unset, .unset, .unset, .unset, .unset, .unset] [])) _
    refine XS.iloadN X3.here hx rfl (hb hby at_14) rfl ?_
    exact Steps.refl _)
  obtain ⟨_, _, ⟨T5, L5, k5, n5⟩, -, X5, ⟨Lc5, hQ5, l5, y5, z5⟩, st5⟩ := Jvm.LawKit.callS X3 hx (y := (⟨"com/example/summarium/summarium/cda/CdaElementsIsWhiteSpacePinLaw", "pick", "(I)C"⟩ : MethodName)) hown (mvT hZ (hw _ (List.mem_of_getElem? (i := 1) rfl))) (mvT hZ (hw _ (List.mem_of_getElem? (i := 2) rfl))) (mvT hZ (hw _ (List.mem_of_getElem? (i := 3) rfl))) (mvT hZ (hw _ (List.mem_of_getElem? (i := 4) rfl))) (by decide) (backOf (W := 0) (rmPk l Z a0 hw [] p3 h0 n0 Z0) hZ (hw _ (List.mem_of_getElem? (i := 4) rfl)) (hw _ (List.mem_of_getElem? (i := 3) rfl)) (by decide) (by decide)) (g := (mkF m 15 #[.val (.int p1), .val (.int p2), .val (.int p3), .val (.int p4), .val (.int p5), .val (.int nn), .val (.int u0), .unset, .unset, .unset, .unset, .unset, .unset] [(.int p3)])) rfl (by rw [hml]; rfl) (argsL := [(.int p3)]) (rest := []) (lenOf pd_rm0_0 rfl) rfl (by show 2 * 0 + _ ≤ _; exact Nat.le_of_eq rfl) (hb hby at_15) (fun _ _ => ⟨rfl, hh3, (by decide : 0 + 0 ≤ _), (by decide : 0 + 0 ≤ _)⟩)
  dsimp only [Pt.U, Pt.locs, Pt.cells, Pt.slots] at X5 l5 y5 z5 st5 hQ5
  subst l5 y5 z5
  obtain ⟨rfl, N5q, hh5⟩ := hQ5
  have N5 := Fr.app N3 N5q
  have pre5 : Steps p.tables e below _ (T5.setTop (mkF m 18 #[.val (.int p1), .val (.int p2), .val (.int p3), .val (.int p4), .val (.int p5), .val (.int nn), .val (.int u0), .unset, .unset, .unset, .unset, .unset, .unset] [(.int (own_pk_0_9 p3))])) := pre4.trans (st5 _ (Steps.refl _))
  obtain ⟨u1, h_u1⟩ : ∃ z, z = (own_pk_0_9 p3) := ⟨_, rfl⟩
  rw [← h_u1] at pre5
  have hu1 : own_R u1 := by rw [h_u1]; exact own_pkr p3
  have pre6 : Steps p.tables e below _ (T5.setTop (mkF m 21 #[.val (.int p1), .val (.int p2), .val (.int p3), .val (.int p4), .val (.int p5), .val (.int nn), .val (.int u0), .val (.int u1), .unset, .unset, .unset, .unset, .unset] [(.int p4)])) := pre5.trans (by
    show Steps p.tables e below (T5.setTop (mkF m 18 #[.val (.int p1), .val (.int p2), .val (.int p3), .val (.int p4), .val (.int p5), .val (.int nn), .val (.int u0), .unset, .unset, .unset, .unset, .unset, .unset] [(.int u1)])) _
    refine XS.istore X5.here hx rfl (hb hby at_18) rfl (l' := #[.val (.int p1), .val (.int p2), .val (.int p3), .val (.int p4), .val (.int p5), .val (.int nn), .val (.int u0), .val (.int u1), .unset, .unset, .unset, .unset, .unset]) rfl ?_
    show Steps p.tables e below (T5.setTop (mkF m 20 #[.val (.int p1), .val (.int p2), .val (.int p3), .val (.int p4), .val (.int p5), .val (.int nn), .val (.int u0), .val (.int u1), .unset, .unset, .unset, .unset, .unset] [])) _
    refine XS.iloadN X5.here hx rfl (hb hby at_20) rfl ?_
    exact Steps.refl _)
  obtain ⟨_, _, ⟨T7, L7, k7, n7⟩, -, X7, ⟨Lc7, hQ7, l7, y7, z7⟩, st7⟩ := Jvm.LawKit.callS X5 hx (y := (⟨"com/example/summarium/summarium/cda/CdaElementsIsWhiteSpacePinLaw", "pick", "(I)C"⟩ : MethodName)) hown (mvT hZ (hw _ (List.mem_of_getElem? (i := 1) rfl))) (mvT hZ (hw _ (List.mem_of_getElem? (i := 2) rfl))) (mvT hZ (hw _ (List.mem_of_getElem? (i := 3) rfl))) (mvT hZ (hw _ (List.mem_of_getElem? (i := 4) rfl))) (by decide) (backOf (W := 0) (rmPk l Z a0 hw [] p4 h0 n0 Z0) hZ (hw _ (List.mem_of_getElem? (i := 4) rfl)) (hw _ (List.mem_of_getElem? (i := 3) rfl)) (by decide) (by decide)) (g := (mkF m 21 #[.val (.int p1), .val (.int p2), .val (.int p3), .val (.int p4), .val (.int p5), .val (.int nn), .val (.int u0), .val (.int u1), .unset, .unset, .unset, .unset, .unset] [(.int p4)])) rfl (by rw [hml]; rfl) (argsL := [(.int p4)]) (rest := []) (lenOf pd_rm0_0 rfl) rfl (by show 2 * 0 + _ ≤ _; exact Nat.le_of_eq rfl) (hb hby at_21) (fun _ _ => ⟨rfl, hh5, (by decide : 0 + 0 ≤ _), (by decide : 0 + 0 ≤ _)⟩)
  dsimp only [Pt.U, Pt.locs, Pt.cells, Pt.slots] at X7 l7 y7 z7 st7 hQ7
  subst l7 y7 z7
  obtain ⟨rfl, N7q, hh7⟩ := hQ7
  have N7 := Fr.app N5 N7q
  have pre7 : Steps p.tables e below _ (T7.setTop (mkF m 24 #[.val (.int p1), .val (.int p2), .val (.int p3), .val (.int p4), .val (.int p5), .val (.int nn), .val (.int u0), .val (.int u1), .unset, .unset, .unset, .unset, .unset] [(.int (own_pk_0_9 p4))])) := pre6.trans (st7 _ (Steps.refl _))
  obtain ⟨u2, h_u2⟩ : ∃ z, z = (own_pk_0_9 p4) := ⟨_, rfl⟩
  rw [← h_u2] at pre7
  have hu2 : own_R u2 := by rw [h_u2]; exact own_pkr p4
  have pre8 : Steps p.tables e below _ (T7.setTop (mkF m 28 #[.val (.int p1), .val (.int p2), .val (.int p3), .val (.int p4), .val (.int p5), .val (.int nn), .val (.int u0), .val (.int u1), .val (.int u2), .unset, .unset, .unset, .unset] [(.int p5)])) := pre7.trans (by
    show Steps p.tables e below (T7.setTop (mkF m 24 #[.val (.int p1), .val (.int p2), .val (.int p3), .val (.int p4), .val (.int p5), .val (.int nn), .val (.int u0), .val (.int u1), .unset, .unset, .unset, .unset, .unset] [(.int u2)])) _
    refine XS.istore X7.here hx rfl (hb hby at_24) rfl (l' := #[.val (.int p1), .val (.int p2), .val (.int p3), .val (.int p4), .val (.int p5), .val (.int nn), .val (.int u0), .val (.int u1), .val (.int u2), .unset, .unset, .unset, .unset]) rfl ?_
    show Steps p.tables e below (T7.setTop (mkF m 26 #[.val (.int p1), .val (.int p2), .val (.int p3), .val (.int p4), .val (.int p5), .val (.int nn), .val (.int u0), .val (.int u1), .val (.int u2), .unset, .unset, .unset, .unset] [])) _
    refine XS.iload X7.here hx rfl (hb hby at_26) rfl ?_
    exact Steps.refl _)
  obtain ⟨_, _, ⟨T9, L9, k9, n9⟩, -, X9, ⟨Lc9, hQ9, l9, y9, z9⟩, st9⟩ := Jvm.LawKit.callS X7 hx (y := (⟨"com/example/summarium/summarium/cda/CdaElementsIsWhiteSpacePinLaw", "pick", "(I)C"⟩ : MethodName)) hown (mvT hZ (hw _ (List.mem_of_getElem? (i := 1) rfl))) (mvT hZ (hw _ (List.mem_of_getElem? (i := 2) rfl))) (mvT hZ (hw _ (List.mem_of_getElem? (i := 3) rfl))) (mvT hZ (hw _ (List.mem_of_getElem? (i := 4) rfl))) (by decide) (backOf (W := 0) (rmPk l Z a0 hw [] p5 h0 n0 Z0) hZ (hw _ (List.mem_of_getElem? (i := 4) rfl)) (hw _ (List.mem_of_getElem? (i := 3) rfl)) (by decide) (by decide)) (g := (mkF m 28 #[.val (.int p1), .val (.int p2), .val (.int p3), .val (.int p4), .val (.int p5), .val (.int nn), .val (.int u0), .val (.int u1), .val (.int u2), .unset, .unset, .unset, .unset] [(.int p5)])) rfl (by rw [hml]; rfl) (argsL := [(.int p5)]) (rest := []) (lenOf pd_rm0_0 rfl) rfl (by show 2 * 0 + _ ≤ _; exact Nat.le_of_eq rfl) (hb hby at_28) (fun _ _ => ⟨rfl, hh7, (by decide : 0 + 0 ≤ _), (by decide : 0 + 0 ≤ _)⟩)
  dsimp only [Pt.U, Pt.locs, Pt.cells, Pt.slots] at X9 l9 y9 z9 st9 hQ9
  subst l9 y9 z9
  obtain ⟨rfl, N9q, hh9⟩ := hQ9
  have N9 := Fr.app N7 N9q
  have pre9 : Steps p.tables e below _ (T9.setTop (mkF m 31 #[.val (.int p1), .val (.int p2), .val (.int p3), .val (.int p4), .val (.int p5), .val (.int nn), .val (.int u0), .val (.int u1), .val (.int u2), .unset, .unset, .unset, .unset] [(.int (own_pk_0_9 p5))])) := pre8.trans (st9 _ (Steps.refl _))
  obtain ⟨u3, h_u3⟩ : ∃ z, z = (own_pk_0_9 p5) := ⟨_, rfl⟩
  rw [← h_u3] at pre9
  have hu3 : own_R u3 := by rw [h_u3]; exact own_pkr p5
  have hchf := own_fr hu0 hu1 hu2 hu3
  have pre10 : Steps p.tables e below _ (T9.setTop (mkF m 35 #[.val (.int p1), .val (.int p2), .val (.int p3), .val (.int p4), .val (.int p5), .val (.int nn), .val (.int u0), .val (.int u1), .val (.int u2), .val (.int u3), .unset, .unset, .unset] [(.int nn)])) := pre9.trans (by
    show Steps p.tables e below (T9.setTop (mkF m 31 #[.val (.int p1), .val (.int p2), .val (.int p3), .val (.int p4), .val (.int p5), .val (.int nn), .val (.int u0), .val (.int u1), .val (.int u2), .unset, .unset, .unset, .unset] [(.int u3)])) _
    refine XS.istore X9.here hx rfl (hb hby at_31) rfl (l' := #[.val (.int p1), .val (.int p2), .val (.int p3), .val (.int p4), .val (.int p5), .val (.int nn), .val (.int u0), .val (.int u1), .val (.int u2), .val (.int u3), .unset, .unset, .unset]) rfl ?_
    show Steps p.tables e below (T9.setTop (mkF m 33 #[.val (.int p1), .val (.int p2), .val (.int p3), .val (.int p4), .val (.int p5), .val (.int nn), .val (.int u0), .val (.int u1), .val (.int u2), .val (.int u3), .unset, .unset, .unset] [])) _
    refine XS.iload X9.here hx rfl (hb hby at_33) rfl ?_
    exact Steps.refl _)
  obtain ⟨vm0, T9, l9, cb, sb, k9, X9, N9, Z9, hS9, hk9, hZ9, hown9, SS9, ⟨SC9, SF9, SA9, SH9, SL9⟩, st9⟩ : ∃ (vm0 : Vm) (T' : State) (lc : List Loc) (cb sb : Addr) (k1 : Nat), Stand p l e room_1 (s.setVm vm0) m #[(.int p1), (.int p2), (.int p3), (.int p4), (.int p5)] below meth c T' lc 4 20 ∧ Fr n0 lc ∧ n0 ≤ T'.heap.size ∧ s.Since vm0 k1 ∧ k1 ≤ T'.heap.size ∧ Z.Warmed39 (s.setVm vm0).vm ∧ (s.setVm vm0).vm.findClass "com/example/summarium/summarium/cda/CdaElementsIsWhiteSpacePinLaw" = some m.cls ∧ Str Z T'.heap sb nn (own_f u0 u1 u2 u3) ∧ (Sta Z T'.heap "java/lang/String" "COMPACT_STRINGS" "Z" (.int cs) ∧ Sta Z T'.heap "jdk/internal/util/Preconditions" "SIOOBE_FORMATTER" "Ljava/util/function/BiFunction;" fv ∧ Sta Z T'.heap "java/lang/StringUTF16" "$assertionsDisabled" "Z" (.int (1 : Int32)) ∧ Sta Z T'.heap "java/lang/StringUTF16" "HI_BYTE_SHIFT" "I" (.int (0 : Int32)) ∧ Sta Z T'.heap "java/lang/StringUTF16" "LO_BYTE_SHIFT" "I" (.int (8 : Int32))) ∧ Steps p.tables e below (s₁.setTop (entryFrame m #[(.int p1), (.int p2), (.int p3), (.int p4), (.int p5)] maxLocals)) (T'.setTop (mkF m 152 #[.val (.int p1), .val (.int p2), .val (.int p3), .val (.int p4), .val (.int p5), .val (.int nn), .val (.int u0), .val (.int u1), .val (.int u2), .val (.int u3), .val (.ref cb), .unset, .unset] [(.ref sb)])) := by
    rcases own_small nn hn0 hn4 with q | q | q | q | q
    · have qn := q
      have pre11 : Steps p.tables e below _ (T9.setTop (mkF m 39 #[.val (.int p1), .val (.int p2), .val (.int p3), .val (.int p4), .val (.int p5), .val (.int nn), .val (.int u0), .val (.int u1), .val (.int u2), .val (.int u3), .unset, .unset, .unset] [(.int (0 : Int32))])) := pre10.trans (by
        show Steps p.tables e below (T9.setTop (mkF m 35 #[.val (.int p1), .val (.int p2), .val (.int p3), .val (.int p4), .val (.int p5), .val (.int nn), .val (.int u0), .val (.int u1), .val (.int u2), .val (.int u3), .unset, .unset, .unset] [(.int nn)])) _
        refine XS.ifNo X9.here hx rfl (hb hby at_35) rfl ((if0 _ _).trans (teq qn).2) ?_
        show Steps p.tables e below (T9.setTop (mkF m 38 #[.val (.int p1), .val (.int p2), .val (.int p3), .val (.int p4), .val (.int p5), .val (.int nn), .val (.int u0), .val (.int u1), .val (.int u2), .val (.int u3), .unset, .unset, .unset] [])) _
        refine XS.iconst X9.here hx rfl (hb hby at_38) ?_
        exact Steps.refl _)
      obtain ⟨T12, h12, k12, X12, e12, E12, A12, st12⟩ := newP X9 hx hZ (hw _ (List.mem_of_getElem? (i := 5) rfl)) hh9 (g := (mkF m 39 #[.val (.int p1), .val (.int p2), .val (.int p3), .val (.int p4), .val (.int p5), .val (.int nn), .val (.int u0), .val (.int u1), .val (.int u2), .val (.int u3), .unset, .unset, .unset] [(.int (0 : Int32))])) rfl (hb hby at_39) rfl (by decide) (cap := 0) (by decide) (by decide) (by decide) (by decide)
      obtain ⟨cb, g12⟩ : ∃ z, z = h0.size := ⟨_, rfl⟩
      rw [← g12] at A12 st12
      have g_cb : n0 ≤ cb := Nat.le_trans Z0 (Nat.le_of_eq g12.symm)
      have lt_cb : cb < h12.size := A12.lt
      have F12 : Far Z h12 cb .char (0 : Int32) (fun _ => 0) := Far.new A12 (by decide) rfl
      have Z12 : n0 ≤ h12.size := Nat.le_trans Z0 E12.1
      have pre12 : Steps p.tables e below _ (T12.setTop (mkF m 41 #[.val (.int p1), .val (.int p2), .val (.int p3), .val (.int p4), .val (.int p5), .val (.int nn), .val (.int u0), .val (.int u1), .val (.int u2), .val (.int u3), .unset, .unset, .unset] [(.ref cb)])) := pre11.trans (st12 _ (Steps.refl _))
      have pre13 : Steps p.tables e below _ (T12.setTop (mkF m 143 #[.val (.int p1), .val (.int p2), .val (.int p3), .val (.int p4), .val (.int p5), .val (.int nn), .val (.int u0), .val (.int u1), .val (.int u2), .val (.int u3), .val (.ref cb), .unset, .unset] [])) := pre12.trans (by
        show Steps p.tables e below (T12.setTop (mkF m 41 #[.val (.int p1), .val (.int p2), .val (.int p3), .val (.int p4), .val (.int p5), .val (.int nn), .val (.int u0), .val (.int u1), .val (.int u2), .val (.int u3), .unset, .unset, .unset] [(.ref cb)])) _
        refine XS.astore X12.here hx rfl (hb hby at_41) rfl rfl (l' := #[.val (.int p1), .val (.int p2), .val (.int p3), .val (.int p4), .val (.int p5), .val (.int nn), .val (.int u0), .val (.int u1), .val (.int u2), .val (.int u3), .val (.ref cb), .unset, .unset]) rfl ?_
        show Steps p.tables e below (T12.setTop (mkF m 43 #[.val (.int p1), .val (.int p2), .val (.int p3), .val (.int p4), .val (.int p5), .val (.int nn), .val (.int u0), .val (.int u1), .val (.int u2), .val (.int u3), .val (.ref cb), .unset, .unset] [])) _
        refine XS.goto X12.here hx rfl (pc0 := 43) (pc' := 143) rfl (hb hby at_43) (by decide) (by decide) ?_
        exact Steps.refl _)
      obtain ⟨T14, h14, X14, e14, E14, A14, D14, -, st14⟩ := newO X12 hx hZ hown (hw _ (List.mem_of_getElem? (i := 6) rfl)) (hw _ (List.mem_of_getElem? (i := 7) rfl)) (hw _ (List.mem_of_getElem? (i := 8) rfl)) e12 (g := (mkF m 143 #[.val (.int p1), .val (.int p2), .val (.int p3), .val (.int p4), .val (.int p5), .val (.int nn), .val (.int u0), .val (.int u1), .val (.int u2), .val (.int u3), .val (.ref cb), .unset, .unset] [])) rfl (hb hby at_143) (by decide) (by decide)
      obtain ⟨sb, g14⟩ : ∃ z, z = h12.size := ⟨_, rfl⟩
      rw [← g14] at A14 D14 st14
      have g_sb : n0 ≤ sb := Nat.le_trans Z12 (Nat.le_of_eq g14.symm)
      have Z14 : n0 ≤ h14.size := Nat.le_trans Z12 E14.1
      have pre14 : Steps p.tables e below _ (T14.setTop (mkF m 146 #[.val (.int p1), .val (.int p2), .val (.int p3), .val (.int p4), .val (.int p5), .val (.int nn), .val (.int u0), .val (.int u1), .val (.int u2), .val (.int u3), .val (.ref cb), .unset, .unset] [(.ref sb)])) := pre13.trans (st14 _ (Steps.refl _))
      have F_value_sb : Fld Z h14 sb "java/lang/String" "value" "[B" .null := D14 (Or.inr (hw _ (List.mem_of_getElem? (i := 21) rfl))) (ty := (.array .byte)) (by decide)
      have F_coder_sb : Fld Z h14 sb "java/lang/String" "coder" "B" (.int (0 : Int32)) := D14 (Or.inr (hw _ (List.mem_of_getElem? (i := 22) rfl))) (ty := .byte) (by decide)
      have pre15 : Steps p.tables e below _ (T14.setTop (mkF m 149 #[.val (.int p1), .val (.int p2), .val (.int p3), .val (.int p4), .val (.int p5), .val (.int nn), .val (.int u0), .val (.int u1), .val (.int u2), .val (.int u3), .val (.ref cb), .unset, .unset] [(.ref cb), (.ref sb), (.ref sb)])) := pre14.trans (by
        show Steps p.tables e below (T14.setTop (mkF m 146 #[.val (.int p1), .val (.int p2), .val (.int p3), .val (.int p4), .val (.int p5), .val (.int nn), .val (.int u0), .val (.int u1), .val (.int u2), .val (.int u3), .val (.ref cb), .unset, .unset] [(.ref sb)])) _
        refine XS.dup X14.here hx rfl (hb hby at_146) rfl rfl ?_
        show Steps p.tables e below (T14.setTop (mkF m 147 #[.val (.int p1), .val (.int p2), .val (.int p3), .val (.int p4), .val (.int p5), .val (.int nn), .val (.int u0), .val (.int u1), .val (.int u2), .val (.int u3), .val (.ref cb), .unset, .unset] [(.ref sb), (.ref sb)])) _
        refine XS.aload X14.here hx rfl (hb hby at_147) rfl rfl ?_
        exact Steps.refl _)
      have XV16 : Stand p l e room_1 (s.setVm s.vm) m #[(.int p1), (.int p2), (.int p3), (.int p4), (.int p5)] below meth c T14 _ _ _ := X14
      obtain ⟨_, _, ⟨T16, L16, k16, n16⟩, -, X16, hS16, hg16, ⟨Lc16, hQ16, l16, y16, z16⟩, st16⟩ := XV16.specialBackS hx (y := (⟨"java/lang/String", "<init>", "([C)V"⟩ : MethodName)) rfl hown (mvT hZ (hw _ (List.mem_of_getElem? (i := 9) rfl))) (mvT hZ (hw _ (List.mem_of_getElem? (i := 10) rfl))) (mvT hZ (hw _ (List.mem_of_getElem? (i := 11) rfl))) (by decide) (own_backE (W := 1) (vm0 := s.vm) (rmS1E l Z a0 hw [] sb cb (own_f u0 u1 u2 u3) (fun _ => 0) h14 n0 Z14 A14 F_value_sb F_coder_sb g_sb (F12.ext E14)) hZ (hw _ (List.mem_of_getElem? (i := 11) rfl)) (hw _ (List.mem_of_getElem? (i := 8) rfl)) (by decide) (by decide) (own_EW hw) ((hCH.ext E12).ext E14)) (g := (mkF m 149 #[.val (.int p1), .val (.int p2), .val (.int p3), .val (.int p4), .val (.int p5), .val (.int nn), .val (.int u0), .val (.int u1), .val (.int u2), .val (.int u3), .val (.ref cb), .unset, .unset] [(.ref cb), (.ref sb), (.ref sb)])) rfl (by rw [hml]; rfl) (Steps.refl _) (a := sb) (argsL := [(.ref cb)]) (rest := [(.ref sb)]) (lenOf pd_rm0_1 rfl) rfl (by show 2 * 0 + _ ≤ _; exact Nat.le_of_eq rfl) (hb hby at_149) (fun _ _ => ⟨rfl, e14, (by decide : 2 + 2 ≤ _), (by decide : 4 + 12 ≤ _)⟩)
      dsimp only [Pt.U, Pt.locs, Pt.cells, Pt.slots] at X16 l16 y16 z16 st16 hQ16 hS16 hg16
      subst l16 y16 z16
      obtain ⟨rfl, N16q, K16, SS16⟩ := hQ16
      have N16 := Fr.app N9 N16q
      have hS16 : s.Since T16.vm T16.heap.size := hS16
      have X16 : Stand p l e room_1 (s.setVm T16.vm) m #[(.int p1), (.int p2), (.int p3), (.int p4), (.int p5)] below meth c T16 _ _ _ := X16
      have hZ : Z.Warmed39 (s.setVm T16.vm).vm := State.Warmed39.trans hZ hS16.1
      have hown : (s.setVm T16.vm).vm.findClass "com/example/summarium/summarium/cda/CdaElementsIsWhiteSpacePinLaw" = some m.cls := (hS16.1.alike.findClass _ _).trans hown
      have pre16 : Steps p.tables e below _ (T16.setTop (mkF m 152 #[.val (.int p1), .val (.int p2), .val (.int p3), .val (.int p4), .val (.int p5), .val (.int nn), .val (.int u0), .val (.int u1), .val (.int u2), .val (.int u3), .val (.ref cb), .unset, .unset] [(.ref sb)])) := pre15.trans st16
      exact ⟨T16.vm, T16, _, cb, sb, _, X16.more (show 4 ≤ 4 by decide) (show 16 ≤ 20 by decide), N16, Nat.le_trans Z14 K16.1, hS16, (Nat.le_refl _), hZ, hown, (by rw [qn]; exact SS16), ⟨(Sta.keepN ((SC.ext E12).ext E14) K16 (own_one (Exa.nostat A14))), (Sta.keepN ((SF.ext E12).ext E14) K16 (own_one (Exa.nostat A14))), (Sta.keepN ((SA.ext E12).ext E14) K16 (own_one (Exa.nostat A14))), (Sta.keepN ((SH.ext E12).ext E14) K16 (own_one (Exa.nostat A14))), (Sta.keepN ((SL.ext E12).ext E14) K16 (own_one (Exa.nostat A14)))⟩, pre16⟩
    · have qn := q
      have pre17 : Steps p.tables e below _ (T9.setTop (mkF m 53 #[.val (.int p1), .val (.int p2), .val (.int p3), .val (.int p4), .val (.int p5), .val (.int nn), .val (.int u0), .val (.int u1), .val (.int u2), .val (.int u3), .unset, .unset, .unset] [(.int (1 : Int32))])) := pre10.trans (by
        show Steps p.tables e below (T9.setTop (mkF m 35 #[.val (.int p1), .val (.int p2), .val (.int p3), .val (.int p4), .val (.int p5), .val (.int nn), .val (.int u0), .val (.int u1), .val (.int u2), .val (.int u3), .unset, .unset, .unset] [(.int nn)])) _
        refine XS.ifYes X9.here hx rfl (pc0 := 35) (pc' := 46) rfl (hb hby at_35) rfl ((if0 _ _).trans (feq (by rw [qn]; decide : ¬ nn = (0 : Int32))).2) (by decide) (by decide) ?_
        show Steps p.tables e below (T9.setTop (mkF m 46 #[.val (.int p1), .val (.int p2), .val (.int p3), .val (.int p4), .val (.int p5), .val (.int nn), .val (.int u0), .val (.int u1), .val (.int u2), .val (.int u3), .unset, .unset, .unset] [])) _
        refine XS.iload X9.here hx rfl (hb hby at_46) rfl ?_
        show Steps p.tables e below (T9.setTop (mkF m 48 #[.val (.int p1), .val (.int p2), .val (.int p3), .val (.int p4), .val (.int p5), .val (.int nn), .val (.int u0), .val (.int u1), .val (.int u2), .val (.int u3), .unset, .unset, .unset] [(.int nn)])) _
        refine XS.iconst X9.here hx rfl (hb hby at_48) ?_
        show Steps p.tables e below (T9.setTop (mkF m 49 #[.val (.int p1), .val (.int p2), .val (.int p3), .val (.int p4), .val (.int p5), .val (.int nn), .val (.int u0), .val (.int u1), .val (.int u2), .val (.int u3), .unset, .unset, .unset] [(.int (1 : Int32)), (.int nn)])) _
        refine XS.icmpNo X9.here hx rfl (hb hby at_49) rfl (teq qn).2 ?_
        show Steps p.tables e below (T9.setTop (mkF m 52 #[.val (.int p1), .val (.int p2), .val (.int p3), .val (.int p4), .val (.int p5), .val (.int nn), .val (.int u0), .val (.int u1), .val (.int u2), .val (.int u3), .unset, .unset, .unset] [])) _
        refine XS.iconst X9.here hx rfl (hb hby at_52) ?_
        exact Steps.refl _)
      obtain ⟨T18, h18, k18, X18, e18, E18, A18, st18⟩ := newP X9 hx hZ (hw _ (List.mem_of_getElem? (i := 5) rfl)) hh9 (g := (mkF m 53 #[.val (.int p1), .val (.int p2), .val (.int p3), .val (.int p4), .val (.int p5), .val (.int nn), .val (.int u0), .val (.int u1), .val (.int u2), .val (.int u3), .unset, .unset, .unset] [(.int (1 : Int32))])) rfl (hb hby at_53) rfl (by decide) (cap := 1) (by decide) (by decide) (by decide) (by decide)
      obtain ⟨cb, g18⟩ : ∃ z, z = h0.size := ⟨_, rfl⟩
      rw [← g18] at A18 st18
      have g_cb : n0 ≤ cb := Nat.le_trans Z0 (Nat.le_of_eq g18.symm)
      have lt_cb : cb < h18.size := A18.lt
      have F18 : Far Z h18 cb .char (1 : Int32) (fun _ => 0) := Far.new A18 (by decide) rfl
      have Z18 : n0 ≤ h18.size := Nat.le_trans Z0 E18.1
      have pre18 : Steps p.tables e below _ (T18.setTop (mkF m 55 #[.val (.int p1), .val (.int p2), .val (.int p3), .val (.int p4), .val (.int p5), .val (.int nn), .val (.int u0), .val (.int u1), .val (.int u2), .val (.int u3), .unset, .unset, .unset] [(.ref cb)])) := pre17.trans (st18 _ (Steps.refl _))
      have pre19 : Steps p.tables e below _ (T18.setTop (mkF m 59 #[.val (.int p1), .val (.int p2), .val (.int p3), .val (.int p4), .val (.int p5), .val (.int nn), .val (.int u0), .val (.int u1), .val (.int u2), .val (.int u3), .unset, .unset, .unset] [(.int u0), (.int (0 : Int32)), (.ref cb), (.ref cb)])) := pre18.trans (by
        show Steps p.tables e below (T18.setTop (mkF m 55 #[.val (.int p1), .val (.int p2), .val (.int p3), .val (.int p4), .val (.int p5), .val (.int nn), .val (.int u0), .val (.int u1), .val (.int u2), .val (.int u3), .unset, .unset, .unset] [(.ref cb)])) _
        refine XS.dup X18.here hx rfl (hb hby at_55) rfl rfl ?_
        show Steps p.tables e below (T18.setTop (mkF m 56 #[.val (.int p1), .val (.int p2), .val (.int p3), .val (.int p4), .val (.int p5), .val (.int nn), .val (.int u0), .val (.int u1), .val (.int u2), .val (.int u3), .unset, .unset, .unset] [(.ref cb), (.ref cb)])) _
        refine XS.iconst X18.here hx rfl (hb hby at_56) ?_
        show Steps p.tables e below (T18.setTop (mkF m 57 #[.val (.int p1), .val (.int p2), .val (.int p3), .val (.int p4), .val (.int p5), .val (.int nn), .val (.int u0), .val (.int u1), .val (.int u2), .val (.int u3), .unset, .unset, .unset] [(.int (0 : Int32)), (.ref cb), (.ref cb)])) _
        refine XS.iload X18.here hx rfl (hb hby at_57) rfl ?_
        exact Steps.refl _)
      obtain ⟨cl20, Ar20, S20, M20, H20⟩ := id F18
      have hin20 : ¬ ((0 : Int32) < 0 ∨ cl20.slots.size ≤ ((0 : Int32)).toNatClampNeg) := inb_of S20 ⟨by decide, by decide⟩
      obtain ⟨T20, h20, X20, e20, W20, st20⟩ := stC X18 hx hZ e18 Ar20 (j := (0 : Int32)) hin20 (g := (mkF m 59 #[.val (.int p1), .val (.int p2), .val (.int p3), .val (.int p4), .val (.int p5), .val (.int nn), .val (.int u0), .val (.int u1), .val (.int u2), .val (.int u3), .unset, .unset, .unset] [(.int u0), (.int (0 : Int32)), (.ref cb), (.ref cb)])) rfl rfl (hb hby at_59)
      have F20 := Far.set Ar20 S20 M20 H20 W20
      have N20 := Fr.snoc X20 N9 g_cb
      have Z20 : n0 ≤ h20.size := Nat.le_trans Z18 (Keep.of_wr W20).1
      have pre20 : Steps p.tables e below _ (T20.setTop (mkF m 60 #[.val (.int p1), .val (.int p2), .val (.int p3), .val (.int p4), .val (.int p5), .val (.int nn), .val (.int u0), .val (.int u1), .val (.int u2), .val (.int u3), .unset, .unset, .unset] [(.ref cb)])) := pre19.trans (st20 _ (Steps.refl _))
      have FCH : Far Z h20 cb .char (1 : Int32) (own_f u0 u1 u2 u3) := F20.congr (fun k hk => by
          have e : (1 : Int32).toNatClampNeg = 1 := by decide
          rw [e] at hk
          obtain rfl : k = 0 := by omega
          exact own_ncc u0 hu0)
      have pre21 : Steps p.tables e below _ (T20.setTop (mkF m 143 #[.val (.int p1), .val (.int p2), .val (.int p3), .val (.int p4), .val (.int p5), .val (.int nn), .val (.int u0), .val (.int u1), .val (.int u2), .val (.int u3), .val (.ref cb), .unset, .unset] [])) := pre20.trans (by
        show Steps p.tables e below (T20.setTop (mkF m 60 #[.val (.int p1), .val (.int p2), .val (.int p3), .val (.int p4), .val (.int p5), .val (.int nn), .val (.int u0), .val (.int u1), .val (.int u2), .val (.int u3), .unset, .unset, .unset] [(.ref cb)])) _
        refine XS.astore X20.here hx rfl (hb hby at_60) rfl rfl (l' := #[.val (.int p1), .val (.int p2), .val (.int p3), .val (.int p4), .val (.int p5), .val (.int nn), .val (.int u0), .val (.int u1), .val (.int u2), .val (.int u3), .val (.ref cb), .unset, .unset]) rfl ?_
        show Steps p.tables e below (T20.setTop (mkF m 62 #[.val (.int p1), .val (.int p2), .val (.int p3), .val (.int p4), .val (.int p5), .val (.int nn), .val (.int u0), .val (.int u1), .val (.int u2), .val (.int u3), .val (.ref cb), .unset, .unset] [])) _
        refine XS.goto X20.here hx rfl (pc0 := 62) (pc' := 143) rfl (hb hby at_62) (by decide) (by decide) ?_
        exact Steps.refl _)
      obtain ⟨T22, h22, X22, e22, E22, A22, D22, -, st22⟩ := newO X20 hx hZ hown (hw _ (List.mem_of_getElem? (i := 6) rfl)) (hw _ (List.mem_of_getElem? (i := 7) rfl)) (hw _ (List.mem_of_getElem? (i := 8) rfl)) e20 (g := (mkF m 143 #[.val (.int p1), .val (.int p2), .val (.int p3), .val (.int p4), .val (.int p5), .val (.int nn), .val (.int u0), .val (.int u1), .val (.int u2), .val (.int u3), .val (.ref cb), .unset, .unset] [])) rfl (hb hby at_143) (by decide) (by decide)
      obtain ⟨sb, g22⟩ : ∃ z, z = h20.size := ⟨_, rfl⟩
      rw [← g22] at A22 D22 st22
      have g_sb : n0 ≤ sb := Nat.le_trans Z20 (Nat.le_of_eq g22.symm)
      have Z22 : n0 ≤ h22.size := Nat.le_trans Z20 E22.1
      have pre22 : Steps p.tables e below _ (T22.setTop (mkF m 146 #[.val (.int p1), .val (.int p2), .val (.int p3), .val (.int p4), .val (.int p5), .val (.int nn), .val (.int u0), .val (.int u1), .val (.int u2), .val (.int u3), .val (.ref cb), .unset, .unset] [(.ref sb)])) := pre21.trans (st22 _ (Steps.refl _))
      have F_value_sb : Fld Z h22 sb "java/lang/String" "value" "[B" .null := D22 (Or.inr (hw _ (List.mem_of_getElem? (i := 21) rfl))) (ty := (.array .byte)) (by decide)
      have F_coder_sb : Fld Z h22 sb "java/lang/String" "coder" "B" (.int (0 : Int32)) := D22 (Or.inr (hw _ (List.mem_of_getElem? (i := 22) rfl))) (ty := .byte) (by decide)
      have pre23 : Steps p.tables e below _ (T22.setTop (mkF m 149 #[.val (.int p1), .val (.int p2), .val (.int p3), .val (.int p4), .val (.int p5), .val (.int nn), .val (.int u0), .val (.int u1), .val (.int u2), .val (.int u3), .val (.ref cb), .unset, .unset] [(.ref cb), (.ref sb), (.ref sb)])) := pre22.trans (by
        show Steps p.tables e below (T22.setTop (mkF m 146 #[.val (.int p1), .val (.int p2), .val (.int p3), .val (.int p4), .val (.int p5), .val (.int nn), .val (.int u0), .val (.int u1), .val (.int u2), .val (.int u3), .val (.ref cb), .unset, .unset] [(.ref sb)])) _
        refine XS.dup X22.here hx rfl (hb hby at_146) rfl rfl ?_
        show Steps p.tables e below (T22.setTop (mkF m 147 #[.val (.int p1), .val (.int p2), .val (.int p3), .val (.int p4), .val (.int p5), .val (.int nn), .val (.int u0), .val (.int u1), .val (.int u2), .val (.int u3), .val (.ref cb), .unset, .unset] [(.ref sb), (.ref sb)])) _
        refine XS.aload X22.here hx rfl (hb hby at_147) rfl rfl ?_
        exact Steps.refl _)
      obtain ⟨_, _, ⟨T24, L24, k24, n24⟩, -, X24, ⟨Lc24, hQ24, l24, y24, z24⟩, st24⟩ := X22.specialBack hx (y := (⟨"java/lang/String", "<init>", "([C)V"⟩ : MethodName)) rfl hown (mvT hZ (hw _ (List.mem_of_getElem? (i := 9) rfl))) (mvT hZ (hw _ (List.mem_of_getElem? (i := 10) rfl))) (mvT hZ (hw _ (List.mem_of_getElem? (i := 11) rfl))) (by decide) (backOf (W := 1) (rmS1 l Z a0 hw [] sb cb (1 : Int32) (own_f u0 u1 u2 u3) cs h22 n0 Z22 (by decide) (by decide) A22 F_value_sb F_coder_sb g_sb (FCH.ext E22) hchf (((SC.ext E18).wr W20).ext E22) hcs (((SA.ext E18).wr W20).ext E22) (((SH.ext E18).wr W20).ext E22) (((SL.ext E18).wr W20).ext E22)) hZ (hw _ (List.mem_of_getElem? (i := 11) rfl)) (hw _ (List.mem_of_getElem? (i := 8) rfl)) (by decide) (by decide)) (g := (mkF m 149 #[.val (.int p1), .val (.int p2), .val (.int p3), .val (.int p4), .val (.int p5), .val (.int nn), .val (.int u0), .val (.int u1), .val (.int u2), .val (.int u3), .val (.ref cb), .unset, .unset] [(.ref cb), (.ref sb), (.ref sb)])) rfl (by rw [hml]; rfl) (Steps.refl _) (a := sb) (argsL := [(.ref cb)]) (rest := [(.ref sb)]) (lenOf pd_rm0_1 rfl) rfl (by show 2 * 0 + _ ≤ _; exact Nat.le_of_eq rfl) (hb hby at_149) (fun _ _ => ⟨rfl, e22, (by decide : 2 + 2 ≤ _), (by decide : 5 + 12 ≤ _)⟩)
      dsimp only [Pt.U, Pt.locs, Pt.cells, Pt.slots] at X24 l24 y24 z24 st24 hQ24
      subst l24 y24 z24
      obtain ⟨rfl, N24q, K24, SS24⟩ := hQ24
      have N24 := Fr.app N20 N24q
      have pre24 : Steps p.tables e below _ (T24.setTop (mkF m 152 #[.val (.int p1), .val (.int p2), .val (.int p3), .val (.int p4), .val (.int p5), .val (.int nn), .val (.int u0), .val (.int u1), .val (.int u2), .val (.int u3), .val (.ref cb), .unset, .unset] [(.ref sb)])) := pre23.trans (st24)
      exact ⟨s.vm, T24, _, cb, sb, 0, X24.more (show 4 ≤ 4 by decide) (show 17 ≤ 20 by decide), N24, Nat.le_trans Z22 K24.1, ((State.WarmedH.refl s).since 0), (Nat.zero_le _), hZ, hown, (by rw [qn]; exact SS24), ⟨(Sta.keepN (((SC.ext E18).wr W20).ext E22) K24 (own_one (Exa.nostat A22))), (Sta.keepN (((SF.ext E18).wr W20).ext E22) K24 (own_one (Exa.nostat A22))), (Sta.keepN (((SA.ext E18).wr W20).ext E22) K24 (own_one (Exa.nostat A22))), (Sta.keepN (((SH.ext E18).wr W20).ext E22) K24 (own_one (Exa.nostat A22))), (Sta.keepN (((SL.ext E18).wr W20).ext E22) K24 (own_one (Exa.nostat A22)))⟩, pre24⟩
    · have qn := q
      have pre25 : Steps p.tables e below _ (T9.setTop (mkF m 72 #[.val (.int p1), .val (.int p2), .val (.int p3), .val (.int p4), .val (.int p5), .val (.int nn), .val (.int u0), .val (.int u1), .val (.int u2), .val (.int u3), .unset, .unset, .unset] [(.int (2 : Int32))])) := pre10.trans (by
        show Steps p.tables e below (T9.setTop (mkF m 35 #[.val (.int p1), .val (.int p2), .val (.int p3), .val (.int p4), .val (.int p5), .val (.int nn), .val (.int u0), .val (.int u1), .val (.int u2), .val (.int u3), .unset, .unset, .unset] [(.int nn)])) _
        refine XS.ifYes X9.here hx rfl (pc0 := 35) (pc' := 46) rfl (hb hby at_35) rfl ((if0 _ _).trans (feq (by rw [qn]; decide : ¬ nn = (0 : Int32))).2) (by decide) (by decide) ?_
        show Steps p.tables e below (T9.setTop (mkF m 46 #[.val (.int p1), .val (.int p2), .val (.int p3), .val (.int p4), .val (.int p5), .val (.int nn), .val (.int u0), .val (.int u1), .val (.int u2), .val (.int u3), .unset, .unset, .unset] [])) _
        refine XS.iload X9.here hx rfl (hb hby at_46) rfl ?_
        show Steps p.tables e below (T9.setTop (mkF m 48 #[.val (.int p1), .val (.int p2), .val (.int p3), .val (.int p4), .val (.int p5), .val (.int nn), .val (.int u0), .val (.int u1), .val (.int u2), .val (.int u3), .unset, .unset, .unset] [(.int nn)])) _
        refine XS.iconst X9.here hx rfl (hb hby at_48) ?_
        show Steps p.tables e below (T9.setTop (mkF m 49 #[.val (.int p1), .val (.int p2), .val (.int p3), .val (.int p4), .val (.int p5), .val (.int nn), .val (.int u0), .val (.int u1), .val (.int u2), .val (.int u3), .unset, .unset, .unset] [(.int (1 : Int32)), (.int nn)])) _
        refine XS.icmpYes X9.here hx rfl (pc0 := 49) (pc' := 65) rfl (hb hby at_49) rfl (feq (by rw [qn]; decide : ¬ nn = (1 : Int32))).2 (by decide) (by decide) ?_
        show Steps p.tables e below (T9.setTop (mkF m 65 #[.val (.int p1), .val (.int p2), .val (.int p3), .val (.int p4), .val (.int p5), .val (.int nn), .val (.int u0), .val (.int u1), .val (.int u2), .val (.int u3), .unset, .unset, .unset] [])) _
        refine XS.iload X9.here hx rfl (hb hby at_65) rfl ?_
        show Steps p.tables e below (T9.setTop (mkF m 67 #[.val (.int p1), .val (.int p2), .val (.int p3), .val (.int p4), .val (.int p5), .val (.int nn), .val (.int u0), .val (.int u1), .val (.int u2), .val (.int u3), .unset, .unset, .unset] [(.int nn)])) _
        refine XS.iconst X9.here hx rfl (hb hby at_67) ?_
        show Steps p.tables e below (T9.setTop (mkF m 68 #[.val (.int p1), .val (.int p2), .val (.int p3), .val (.int p4), .val (.int p5), .val (.int nn), .val (.int u0), .val (.int u1), .val (.int u2), .val (.int u3), .unset, .unset, .unset] [(.int (2 : Int32)), (.int nn)])) _
        refine XS.icmpNo X9.here hx rfl (hb hby at_68) rfl (teq qn).2 ?_
        show Steps p.tables e below (T9.setTop (mkF m 71 #[.val (.int p1), .val (.int p2), .val (.int p3), .val (.int p4), .val (.int p5), .val (.int nn), .val (.int u0), .val (.int u1), .val (.int u2), .val (.int u3), .unset, .unset, .unset] [])) _
        refine XS.iconst X9.here hx rfl (hb hby at_71) ?_
        exact Steps.refl _)
      obtain ⟨T26, h26, k26, X26, e26, E26, A26, st26⟩ := newP X9 hx hZ (hw _ (List.mem_of_getElem? (i := 5) rfl)) hh9 (g := (mkF m 72 #[.val (.int p1), .val (.int p2), .val (.int p3), .val (.int p4), .val (.int p5), .val (.int nn), .val (.int u0), .val (.int u1), .val (.int u2), .val (.int u3), .unset, .unset, .unset] [(.int (2 : Int32))])) rfl (hb hby at_72) rfl (by decide) (cap := 2) (by decide) (by decide) (by decide) (by decide)
      obtain ⟨cb, g26⟩ : ∃ z, z = h0.size := ⟨_, rfl⟩
      rw [← g26] at A26 st26
      have g_cb : n0 ≤ cb := Nat.le_trans Z0 (Nat.le_of_eq g26.symm)
      have lt_cb : cb < h26.size := A26.lt
      have F26 : Far Z h26 cb .char (2 : Int32) (fun _ => 0) := Far.new A26 (by decide) rfl
      have Z26 : n0 ≤ h26.size := Nat.le_trans Z0 E26.1
      have pre26 : Steps p.tables e below _ (T26.setTop (mkF m 74 #[.val (.int p1), .val (.int p2), .val (.int p3), .val (.int p4), .val (.int p5), .val (.int nn), .val (.int u0), .val (.int u1), .val (.int u2), .val (.int u3), .unset, .unset, .unset] [(.ref cb)])) := pre25.trans (st26 _ (Steps.refl _))
      have pre27 : Steps p.tables e below _ (T26.setTop (mkF m 78 #[.val (.int p1), .val (.int p2), .val (.int p3), .val (.int p4), .val (.int p5), .val (.int nn), .val (.int u0), .val (.int u1), .val (.int u2), .val (.int u3), .unset, .unset, .unset] [(.int u0), (.int (0 : Int32)), (.ref cb), (.ref cb)])) := pre26.trans (by
        show Steps p.tables e below (T26.setTop (mkF m 74 #[.val (.int p1), .val (.int p2), .val (.int p3), .val (.int p4), .val (.int p5), .val (.int nn), .val (.int u0), .val (.int u1), .val (.int u2), .val (.int u3), .unset, .unset, .unset] [(.ref cb)])) _
        refine XS.dup X26.here hx rfl (hb hby at_74) rfl rfl ?_
        show Steps p.tables e below (T26.setTop (mkF m 75 #[.val (.int p1), .val (.int p2), .val (.int p3), .val (.int p4), .val (.int p5), .val (.int nn), .val (.int u0), .val (.int u1), .val (.int u2), .val (.int u3), .unset, .unset, .unset] [(.ref cb), (.ref cb)])) _
        refine XS.iconst X26.here hx rfl (hb hby at_75) ?_
        show Steps p.tables e below (T26.setTop (mkF m 76 #[.val (.int p1), .val (.int p2), .val (.int p3), .val (.int p4), .val (.int p5), .val (.int nn), .val (.int u0), .val (.int u1), .val (.int u2), .val (.int u3), .unset, .unset, .unset] [(.int (0 : Int32)), (.ref cb), (.ref cb)])) _
        refine XS.iload X26.here hx rfl (hb hby at_76) rfl ?_
        exact Steps.refl _)
      obtain ⟨cl28, Ar28, S28, M28, H28⟩ := id F26
      have hin28 : ¬ ((0 : Int32) < 0 ∨ cl28.slots.size ≤ ((0 : Int32)).toNatClampNeg) := inb_of S28 ⟨by decide, by decide⟩
      obtain ⟨T28, h28, X28, e28, W28, st28⟩ := stC X26 hx hZ e26 Ar28 (j := (0 : Int32)) hin28 (g := (mkF m 78 #[.val (.int p1), .val (.int p2), .val (.int p3), .val (.int p4), .val (.int p5), .val (.int nn), .val (.int u0), .val (.int u1), .val (.int u2), .val (.int u3), .unset, .unset, .unset] [(.int u0), (.int (0 : Int32)), (.ref cb), (.ref cb)])) rfl rfl (hb hby at_78)
      have F28 := Far.set Ar28 S28 M28 H28 W28
      have N28 := Fr.snoc X28 N9 g_cb
      have Z28 : n0 ≤ h28.size := Nat.le_trans Z26 (Keep.of_wr W28).1
      have pre28 : Steps p.tables e below _ (T28.setTop (mkF m 79 #[.val (.int p1), .val (.int p2), .val (.int p3), .val (.int p4), .val (.int p5), .val (.int nn), .val (.int u0), .val (.int u1), .val (.int u2), .val (.int u3), .unset, .unset, .unset] [(.ref cb)])) := pre27.trans (st28 _ (Steps.refl _))
      have pre29 : Steps p.tables e below _ (T28.setTop (mkF m 83 #[.val (.int p1), .val (.int p2), .val (.int p3), .val (.int p4), .val (.int p5), .val (.int nn), .val (.int u0), .val (.int u1), .val (.int u2), .val (.int u3), .unset, .unset, .unset] [(.int u1), (.int (1 : Int32)), (.ref cb), (.ref cb)])) := pre28.trans (by
        show Steps p.tables e below (T28.setTop (mkF m 79 #[.val (.int p1), .val (.int p2), .val (.int p3), .val (.int p4), .val (.int p5), .val (.int nn), .val (.int u0), .val (.int u1), .val (.int u2), .val (.int u3), .unset, .unset, .unset] [(.ref cb)])) _
        refine XS.dup X28.here hx rfl (hb hby at_79) rfl rfl ?_
        show Steps p.tables e below (T28.setTop (mkF m 80 #[.val (.int p1), .val (.int p2), .val (.int p3), .val (.int p4), .val (.int p5), .val (.int nn), .val (.int u0), .val (.int u1), .val (.int u2), .val (.int u3), .unset, .unset, .unset] [(.ref cb), (.ref cb)])) _
        refine XS.iconst X28.here hx rfl (hb hby at_80) ?_
        show Steps p.tables e below (T28.setTop (mkF m 81 #[.val (.int p1), .val (.int p2), .val (.int p3), .val (.int p4), .val (.int p5), .val (.int nn), .val (.int u0), .val (.int u1), .val (.int u2), .val (.int u3), .unset, .unset, .unset] [(.int (1 : Int32)), (.ref cb), (.ref cb)])) _
        refine XS.iload X28.here hx rfl (hb hby at_81) rfl ?_
        exact Steps.refl _)
      obtain ⟨cl30, Ar30, S30, M30, H30⟩ := id F28
      have hin30 : ¬ ((1 : Int32) < 0 ∨ cl30.slots.size ≤ ((1 : Int32)).toNatClampNeg) := inb_of S30 ⟨by decide, by decide⟩
      obtain ⟨T30, h30, X30, e30, W30, st30⟩ := stC X28 hx hZ e28 Ar30 (j := (1 : Int32)) hin30 (g := (mkF m 83 #[.val (.int p1), .val (.int p2), .val (.int p3), .val (.int p4), .val (.int p5), .val (.int nn), .val (.int u0), .val (.int u1), .val (.int u2), .val (.int u3), .unset, .unset, .unset] [(.int u1), (.int (1 : Int32)), (.ref cb), (.ref cb)])) rfl rfl (hb hby at_83)
      have F30 := Far.set Ar30 S30 M30 H30 W30
      have N30 := Fr.snoc X30 N28 g_cb
      have Z30 : n0 ≤ h30.size := Nat.le_trans Z28 (Keep.of_wr W30).1
      have pre30 : Steps p.tables e below _ (T30.setTop (mkF m 84 #[.val (.int p1), .val (.int p2), .val (.int p3), .val (.int p4), .val (.int p5), .val (.int nn), .val (.int u0), .val (.int u1), .val (.int u2), .val (.int u3), .unset, .unset, .unset] [(.ref cb)])) := pre29.trans (st30 _ (Steps.refl _))
      have FCH : Far Z h30 cb .char (2 : Int32) (own_f u0 u1 u2 u3) := F30.congr (fun k hk => by
          have e : (2 : Int32).toNatClampNeg = 2 := by decide
          rw [e] at hk
          have q : k = 0 ∨ k = 1 := by omega
          rcases q with rfl | rfl
          · exact own_ncc u0 hu0
          · exact own_ncc u1 hu1)
      have pre31 : Steps p.tables e below _ (T30.setTop (mkF m 143 #[.val (.int p1), .val (.int p2), .val (.int p3), .val (.int p4), .val (.int p5), .val (.int nn), .val (.int u0), .val (.int u1), .val (.int u2), .val (.int u3), .val (.ref cb), .unset, .unset] [])) := pre30.trans (by
        show Steps p.tables e below (T30.setTop (mkF m 84 #[.val (.int p1), .val (.int p2), .val (.int p3), .val (.int p4), .val (.int p5), .val (.int nn), .val (.int u0), .val (.int u1), .val (.int u2), .val (.int u3), .unset, .unset, .unset] [(.ref cb)])) _
        refine XS.astore X30.here hx rfl (hb hby at_84) rfl rfl (l' := #[.val (.int p1), .val (.int p2), .val (.int p3), .val (.int p4), .val (.int p5), .val (.int nn), .val (.int u0), .val (.int u1), .val (.int u2), .val (.int u3), .val (.ref cb), .unset, .unset]) rfl ?_
        show Steps p.tables e below (T30.setTop (mkF m 86 #[.val (.int p1), .val (.int p2), .val (.int p3), .val (.int p4), .val (.int p5), .val (.int nn), .val (.int u0), .val (.int u1), .val (.int u2), .val (.int u3), .val (.ref cb), .unset, .unset] [])) _
        refine XS.goto X30.here hx rfl (pc0 := 86) (pc' := 143) rfl (hb hby at_86) (by decide) (by decide) ?_
        exact Steps.refl _)
      obtain ⟨T32, h32, X32, e32, E32, A32, D32, -, st32⟩ := newO X30 hx hZ hown (hw _ (List.mem_of_getElem? (i := 6) rfl)) (hw _ (List.mem_of_getElem? (i := 7) rfl)) (hw _ (List.mem_of_getElem? (i := 8) rfl)) e30 (g := (mkF m 143 #[.val (.int p1), .val (.int p2), .val (.int p3), .val (.int p4), .val (.int p5), .val (.int nn), .val (.int u0), .val (.int u1), .val (.int u2), .val (.int u3), .val (.ref cb), .unset, .unset] [])) rfl (hb hby at_143) (by decide) (by decide)
      obtain ⟨sb, g32⟩ : ∃ z, z = h30.size := ⟨_, rfl⟩
      rw [← g32] at A32 D32 st32
      have g_sb : n0 ≤ sb := Nat.le_trans Z30 (Nat.le_of_eq g32.symm)
      have Z32 : n0 ≤ h32.size := Nat.le_trans Z30 E32.1
      have pre32 : Steps p.tables e below _ (T32.setTop (mkF m 146 #[.val (.int p1), .val (.int p2), .val (.int p3), .val (.int p4), .val (.int p5), .val (.int nn), .val (.int u0), .val (.int u1), .val (.int u2), .val (.int u3), .val (.ref cb), .unset, .unset] [(.ref sb)])) := pre31.trans (st32 _ (Steps.refl _))
      have F_value_sb : Fld Z h32 sb "java/lang/String" "value" "[B" .null := D32 (Or.inr (hw _ (List.mem_of_getElem? (i := 21) rfl))) (ty := (.array .byte)) (by decide)
      have F_coder_sb : Fld Z h32 sb "java/lang/String" "coder" "B" (.int (0 : Int32)) := D32 (Or.inr (hw _ (List.mem_of_getElem? (i := 22) rfl))) (ty := .byte) (by decide)
      have pre33 : Steps p.tables e below _ (T32.setTop (mkF m 149 #[.val (.int p1), .val (.int p2), .val (.int p3), .val (.int p4), .val (.int p5), .val (.int nn), .val (.int u0), .val (.int u1), .val (.int u2), .val (.int u3), .val (.ref cb), .unset, .unset] [(.ref cb), (.ref sb), (.ref sb)])) := pre32.trans (by
        show Steps p.tables e below (T32.setTop (mkF m 146 #[.val (.int p1), .val (.int p2), .val (.int p3), .val (.int p4), .val (.int p5), .val (.int nn), .val (.int u0), .val (.int u1), .val (.int u2), .val (.int u3), .val (.ref cb), .unset, .unset] [(.ref sb)])) _
        refine XS.dup X32.here hx rfl (hb hby at_146) rfl rfl ?_
        show Steps p.tables e below (T32.setTop (mkF m 147 #[.val (.int p1), .val (.int p2), .val (.int p3), .val (.int p4), .val (.int p5), .val (.int nn), .val (.int u0), .val (.int u1), .val (.int u2), .val (.int u3), .val (.ref cb), .unset, .unset] [(.ref sb), (.ref sb)])) _
        refine XS.aload X32.here hx rfl (hb hby at_147) rfl rfl ?_
        exact Steps.refl _)
      obtain ⟨_, _, ⟨T34, L34, k34, n34⟩, -, X34, ⟨Lc34, hQ34, l34, y34, z34⟩, st34⟩ := X32.specialBack hx (y := (⟨"java/lang/String", "<init>", "([C)V"⟩ : MethodName)) rfl hown (mvT hZ (hw _ (List.mem_of_getElem? (i := 9) rfl))) (mvT hZ (hw _ (List.mem_of_getElem? (i := 10) rfl))) (mvT hZ (hw _ (List.mem_of_getElem? (i := 11) rfl))) (by decide) (backOf (W := 1) (rmS1 l Z a0 hw [] sb cb (2 : Int32) (own_f u0 u1 u2 u3) cs h32 n0 Z32 (by decide) (by decide) A32 F_value_sb F_coder_sb g_sb (FCH.ext E32) hchf ((((SC.ext E26).wr W28).wr W30).ext E32) hcs ((((SA.ext E26).wr W28).wr W30).ext E32) ((((SH.ext E26).wr W28).wr W30).ext E32) ((((SL.ext E26).wr W28).wr W30).ext E32)) hZ (hw _ (List.mem_of_getElem? (i := 11) rfl)) (hw _ (List.mem_of_getElem? (i := 8) rfl)) (by decide) (by decide)) (g := (mkF m 149 #[.val (.int p1), .val (.int p2), .val (.int p3), .val (.int p4), .val (.int p5), .val (.int nn), .val (.int u0), .val (.int u1), .val (.int u2), .val (.int u3), .val (.ref cb), .unset, .unset] [(.ref cb), (.ref sb), (.ref sb)])) rfl (by rw [hml]; rfl) (Steps.refl _) (a := sb) (argsL := [(.ref cb)]) (rest := [(.ref sb)]) (lenOf pd_rm0_1 rfl) rfl (by show 2 * 0 + _ ≤ _; exact Nat.le_of_eq rfl) (hb hby at_149) (fun _ _ => ⟨rfl, e32, (by decide : 2 + 2 ≤ _), (by decide : 6 + 12 ≤ _)⟩)
      dsimp only [Pt.U, Pt.locs, Pt.cells, Pt.slots] at X34 l34 y34 z34 st34 hQ34
      subst l34 y34 z34
      obtain ⟨rfl, N34q, K34, SS34⟩ := hQ34
      have N34 := Fr.app N30 N34q
      have pre34 : Steps p.tables e below _ (T34.setTop (mkF m 152 #[.val (.int p1), .val (.int p2), .val (.int p3), .val (.int p4), .val (.int p5), .val (.int nn), .val (.int u0), .val (.int u1), .val (.int u2), .val (.int u3), .val (.ref cb), .unset, .unset] [(.ref sb)])) := pre33.trans (st34)
      exact ⟨s.vm, T34, _, cb, sb, 0, X34.more (show 4 ≤ 4 by decide) (show 18 ≤ 20 by decide), N34, Nat.le_trans Z32 K34.1, ((State.WarmedH.refl s).since 0), (Nat.zero_le _), hZ, hown, (by rw [qn]; exact SS34), ⟨(Sta.keepN ((((SC.ext E26).wr W28).wr W30).ext E32) K34 (own_one (Exa.nostat A32))), (Sta.keepN ((((SF.ext E26).wr W28).wr W30).ext E32) K34 (own_one (Exa.nostat A32))), (Sta.keepN ((((SA.ext E26).wr W28).wr W30).ext E32) K34 (own_one (Exa.nostat A32))), (Sta.keepN ((((SH.ext E26).wr W28).wr W30).ext E32) K34 (own_one (Exa.nostat A32))), (Sta.keepN ((((SL.ext E26).wr W28).wr W30).ext E32) K34 (own_one (Exa.nostat A32)))⟩, pre34⟩
    · have qn := q
      have pre35 : Steps p.tables e below _ (T9.setTop (mkF m 96 #[.val (.int p1), .val (.int p2), .val (.int p3), .val (.int p4), .val (.int p5), .val (.int nn), .val (.int u0), .val (.int u1), .val (.int u2), .val (.int u3), .unset, .unset, .unset] [(.int (3 : Int32))])) := pre10.trans (by
        show Steps p.tables e below (T9.setTop (mkF m 35 #[.val (.int p1), .val (.int p2), .val (.int p3), .val (.int p4), .val (.int p5), .val (.int nn), .val (.int u0), .val (.int u1), .val (.int u2), .val (.int u3), .unset, .unset, .unset] [(.int nn)])) _
        refine XS.ifYes X9.here hx rfl (pc0 := 35) (pc' := 46) rfl (hb hby at_35) rfl ((if0 _ _).trans (feq (by rw [qn]; decide : ¬ nn = (0 : Int32))).2) (by decide) (by decide) ?_
        show Steps p.tables e below (T9.setTop (mkF m 46 #[.val (.int p1), .val (.int p2), .val (.int p3), .val (.int p4), .val (.int p5), .val (.int nn), .val (.int u0), .val (.int u1), .val (.int u2), .val (.int u3), .unset, .unset, .unset] [])) _
        refine XS.iload X9.here hx rfl (hb hby at_46) rfl ?_
        show Steps p.tables e below (T9.setTop (mkF m 48 #[.val (.int p1), .val (.int p2), .val (.int p3), .val (.int p4), .val (.int p5), .val (.int nn), .val (.int u0), .val (.int u1), .val (.int u2), .val (.int u3), .unset, .unset, .unset] [(.int nn)])) _
        refine XS.iconst X9.here hx rfl (hb hby at_48) ?_
        show Steps p.tables e below (T9.setTop (mkF m 49 #[.val (.int p1), .val (.int p2), .val (.int p3), .val (.int p4), .val (.int p5), .val (.int nn), .val (.int u0), .val (.int u1), .val (.int u2), .val (.int u3), .unset, .unset, .unset] [(.int (1 : Int32)), (.int nn)])) _
        refine XS.icmpYes X9.here hx rfl (pc0 := 49) (pc' := 65) rfl (hb hby at_49) rfl (feq (by rw [qn]; decide : ¬ nn = (1 : Int32))).2 (by decide) (by decide) ?_
        show Steps p.tables e below (T9.setTop (mkF m 65 #[.val (.int p1), .val (.int p2), .val (.int p3), .val (.int p4), .val (.int p5), .val (.int nn), .val (.int u0), .val (.int u1), .val (.int u2), .val (.int u3), .unset, .unset, .unset] [])) _
        refine XS.iload X9.here hx rfl (hb hby at_65) rfl ?_
        show Steps p.tables e below (T9.setTop (mkF m 67 #[.val (.int p1), .val (.int p2), .val (.int p3), .val (.int p4), .val (.int p5), .val (.int nn), .val (.int u0), .val (.int u1), .val (.int u2), .val (.int u3), .unset, .unset, .unset] [(.int nn)])) _
        refine XS.iconst X9.here hx rfl (hb hby at_67) ?_
        show Steps p.tables e below (T9.setTop (mkF m 68 #[.val (.int p1), .val (.int p2), .val (.int p3), .val (.int p4), .val (.int p5), .val (.int nn), .val (.int u0), .val (.int u1), .val (.int u2), .val (.int u3), .unset, .unset, .unset] [(.int (2 : Int32)), (.int nn)])) _
        refine XS.icmpYes X9.here hx rfl (pc0 := 68) (pc' := 89) rfl (hb hby at_68) rfl (feq (by rw [qn]; decide : ¬ nn = (2 : Int32))).2 (by decide) (by decide) ?_
        show Steps p.tables e below (T9.setTop (mkF m 89 #[.val (.int p1), .val (.int p2), .val (.int p3), .val (.int p4), .val (.int p5), .val (.int nn), .val (.int u0), .val (.int u1), .val (.int u2), .val (.int u3), .unset, .unset, .unset] [])) _
        refine XS.iload X9.here hx rfl (hb hby at_89) rfl ?_
        show Steps p.tables e below (T9.setTop (mkF m 91 #[.val (.int p1), .val (.int p2), .val (.int p3), .val (.int p4), .val (.int p5), .val (.int nn), .val (.int u0), .val (.int u1), .val (.int u2), .val (.int u3), .unset, .unset, .unset] [(.int nn)])) _
        refine XS.iconst X9.here hx rfl (hb hby at_91) ?_
        show Steps p.tables e below (T9.setTop (mkF m 92 #[.val (.int p1), .val (.int p2), .val (.int p3), .val (.int p4), .val (.int p5), .val (.int nn), .val (.int u0), .val (.int u1), .val (.int u2), .val (.int u3), .unset, .unset, .unset] [(.int (3 : Int32)), (.int nn)])) _
        refine XS.icmpNo X9.here hx rfl (hb hby at_92) rfl (teq qn).2 ?_
        show Steps p.tables e below (T9.setTop (mkF m 95 #[.val (.int p1), .val (.int p2), .val (.int p3), .val (.int p4), .val (.int p5), .val (.int nn), .val (.int u0), .val (.int u1), .val (.int u2), .val (.int u3), .unset, .unset, .unset] [])) _
        refine XS.iconst X9.here hx rfl (hb hby at_95) ?_
        exact Steps.refl _)
      obtain ⟨T36, h36, k36, X36, e36, E36, A36, st36⟩ := newP X9 hx hZ (hw _ (List.mem_of_getElem? (i := 5) rfl)) hh9 (g := (mkF m 96 #[.val (.int p1), .val (.int p2), .val (.int p3), .val (.int p4), .val (.int p5), .val (.int nn), .val (.int u0), .val (.int u1), .val (.int u2), .val (.int u3), .unset, .unset, .unset] [(.int (3 : Int32))])) rfl (hb hby at_96) rfl (by decide) (cap := 3) (by decide) (by decide) (by decide) (by decide)
      obtain ⟨cb, g36⟩ : ∃ z, z = h0.size := ⟨_, rfl⟩
      rw [← g36] at A36 st36
      have g_cb : n0 ≤ cb := Nat.le_trans Z0 (Nat.le_of_eq g36.symm)
      have lt_cb : cb < h36.size := A36.lt
      have F36 : Far Z h36 cb .char (3 : Int32) (fun _ => 0) := Far.new A36 (by decide) rfl
      have Z36 : n0 ≤ h36.size := Nat.le_trans Z0 E36.1
      have pre36 : Steps p.tables e below _ (T36.setTop (mkF m 98 #[.val (.int p1), .val (.int p2), .val (.int p3), .val (.int p4), .val (.int p5), .val (.int nn), .val (.int u0), .val (.int u1), .val (.int u2), .val (.int u3), .unset, .unset, .unset] [(.ref cb)])) := pre35.trans (st36 _ (Steps.refl _))
      have pre37 : Steps p.tables e below _ (T36.setTop (mkF m 102 #[.val (.int p1), .val (.int p2), .val (.int p3), .val (.int p4), .val (.int p5), .val (.int nn), .val (.int u0), .val (.int u1), .val (.int u2), .val (.int u3), .unset, .unset, .unset] [(.int u0), (.int (0 : Int32)), (.ref cb), (.ref cb)])) := pre36.trans (by
        show Steps p.tables e below (T36.setTop (mkF m 98 #[.val (.int p1), .val (.int p2), .val (.int p3), .val (.int p4), .val (.int p5), .val (.int nn), .val (.int u0), .val (.int u1), .val (.int u2), .val (.int u3), .unset, .unset, .unset] [(.ref cb)])) _
        refine XS.dup X36.here hx rfl (hb hby at_98) rfl rfl ?_
        show Steps p.tables e below (T36.setTop (mkF m 99 #[.val (.int p1), .val (.int p2), .val (.int p3), .val (.int p4), .val (.int p5), .val (.int nn), .val (.int u0), .val (.int u1), .val (.int u2), .val (.int u3), .unset, .unset, .unset] [(.ref cb), (.ref cb)])) _
        refine XS.iconst X36.here hx rfl (hb hby at_99) ?_
        show Steps p.tables e below (T36.setTop (mkF m 100 #[.val (.int p1), .val (.int p2), .val (.int p3), .val (.int p4), .val (.int p5), .val (.int nn), .val (.int u0), .val (.int u1), .val (.int u2), .val (.int u3), .unset, .unset, .unset] [(.int (0 : Int32)), (.ref cb), (.ref cb)])) _
        refine XS.iload X36.here hx rfl (hb hby at_100) rfl ?_
        exact Steps.refl _)
      obtain ⟨cl38, Ar38, S38, M38, H38⟩ := id F36
      have hin38 : ¬ ((0 : Int32) < 0 ∨ cl38.slots.size ≤ ((0 : Int32)).toNatClampNeg) := inb_of S38 ⟨by decide, by decide⟩
      obtain ⟨T38, h38, X38, e38, W38, st38⟩ := stC X36 hx hZ e36 Ar38 (j := (0 : Int32)) hin38 (g := (mkF m 102 #[.val (.int p1), .val (.int p2), .val (.int p3), .val (.int p4), .val (.int p5), .val (.int nn), .val (.int u0), .val (.int u1), .val (.int u2), .val (.int u3), .unset, .unset, .unset] [(.int u0), (.int (0 : Int32)), (.ref cb), (.ref cb)])) rfl rfl (hb hby at_102)
      have F38 := Far.set Ar38 S38 M38 H38 W38
      have N38 := Fr.snoc X38 N9 g_cb
      have Z38 : n0 ≤ h38.size := Nat.le_trans Z36 (Keep.of_wr W38).1
      have pre38 : Steps p.tables e below _ (T38.setTop (mkF m 103 #[.val (.int p1), .val (.int p2), .val (.int p3), .val (.int p4), .val (.int p5), .val (.int nn), .val (.int u0), .val (.int u1), .val (.int u2), .val (.int u3), .unset, .unset, .unset] [(.ref cb)])) := pre37.trans (st38 _ (Steps.refl _))
      have pre39 : Steps p.tables e below _ (T38.setTop (mkF m 107 #[.val (.int p1), .val (.int p2), .val (.int p3), .val (.int p4), .val (.int p5), .val (.int nn), .val (.int u0), .val (.int u1), .val (.int u2), .val (.int u3), .unset, .unset, .unset] [(.int u1), (.int (1 : Int32)), (.ref cb), (.ref cb)])) := pre38.trans (by
        show Steps p.tables e below (T38.setTop (mkF m 103 #[.val (.int p1), .val (.int p2), .val (.int p3), .val (.int p4), .val (.int p5), .val (.int nn), .val (.int u0), .val (.int u1), .val (.int u2), .val (.int u3), .unset, .unset, .unset] [(.ref cb)])) _
        refine XS.dup X38.here hx rfl (hb hby at_103) rfl rfl ?_
        show Steps p.tables e below (T38.setTop (mkF m 104 #[.val (.int p1), .val (.int p2), .val (.int p3), .val (.int p4), .val (.int p5), .val (.int nn), .val (.int u0), .val (.int u1), .val (.int u2), .val (.int u3), .unset, .unset, .unset] [(.ref cb), (.ref cb)])) _
        refine XS.iconst X38.here hx rfl (hb hby at_104) ?_
        show Steps p.tables e below (T38.setTop (mkF m 105 #[.val (.int p1), .val (.int p2), .val (.int p3), .val (.int p4), .val (.int p5), .val (.int nn), .val (.int u0), .val (.int u1), .val (.int u2), .val (.int u3), .unset, .unset, .unset] [(.int (1 : Int32)), (.ref cb), (.ref cb)])) _
        refine XS.iload X38.here hx rfl (hb hby at_105) rfl ?_
        exact Steps.refl _)
      obtain ⟨cl40, Ar40, S40, M40, H40⟩ := id F38
      have hin40 : ¬ ((1 : Int32) < 0 ∨ cl40.slots.size ≤ ((1 : Int32)).toNatClampNeg) := inb_of S40 ⟨by decide, by decide⟩
      obtain ⟨T40, h40, X40, e40, W40, st40⟩ := stC X38 hx hZ e38 Ar40 (j := (1 : Int32)) hin40 (g := (mkF m 107 #[.val (.int p1), .val (.int p2), .val (.int p3), .val (.int p4), .val (.int p5), .val (.int nn), .val (.int u0), .val (.int u1), .val (.int u2), .val (.int u3), .unset, .unset, .unset] [(.int u1), (.int (1 : Int32)), (.ref cb), (.ref cb)])) rfl rfl (hb hby at_107)
      have F40 := Far.set Ar40 S40 M40 H40 W40
      have N40 := Fr.snoc X40 N38 g_cb
      have Z40 : n0 ≤ h40.size := Nat.le_trans Z38 (Keep.of_wr W40).1
      have pre40 : Steps p.tables e below _ (T40.setTop (mkF m 108 #[.val (.int p1), .val (.int p2), .val (.int p3), .val (.int p4), .val (.int p5), .val (.int nn), .val (.int u0), .val (.int u1), .val (.int u2), .val (.int u3), .unset, .unset, .unset] [(.ref cb)])) := pre39.trans (st40 _ (Steps.refl _))
      have pre41 : Steps p.tables e below _ (T40.setTop (mkF m 112 #[.val (.int p1), .val (.int p2), .val (.int p3), .val (.int p4), .val (.int p5), .val (.int nn), .val (.int u0), .val (.int u1), .val (.int u2), .val (.int u3), .unset, .unset, .unset] [(.int u2), (.int (2 : Int32)), (.ref cb), (.ref cb)])) := pre40.trans (by
        show Steps p.tables e below (T40.setTop (mkF m 108 #[.val (.int p1), .val (.int p2), .val (.int p3), .val (.int p4), .val (.int p5), .val (.int nn), .val (.int u0), .val (.int u1), .val (.int u2), .val (.int u3), .unset, .unset, .unset] [(.ref cb)])) _
        refine XS.dup X40.here hx rfl (hb hby at_108) rfl rfl ?_
        show Steps p.tables e below (T40.setTop (mkF m 109 #[.val (.int p1), .val (.int p2), .val (.int p3), .val (.int p4), .val (.int p5), .val (.int nn), .val (.int u0), .val (.int u1), .val (.int u2), .val (.int u3), .unset, .unset, .unset] [(.ref cb), (.ref cb)])) _
        refine XS.iconst X40.here hx rfl (hb hby at_109) ?_
        show Steps p.tables e below (T40.setTop (mkF m 110 #[.val (.int p1), .val (.int p2), .val (.int p3), .val (.int p4), .val (.int p5), .val (.int nn), .val (.int u0), .val (.int u1), .val (.int u2), .val (.int u3), .unset, .unset, .unset] [(.int (2 : Int32)), (.ref cb), (.ref cb)])) _
        refine XS.iload X40.here hx rfl (hb hby at_110) rfl ?_
        exact Steps.refl _)
      obtain ⟨cl42, Ar42, S42, M42, H42⟩ := id F40
      have hin42 : ¬ ((2 : Int32) < 0 ∨ cl42.slots.size ≤ ((2 : Int32)).toNatClampNeg) := inb_of S42 ⟨by decide, by decide⟩
      obtain ⟨T42, h42, X42, e42, W42, st42⟩ := stC X40 hx hZ e40 Ar42 (j := (2 : Int32)) hin42 (g := (mkF m 112 #[.val (.int p1), .val (.int p2), .val (.int p3), .val (.int p4), .val (.int p5), .val (.int nn), .val (.int u0), .val (.int u1), .val (.int u2), .val (.int u3), .unset, .unset, .unset] [(.int u2), (.int (2 : Int32)), (.ref cb), (.ref cb)])) rfl rfl (hb hby at_112)
      have F42 := Far.set Ar42 S42 M42 H42 W42
      have N42 := Fr.snoc X42 N40 g_cb
      have Z42 : n0 ≤ h42.size := Nat.le_trans Z40 (Keep.of_wr W42).1
      have pre42 : Steps p.tables e below _ (T42.setTop (mkF m 113 #[.val (.int p1), .val (.int p2), .val (.int p3), .val (.int p4), .val (.int p5), .val (.int nn), .val (.int u0), .val (.int u1), .val (.int u2), .val (.int u3), .unset, .unset, .unset] [(.ref cb)])) := pre41.trans (st42 _ (Steps.refl _))
      have FCH : Far Z h42 cb .char (3 : Int32) (own_f u0 u1 u2 u3) := F42.congr (fun k hk => by
          have e : (3 : Int32).toNatClampNeg = 3 := by decide
          rw [e] at hk
          have q : k = 0 ∨ k = 1 ∨ k = 2 := by omega
          rcases q with rfl | rfl | rfl
          · exact own_ncc u0 hu0
          · exact own_ncc u1 hu1
          · exact own_ncc u2 hu2)
      have pre43 : Steps p.tables e below _ (T42.setTop (mkF m 143 #[.val (.int p1), .val (.int p2), .val (.int p3), .val (.int p4), .val (.int p5), .val (.int nn), .val (.int u0), .val (.int u1), .val (.int u2), .val (.int u3), .val (.ref cb), .unset, .unset] [])) := pre42.trans (by
        show Steps p.tables e below (T42.setTop (mkF m 113 #[.val (.int p1), .val (.int p2), .val (.int p3), .val (.int p4), .val (.int p5), .val (.int nn), .val (.int u0), .val (.int u1), .val (.int u2), .val (.int u3), .unset, .unset, .unset] [(.ref cb)])) _
        refine XS.astore X42.here hx rfl (hb hby at_113) rfl rfl (l' := #[.val (.int p1), .val (.int p2), .val (.int p3), .val (.int p4), .val (.int p5), .val (.int nn), .val (.int u0), .val (.int u1), .val (.int u2), .val (.int u3), .val (.ref cb), .unset, .unset]) rfl ?_
        show Steps p.tables e below (T42.setTop (mkF m 115 #[.val (.int p1), .val (.int p2), .val (.int p3), .val (.int p4), .val (.int p5), .val (.int nn), .val (.int u0), .val (.int u1), .val (.int u2), .val (.int u3), .val (.ref cb), .unset, .unset] [])) _
        refine XS.goto X42.here hx rfl (pc0 := 115) (pc' := 143) rfl (hb hby at_115) (by decide) (by decide) ?_
        exact Steps.refl _)
      obtain ⟨T44, h44, X44, e44, E44, A44, D44, -, st44⟩ := newO X42 hx hZ hown (hw _ (List.mem_of_getElem? (i := 6) rfl)) (hw _ (List.mem_of_getElem? (i := 7) rfl)) (hw _ (List.mem_of_getElem? (i := 8) rfl)) e42 (g := (mkF m 143 #[.val (.int p1), .val (.int p2), .val (.int p3), .val (.int p4), .val (.int p5), .val (.int nn), .val (.int u0), .val (.int u1), .val (.int u2), .val (.int u3), .val (.ref cb), .unset, .unset] [])) rfl (hb hby at_143) (by decide) (by decide)
      obtain ⟨sb, g44⟩ : ∃ z, z = h42.size := ⟨_, rfl⟩
      rw [← g44] at A44 D44 st44
      have g_sb : n0 ≤ sb := Nat.le_trans Z42 (Nat.le_of_eq g44.symm)
      have Z44 : n0 ≤ h44.size := Nat.le_trans Z42 E44.1
      have pre44 : Steps p.tables e below _ (T44.setTop (mkF m 146 #[.val (.int p1), .val (.int p2), .val (.int p3), .val (.int p4), .val (.int p5), .val (.int nn), .val (.int u0), .val (.int u1), .val (.int u2), .val (.int u3), .val (.ref cb), .unset, .unset] [(.ref sb)])) := pre43.trans (st44 _ (Steps.refl _))
      have F_value_sb : Fld Z h44 sb "java/lang/String" "value" "[B" .null := D44 (Or.inr (hw _ (List.mem_of_getElem? (i := 21) rfl))) (ty := (.array .byte)) (by decide)
      have F_coder_sb : Fld Z h44 sb "java/lang/String" "coder" "B" (.int (0 : Int32)) := D44 (Or.inr (hw _ (List.mem_of_getElem? (i := 22) rfl))) (ty := .byte) (by decide)
      have pre45 : Steps p.tables e below _ (T44.setTop (mkF m 149 #[.val (.int p1), .val (.int p2), .val (.int p3), .val (.int p4), .val (.int p5), .val (.int nn), .val (.int u0), .val (.int u1), .val (.int u2), .val (.int u3), .val (.ref cb), .unset, .unset] [(.ref cb), (.ref sb), (.ref sb)])) := pre44.trans (by
        show Steps p.tables e below (T44.setTop (mkF m 146 #[.val (.int p1), .val (.int p2), .val (.int p3), .val (.int p4), .val (.int p5), .val (.int nn), .val (.int u0), .val (.int u1), .val (.int u2), .val (.int u3), .val (.ref cb), .unset, .unset] [(.ref sb)])) _
        refine XS.dup X44.here hx rfl (hb hby at_146) rfl rfl ?_
        show Steps p.tables e below (T44.setTop (mkF m 147 #[.val (.int p1), .val (.int p2), .val (.int p3), .val (.int p4), .val (.int p5), .val (.int nn), .val (.int u0), .val (.int u1), .val (.int u2), .val (.int u3), .val (.ref cb), .unset, .unset] [(.ref sb), (.ref sb)])) _
        refine XS.aload X44.here hx rfl (hb hby at_147) rfl rfl ?_
        exact Steps.refl _)
      obtain ⟨_, _, ⟨T46, L46, k46, n46⟩, -, X46, ⟨Lc46, hQ46, l46, y46, z46⟩, st46⟩ := X44.specialBack hx (y := (⟨"java/lang/String", "<init>", "([C)V"⟩ : MethodName)) rfl hown (mvT hZ (hw _ (List.mem_of_getElem? (i := 9) rfl))) (mvT hZ (hw _ (List.mem_of_getElem? (i := 10) rfl))) (mvT hZ (hw _ (List.mem_of_getElem? (i := 11) rfl))) (by decide) (backOf (W := 1) (rmS1 l Z a0 hw [] sb cb (3 : Int32) (own_f u0 u1 u2 u3) cs h44 n0 Z44 (by decide) (by decide) A44 F_value_sb F_coder_sb g_sb (FCH.ext E44) hchf (((((SC.ext E36).wr W38).wr W40).wr W42).ext E44) hcs (((((SA.ext E36).wr W38).wr W40).wr W42).ext E44) (((((SH.ext E36).wr W38).wr W40).wr W42).ext E44) (((((SL.ext E36).wr W38).wr W40).wr W42).ext E44)) hZ (hw _ (List.mem_of_getElem? (i := 11) rfl)) (hw _ (List.mem_of_getElem? (i := 8) rfl)) (by decide) (by decide)) (g := (mkF m 149 #[.val (.int p1), .val (.int p2), .val (.int p3), .val (.int p4), .val (.int p5), .val (.int nn), .val (.int u0), .val (.int u1), .val (.int u2), .val (.int u3), .val (.ref cb), .unset, .unset] [(.ref cb), (.ref sb), (.ref sb)])) rfl (by rw [hml]; rfl) (Steps.refl _) (a := sb) (argsL := [(.ref cb)]) (rest := [(.ref sb)]) (lenOf pd_rm0_1 rfl) rfl (by show 2 * 0 + _ ≤ _; exact Nat.le_of_eq rfl) (hb hby at_149) (fun _ _ => ⟨rfl, e44, (by decide : 2 + 2 ≤ _), (by decide : 7 + 12 ≤ _)⟩)
      dsimp only [Pt.U, Pt.locs, Pt.cells, Pt.slots] at X46 l46 y46 z46 st46 hQ46
      subst l46 y46 z46
      obtain ⟨rfl, N46q, K46, SS46⟩ := hQ46
      have N46 := Fr.app N42 N46q
      have pre46 : Steps p.tables e below _ (T46.setTop (mkF m 152 #[.val (.int p1), .val (.int p2), .val (.int p3), .val (.int p4), .val (.int p5), .val (.int nn), .val (.int u0), .val (.int u1), .val (.int u2), .val (.int u3), .val (.ref cb), .unset, .unset] [(.ref sb)])) := pre45.trans (st46)
      exact ⟨s.vm, T46, _, cb, sb, 0, X46.more (show 4 ≤ 4 by decide) (show 19 ≤ 20 by decide), N46, Nat.le_trans Z44 K46.1, ((State.WarmedH.refl s).since 0), (Nat.zero_le _), hZ, hown, (by rw [qn]; exact SS46), ⟨(Sta.keepN (((((SC.ext E36).wr W38).wr W40).wr W42).ext E44) K46 (own_one (Exa.nostat A44))), (Sta.keepN (((((SF.ext E36).wr W38).wr W40).wr W42).ext E44) K46 (own_one (Exa.nostat A44))), (Sta.keepN (((((SA.ext E36).wr W38).wr W40).wr W42).ext E44) K46 (own_one (Exa.nostat A44))), (Sta.keepN (((((SH.ext E36).wr W38).wr W40).wr W42).ext E44) K46 (own_one (Exa.nostat A44))), (Sta.keepN (((((SL.ext E36).wr W38).wr W40).wr W42).ext E44) K46 (own_one (Exa.nostat A44)))⟩, pre46⟩
    · have qn := q
      have pre47 : Steps p.tables e below _ (T9.setTop (mkF m 119 #[.val (.int p1), .val (.int p2), .val (.int p3), .val (.int p4), .val (.int p5), .val (.int nn), .val (.int u0), .val (.int u1), .val (.int u2), .val (.int u3), .unset, .unset, .unset] [(.int (4 : Int32))])) := pre10.trans (by
        show Steps p.tables e below (T9.setTop (mkF m 35 #[.val (.int p1), .val (.int p2), .val (.int p3), .val (.int p4), .val (.int p5), .val (.int nn), .val (.int u0), .val (.int u1), .val (.int u2), .val (.int u3), .unset, .unset, .unset] [(.int nn)])) _
        refine XS.ifYes X9.here hx rfl (pc0 := 35) (pc' := 46) rfl (hb hby at_35) rfl ((if0 _ _).trans (feq (by rw [qn]; decide : ¬ nn = (0 : Int32))).2) (by decide) (by decide) ?_
        show Steps p.tables e below (T9.setTop (mkF m 46 #[.val (.int p1), .val (.int p2), .val (.int p3), .val (.int p4), .val (.int p5), .val (.int nn), .val (.int u0), .val (.int u1), .val (.int u2), .val (.int u3), .unset, .unset, .unset] [])) _
        refine XS.iload X9.here hx rfl (hb hby at_46) rfl ?_
        show Steps p.tables e below (T9.setTop (mkF m 48 #[.val (.int p1), .val (.int p2), .val (.int p3), .val (.int p4), .val (.int p5), .val (.int nn), .val (.int u0), .val (.int u1), .val (.int u2), .val (.int u3), .unset, .unset, .unset] [(.int nn)])) _
        refine XS.iconst X9.here hx rfl (hb hby at_48) ?_
        show Steps p.tables e below (T9.setTop (mkF m 49 #[.val (.int p1), .val (.int p2), .val (.int p3), .val (.int p4), .val (.int p5), .val (.int nn), .val (.int u0), .val (.int u1), .val (.int u2), .val (.int u3), .unset, .unset, .unset] [(.int (1 : Int32)), (.int nn)])) _
        refine XS.icmpYes X9.here hx rfl (pc0 := 49) (pc' := 65) rfl (hb hby at_49) rfl (feq (by rw [qn]; decide : ¬ nn = (1 : Int32))).2 (by decide) (by decide) ?_
        show Steps p.tables e below (T9.setTop (mkF m 65 #[.val (.int p1), .val (.int p2), .val (.int p3), .val (.int p4), .val (.int p5), .val (.int nn), .val (.int u0), .val (.int u1), .val (.int u2), .val (.int u3), .unset, .unset, .unset] [])) _
        refine XS.iload X9.here hx rfl (hb hby at_65) rfl ?_
        show Steps p.tables e below (T9.setTop (mkF m 67 #[.val (.int p1), .val (.int p2), .val (.int p3), .val (.int p4), .val (.int p5), .val (.int nn), .val (.int u0), .val (.int u1), .val (.int u2), .val (.int u3), .unset, .unset, .unset] [(.int nn)])) _
        refine XS.iconst X9.here hx rfl (hb hby at_67) ?_
        show Steps p.tables e below (T9.setTop (mkF m 68 #[.val (.int p1), .val (.int p2), .val (.int p3), .val (.int p4), .val (.int p5), .val (.int nn), .val (.int u0), .val (.int u1), .val (.int u2), .val (.int u3), .unset, .unset, .unset] [(.int (2 : Int32)), (.int nn)])) _
        refine XS.icmpYes X9.here hx rfl (pc0 := 68) (pc' := 89) rfl (hb hby at_68) rfl (feq (by rw [qn]; decide : ¬ nn = (2 : Int32))).2 (by decide) (by decide) ?_
        show Steps p.tables e below (T9.setTop (mkF m 89 #[.val (.int p1), .val (.int p2), .val (.int p3), .val (.int p4), .val (.int p5), .val (.int nn), .val (.int u0), .val (.int u1), .val (.int u2), .val (.int u3), .unset, .unset, .unset] [])) _
        refine XS.iload X9.here hx rfl (hb hby at_89) rfl ?_
        show Steps p.tables e below (T9.setTop (mkF m 91 #[.val (.int p1), .val (.int p2), .val (.int p3), .val (.int p4), .val (.int p5), .val (.int nn), .val (.int u0), .val (.int u1), .val (.int u2), .val (.int u3), .unset, .unset, .unset] [(.int nn)])) _
        refine XS.iconst X9.here hx rfl (hb hby at_91) ?_
        show Steps p.tables e below (T9.setTop (mkF m 92 #[.val (.int p1), .val (.int p2), .val (.int p3), .val (.int p4), .val (.int p5), .val (.int nn), .val (.int u0), .val (.int u1), .val (.int u2), .val (.int u3), .unset, .unset, .unset] [(.int (3 : Int32)), (.int nn)])) _
        refine XS.icmpYes X9.here hx rfl (pc0 := 92) (pc' := 118) rfl (hb hby at_92) rfl (feq (by rw [qn]; decide : ¬ nn = (3 : Int32))).2 (by decide) (by decide) ?_
        show Steps p.tables e below (T9.setTop (mkF m 118 #[.val (.int p1), .val (.int p2), .val (.int p3), .val (.int p4), .val (.int p5), .val (.int nn), .val (.int u0), .val (.int u1), .val (.int u2), .val (.int u3), .unset, .unset, .unset] [])) _
        refine XS.iconst X9.here hx rfl (hb hby at_118) ?_
        exact Steps.refl _)
      obtain ⟨T48, h48, k48, X48, e48, E48, A48, st48⟩ := newP X9 hx hZ (hw _ (List.mem_of_getElem? (i := 5) rfl)) hh9 (g := (mkF m 119 #[.val (.int p1), .val (.int p2), .val (.int p3), .val (.int p4), .val (.int p5), .val (.int nn), .val (.int u0), .val (.int u1), .val (.int u2), .val (.int u3), .unset, .unset, .unset] [(.int (4 : Int32))])) rfl (hb hby at_119) rfl (by decide) (cap := 4) (by decide) (by decide) (by decide) (by decide)
      obtain ⟨cb, g48⟩ : ∃ z, z = h0.size := ⟨_, rfl⟩
      rw [← g48] at A48 st48
      have g_cb : n0 ≤ cb := Nat.le_trans Z0 (Nat.le_of_eq g48.symm)
      have lt_cb : cb < h48.size := A48.lt
      have F48 : Far Z h48 cb .char (4 : Int32) (fun _ => 0) := Far.new A48 (by decide) rfl
      have Z48 : n0 ≤ h48.size := Nat.le_trans Z0 E48.1
      have pre48 : Steps p.tables e below _ (T48.setTop (mkF m 121 #[.val (.int p1), .val (.int p2), .val (.int p3), .val (.int p4), .val (.int p5), .val (.int nn), .val (.int u0), .val (.int u1), .val (.int u2), .val (.int u3), .unset, .unset, .unset] [(.ref cb)])) := pre47.trans (st48 _ (Steps.refl _))
      have pre49 : Steps p.tables e below _ (T48.setTop (mkF m 125 #[.val (.int p1), .val (.int p2), .val (.int p3), .val (.int p4), .val (.int p5), .val (.int nn), .val (.int u0), .val (.int u1), .val (.int u2), .val (.int u3), .unset, .unset, .unset] [(.int u0), (.int (0 : Int32)), (.ref cb), (.ref cb)])) := pre48.trans (by
        show Steps p.tables e below (T48.setTop (mkF m 121 #[.val (.int p1), .val (.int p2), .val (.int p3), .val (.int p4), .val (.int p5), .val (.int nn), .val (.int u0), .val (.int u1), .val (.int u2), .val (.int u3), .unset, .unset, .unset] [(.ref cb)])) _
        refine XS.dup X48.here hx rfl (hb hby at_121) rfl rfl ?_
        show Steps p.tables e below (T48.setTop (mkF m 122 #[.val (.int p1), .val (.int p2), .val (.int p3), .val (.int p4), .val (.int p5), .val (.int nn), .val (.int u0), .val (.int u1), .val (.int u2), .val (.int u3), .unset, .unset, .unset] [(.ref cb), (.ref cb)])) _
        refine XS.iconst X48.here hx rfl (hb hby at_122) ?_
        show Steps p.tables e below (T48.setTop (mkF m 123 #[.val (.int p1), .val (.int p2), .val (.int p3), .val (.int p4), .val (.int p5), .val (.int nn), .val (.int u0), .val (.int u1), .val (.int u2), .val (.int u3), .unset, .unset, .unset] [(.int (0 : Int32)), (.ref cb), (.ref cb)])) _
        refine XS.iload X48.here hx rfl (hb hby at_123) rfl ?_
        exact Steps.refl _)
      obtain ⟨cl50, Ar50, S50, M50, H50⟩ := id F48
      have hin50 : ¬ ((0 : Int32) < 0 ∨ cl50.slots.size ≤ ((0 : Int32)).toNatClampNeg) := inb_of S50 ⟨by decide, by decide⟩
      obtain ⟨T50, h50, X50, e50, W50, st50⟩ := stC X48 hx hZ e48 Ar50 (j := (0 : Int32)) hin50 (g := (mkF m 125 #[.val (.int p1), .val (.int p2), .val (.int p3), .val (.int p4), .val (.int p5), .val (.int nn), .val (.int u0), .val (.int u1), .val (.int u2), .val (.int u3), .unset, .unset, .unset] [(.int u0), (.int (0 : Int32)), (.ref cb), (.ref cb)])) rfl rfl (hb hby at_125)
      have F50 := Far.set Ar50 S50 M50 H50 W50
      have N50 := Fr.snoc X50 N9 g_cb
      have Z50 : n0 ≤ h50.size := Nat.le_trans Z48 (Keep.of_wr W50).1
      have pre50 : Steps p.tables e below _ (T50.setTop (mkF m 126 #[.val (.int p1), .val (.int p2), .val (.int p3), .val (.int p4), .val (.int p5), .val (.int nn), .val (.int u0), .val (.int u1), .val (.int u2), .val (.int u3), .unset, .unset, .unset] [(.ref cb)])) := pre49.trans (st50 _ (Steps.refl _))
      have pre51 : Steps p.tables e below _ (T50.setTop (mkF m 130 #[.val (.int p1), .val (.int p2), .val (.int p3), .val (.int p4), .val (.int p5), .val (.int nn), .val (.int u0), .val (.int u1), .val (.int u2), .val (.int u3), .unset, .unset, .unset] [(.int u1), (.int (1 : Int32)), (.ref cb), (.ref cb)])) := pre50.trans (by
        show Steps p.tables e below (T50.setTop (mkF m 126 #[.val (.int p1), .val (.int p2), .val (.int p3), .val (.int p4), .val (.int p5), .val (.int nn), .val (.int u0), .val (.int u1), .val (.int u2), .val (.int u3), .unset, .unset, .unset] [(.ref cb)])) _
        refine XS.dup X50.here hx rfl (hb hby at_126) rfl rfl ?_
        show Steps p.tables e below (T50.setTop (mkF m 127 #[.val (.int p1), .val (.int p2), .val (.int p3), .val (.int p4), .val (.int p5), .val (.int nn), .val (.int u0), .val (.int u1), .val (.int u2), .val (.int u3), .unset, .unset, .unset] [(.ref cb), (.ref cb)])) _
        refine XS.iconst X50.here hx rfl (hb hby at_127) ?_
        show Steps p.tables e below (T50.setTop (mkF m 128 #[.val (.int p1), .val (.int p2), .val (.int p3), .val (.int p4), .val (.int p5), .val (.int nn), .val (.int u0), .val (.int u1), .val (.int u2), .val (.int u3), .unset, .unset, .unset] [(.int (1 : Int32)), (.ref cb), (.ref cb)])) _
        refine XS.iload X50.here hx rfl (hb hby at_128) rfl ?_
        exact Steps.refl _)
      obtain ⟨cl52, Ar52, S52, M52, H52⟩ := id F50
      have hin52 : ¬ ((1 : Int32) < 0 ∨ cl52.slots.size ≤ ((1 : Int32)).toNatClampNeg) := inb_of S52 ⟨by decide, by decide⟩
      obtain ⟨T52, h52, X52, e52, W52, st52⟩ := stC X50 hx hZ e50 Ar52 (j := (1 : Int32)) hin52 (g := (mkF m 130 #[.val (.int p1), .val (.int p2), .val (.int p3), .val (.int p4), .val (.int p5), .val (.int nn), .val (.int u0), .val (.int u1), .val (.int u2), .val (.int u3), .unset, .unset, .unset] [(.int u1), (.int (1 : Int32)), (.ref cb), (.ref cb)])) rfl rfl (hb hby at_130)
      have F52 := Far.set Ar52 S52 M52 H52 W52
      have N52 := Fr.snoc X52 N50 g_cb
      have Z52 : n0 ≤ h52.size := Nat.le_trans Z50 (Keep.of_wr W52).1
      have pre52 : Steps p.tables e below _ (T52.setTop (mkF m 131 #[.val (.int p1), .val (.int p2), .val (.int p3), .val (.int p4), .val (.int p5), .val (.int nn), .val (.int u0), .val (.int u1), .val (.int u2), .val (.int u3), .unset, .unset, .unset] [(.ref cb)])) := pre51.trans (st52 _ (Steps.refl _))
      have pre53 : Steps p.tables e below _ (T52.setTop (mkF m 135 #[.val (.int p1), .val (.int p2), .val (.int p3), .val (.int p4), .val (.int p5), .val (.int nn), .val (.int u0), .val (.int u1), .val (.int u2), .val (.int u3), .unset, .unset, .unset] [(.int u2), (.int (2 : Int32)), (.ref cb), (.ref cb)])) := pre52.trans (by
        show Steps p.tables e below (T52.setTop (mkF m 131 #[.val (.int p1), .val (.int p2), .val (.int p3), .val (.int p4), .val (.int p5), .val (.int nn), .val (.int u0), .val (.int u1), .val (.int u2), .val (.int u3), .unset, .unset, .unset] [(.ref cb)])) _
        refine XS.dup X52.here hx rfl (hb hby at_131) rfl rfl ?_
        show Steps p.tables e below (T52.setTop (mkF m 132 #[.val (.int p1), .val (.int p2), .val (.int p3), .val (.int p4), .val (.int p5), .val (.int nn), .val (.int u0), .val (.int u1), .val (.int u2), .val (.int u3), .unset, .unset, .unset] [(.ref cb), (.ref cb)])) _
        refine XS.iconst X52.here hx rfl (hb hby at_132) ?_
        show Steps p.tables e below (T52.setTop (mkF m 133 #[.val (.int p1), .val (.int p2), .val (.int p3), .val (.int p4), .val (.int p5), .val (.int nn), .val (.int u0), .val (.int u1), .val (.int u2), .val (.int u3), .unset, .unset, .unset] [(.int (2 : Int32)), (.ref cb), (.ref cb)])) _
        refine XS.iload X52.here hx rfl (hb hby at_133) rfl ?_
        exact Steps.refl _)
      obtain ⟨cl54, Ar54, S54, M54, H54⟩ := id F52
      have hin54 : ¬ ((2 : Int32) < 0 ∨ cl54.slots.size ≤ ((2 : Int32)).toNatClampNeg) := inb_of S54 ⟨by decide, by decide⟩
      obtain ⟨T54, h54, X54, e54, W54, st54⟩ := stC X52 hx hZ e52 Ar54 (j := (2 : Int32)) hin54 (g := (mkF m 135 #[.val (.int p1), .val (.int p2), .val (.int p3), .val (.int p4), .val (.int p5), .val (.int nn), .val (.int u0), .val (.int u1), .val (.int u2), .val (.int u3), .unset, .unset, .unset] [(.int u2), (.int (2 : Int32)), (.ref cb), (.ref cb)])) rfl rfl (hb hby at_135)
      have F54 := Far.set Ar54 S54 M54 H54 W54
      have N54 := Fr.snoc X54 N52 g_cb
      have Z54 : n0 ≤ h54.size := Nat.le_trans Z52 (Keep.of_wr W54).1
      have pre54 : Steps p.tables e below _ (T54.setTop (mkF m 136 #[.val (.int p1), .val (.int p2), .val (.int p3), .val (.int p4), .val (.int p5), .val (.int nn), .val (.int u0), .val (.int u1), .val (.int u2), .val (.int u3), .unset, .unset, .unset] [(.ref cb)])) := pre53.trans (st54 _ (Steps.refl _))
      have pre55 : Steps p.tables e below _ (T54.setTop (mkF m 140 #[.val (.int p1), .val (.int p2), .val (.int p3), .val (.int p4), .val (.int p5), .val (.int nn), .val (.int u0), .val (.int u1), .val (.int u2), .val (.int u3), .unset, .unset, .unset] [(.int u3), (.int (3 : Int32)), (.ref cb), (.ref cb)])) := pre54.trans (by
        show Steps p.tables e below (T54.setTop (mkF m 136 #[.val (.int p1), .val (.int p2), .val (.int p3), .val (.int p4), .val (.int p5), .val (.int nn), .val (.int u0), .val (.int u1), .val (.int u2), .val (.int u3), .unset, .unset, .unset] [(.ref cb)])) _
        refine XS.dup X54.here hx rfl (hb hby at_136) rfl rfl ?_
        show Steps p.tables e below (T54.setTop (mkF m 137 #[.val (.int p1), .val (.int p2), .val (.int p3), .val (.int p4), .val (.int p5), .val (.int nn), .val (.int u0), .val (.int u1), .val (.int u2), .val (.int u3), .unset, .unset, .unset] [(.ref cb), (.ref cb)])) _
        refine XS.iconst X54.here hx rfl (hb hby at_137) ?_
        show Steps p.tables e below (T54.setTop (mkF m 138 #[.val (.int p1), .val (.int p2), .val (.int p3), .val (.int p4), .val (.int p5), .val (.int nn), .val (.int u0), .val (.int u1), .val (.int u2), .val (.int u3), .unset, .unset, .unset] [(.int (3 : Int32)), (.ref cb), (.ref cb)])) _
        refine XS.iload X54.here hx rfl (hb hby at_138) rfl ?_
        exact Steps.refl _)
      obtain ⟨cl56, Ar56, S56, M56, H56⟩ := id F54
      have hin56 : ¬ ((3 : Int32) < 0 ∨ cl56.slots.size ≤ ((3 : Int32)).toNatClampNeg) := inb_of S56 ⟨by decide, by decide⟩
      obtain ⟨T56, h56, X56, e56, W56, st56⟩ := stC X54 hx hZ e54 Ar56 (j := (3 : Int32)) hin56 (g := (mkF m 140 #[.val (.int p1), .val (.int p2), .val (.int p3), .val (.int p4), .val (.int p5), .val (.int nn), .val (.int u0), .val (.int u1), .val (.int u2), .val (.int u3), .unset, .unset, .unset] [(.int u3), (.int (3 : Int32)), (.ref cb), (.ref cb)])) rfl rfl (hb hby at_140)
      have F56 := Far.set Ar56 S56 M56 H56 W56
      have N56 := Fr.snoc X56 N54 g_cb
      have Z56 : n0 ≤ h56.size := Nat.le_trans Z54 (Keep.of_wr W56).1
      have pre56 : Steps p.tables e below _ (T56.setTop (mkF m 141 #[.val (.int p1), .val (.int p2), .val (.int p3), .val (.int p4), .val (.int p5), .val (.int nn), .val (.int u0), .val (.int u1), .val (.int u2), .val (.int u3), .unset, .unset, .unset] [(.ref cb)])) := pre55.trans (st56 _ (Steps.refl _))
      have FCH : Far Z h56 cb .char (4 : Int32) (own_f u0 u1 u2 u3) := F56.congr (fun k hk => by
          have e : (4 : Int32).toNatClampNeg = 4 := by decide
          rw [e] at hk
          have q : k = 0 ∨ k = 1 ∨ k = 2 ∨ k = 3 := by omega
          rcases q with rfl | rfl | rfl | rfl
          · exact own_ncc u0 hu0
          · exact own_ncc u1 hu1
          · exact own_ncc u2 hu2
          · exact own_ncc u3 hu3)
      have pre57 : Steps p.tables e below _ (T56.setTop (mkF m 143 #[.val (.int p1), .val (.int p2), .val (.int p3), .val (.int p4), .val (.int p5), .val (.int nn), .val (.int u0), .val (.int u1), .val (.int u2), .val (.int u3), .val (.ref cb), .unset, .unset] [])) := pre56.trans (by
        show Steps p.tables e below (T56.setTop (mkF m 141 #[.val (.int p1), .val (.int p2), .val (.int p3), .val (.int p4), .val (.int p5), .val (.int nn), .val (.int u0), .val (.int u1), .val (.int u2), .val (.int u3), .unset, .unset, .unset] [(.ref cb)])) _
        refine XS.astore X56.here hx rfl (hb hby at_141) rfl rfl (l' := #[.val (.int p1), .val (.int p2), .val (.int p3), .val (.int p4), .val (.int p5), .val (.int nn), .val (.int u0), .val (.int u1), .val (.int u2), .val (.int u3), .val (.ref cb), .unset, .unset]) rfl ?_
        exact Steps.refl _)
      obtain ⟨T58, h58, X58, e58, E58, A58, D58, -, st58⟩ := newO X56 hx hZ hown (hw _ (List.mem_of_getElem? (i := 6) rfl)) (hw _ (List.mem_of_getElem? (i := 7) rfl)) (hw _ (List.mem_of_getElem? (i := 8) rfl)) e56 (g := (mkF m 143 #[.val (.int p1), .val (.int p2), .val (.int p3), .val (.int p4), .val (.int p5), .val (.int nn), .val (.int u0), .val (.int u1), .val (.int u2), .val (.int u3), .val (.ref cb), .unset, .unset] [])) rfl (hb hby at_143) (by decide) (by decide)
      obtain ⟨sb, g58⟩ : ∃ z, z = h56.size := ⟨_, rfl⟩
      rw [← g58] at A58 D58 st58
      have g_sb : n0 ≤ sb := Nat.le_trans Z56 (Nat.le_of_eq g58.symm)
      have Z58 : n0 ≤ h58.size := Nat.le_trans Z56 E58.1
      have pre58 : Steps p.tables e below _ (T58.setTop (mkF m 146 #[.val (.int p1), .val (.int p2), .val (.int p3), .val (.int p4), .val (.int p5), .val (.int nn), .val (.int u0), .val (.int u1), .val (.int u2), .val (.int u3), .val (.ref cb), .unset, .unset] [(.ref sb)])) := pre57.trans (st58 _ (Steps.refl _))
      have F_value_sb : Fld Z h58 sb "java/lang/String" "value" "[B" .null := D58 (Or.inr (hw _ (List.mem_of_getElem? (i := 21) rfl))) (ty := (.array .byte)) (by decide)
      have F_coder_sb : Fld Z h58 sb "java/lang/String" "coder" "B" (.int (0 : Int32)) := D58 (Or.inr (hw _ (List.mem_of_getElem? (i := 22) rfl))) (ty := .byte) (by decide)
      have pre59 : Steps p.tables e below _ (T58.setTop (mkF m 149 #[.val (.int p1), .val (.int p2), .val (.int p3), .val (.int p4), .val (.int p5), .val (.int nn), .val (.int u0), .val (.int u1), .val (.int u2), .val (.int u3), .val (.ref cb), .unset, .unset] [(.ref cb), (.ref sb), (.ref sb)])) := pre58.trans (by
        show Steps p.tables e below (T58.setTop (mkF m 146 #[.val (.int p1), .val (.int p2), .val (.int p3), .val (.int p4), .val (.int p5), .val (.int nn), .val (.int u0), .val (.int u1), .val (.int u2), .val (.int u3), .val (.ref cb), .unset, .unset] [(.ref sb)])) _
        refine XS.dup X58.here hx rfl (hb hby at_146) rfl rfl ?_
        show Steps p.tables e below (T58.setTop (mkF m 147 #[.val (.int p1), .val (.int p2), .val (.int p3), .val (.int p4), .val (.int p5), .val (.int nn), .val (.int u0), .val (.int u1), .val (.int u2), .val (.int u3), .val (.ref cb), .unset, .unset] [(.ref sb), (.ref sb)])) _
        refine XS.aload X58.here hx rfl (hb hby at_147) rfl rfl ?_
        exact Steps.refl _)
      obtain ⟨_, _, ⟨T60, L60, k60, n60⟩, -, X60, ⟨Lc60, hQ60, l60, y60, z60⟩, st60⟩ := X58.specialBack hx (y := (⟨"java/lang/String", "<init>", "([C)V"⟩ : MethodName)) rfl hown (mvT hZ (hw _ (List.mem_of_getElem? (i := 9) rfl))) (mvT hZ (hw _ (List.mem_of_getElem? (i := 10) rfl))) (mvT hZ (hw _ (List.mem_of_getElem? (i := 11) rfl))) (by decide) (backOf (W := 1) (rmS1 l Z a0 hw [] sb cb (4 : Int32) (own_f u0 u1 u2 u3) cs h58 n0 Z58 (by decide) (by decide) A58 F_value_sb F_coder_sb g_sb (FCH.ext E58) hchf ((((((SC.ext E48).wr W50).wr W52).wr W54).wr W56).ext E58) hcs ((((((SA.ext E48).wr W50).wr W52).wr W54).wr W56).ext E58) ((((((SH.ext E48).wr W50).wr W52).wr W54).wr W56).ext E58) ((((((SL.ext E48).wr W50).wr W52).wr W54).wr W56).ext E58)) hZ (hw _ (List.mem_of_getElem? (i := 11) rfl)) (hw _ (List.mem_of_getElem? (i := 8) rfl)) (by decide) (by decide)) (g := (mkF m 149 #[.val (.int p1), .val (.int p2), .val (.int p3), .val (.int p4), .val (.int p5), .val (.int nn), .val (.int u0), .val (.int u1), .val (.int u2), .val (.int u3), .val (.ref cb), .unset, .unset] [(.ref cb), (.ref sb), (.ref sb)])) rfl (by rw [hml]; rfl) (Steps.refl _) (a := sb) (argsL := [(.ref cb)]) (rest := [(.ref sb)]) (lenOf pd_rm0_1 rfl) rfl (by show 2 * 0 + _ ≤ _; exact Nat.le_of_eq rfl) (hb hby at_149) (fun _ _ => ⟨rfl, e58, (by decide : 2 + 2 ≤ _), (by decide : 8 + 12 ≤ _)⟩)
      dsimp only [Pt.U, Pt.locs, Pt.cells, Pt.slots] at X60 l60 y60 z60 st60 hQ60
      subst l60 y60 z60
      obtain ⟨rfl, N60q, K60, SS60⟩ := hQ60
      have N60 := Fr.app N56 N60q
      have pre60 : Steps p.tables e below _ (T60.setTop (mkF m 152 #[.val (.int p1), .val (.int p2), .val (.int p3), .val (.int p4), .val (.int p5), .val (.int nn), .val (.int u0), .val (.int u1), .val (.int u2), .val (.int u3), .val (.ref cb), .unset, .unset] [(.ref sb)])) := pre59.trans (st60)
      exact ⟨s.vm, T60, _, cb, sb, 0, X60.more (show 4 ≤ 4 by decide) (show 20 ≤ 20 by decide), N60, Nat.le_trans Z58 K60.1, ((State.WarmedH.refl s).since 0), (Nat.zero_le _), hZ, hown, (by rw [qn]; exact SS60), ⟨(Sta.keepN ((((((SC.ext E48).wr W50).wr W52).wr W54).wr W56).ext E58) K60 (own_one (Exa.nostat A58))), (Sta.keepN ((((((SF.ext E48).wr W50).wr W52).wr W54).wr W56).ext E58) K60 (own_one (Exa.nostat A58))), (Sta.keepN ((((((SA.ext E48).wr W50).wr W52).wr W54).wr W56).ext E58) K60 (own_one (Exa.nostat A58))), (Sta.keepN ((((((SH.ext E48).wr W50).wr W52).wr W54).wr W56).ext E58) K60 (own_one (Exa.nostat A58))), (Sta.keepN ((((((SL.ext E48).wr W50).wr W52).wr W54).wr W56).ext E58) K60 (own_one (Exa.nostat A58)))⟩, pre60⟩
  have hZ := hZ9
  have hown := hown9
  have pre61 : Steps p.tables e below _ (T9.setTop (mkF m 154 #[.val (.int p1), .val (.int p2), .val (.int p3), .val (.int p4), .val (.int p5), .val (.int nn), .val (.int u0), .val (.int u1), .val (.int u2), .val (.int u3), .val (.ref cb), .val (.ref sb), .unset] [])) := st9.trans (by
    show Steps p.tables e below (T9.setTop (mkF m 152 #[.val (.int p1), .val (.int p2), .val (.int p3), .val (.int p4), .val (.int p5), .val (.int nn), .val (.int u0), .val (.int u1), .val (.int u2), .val (.int u3), .val (.ref cb), .unset, .unset] [(.ref sb)])) _
    refine XS.astore X9.here hx rfl (hb hby at_152) rfl rfl (l' := #[.val (.int p1), .val (.int p2), .val (.int p3), .val (.int p4), .val (.int p5), .val (.int nn), .val (.int u0), .val (.int u1), .val (.int u2), .val (.int u3), .val (.ref cb), .val (.ref sb), .unset]) rfl ?_
    exact Steps.refl _)
  have sg4 : ∀ (T : State) (locs : List Loc), Stand p l e room_1 (s.setVm vm0) m #[(.int p1), (.int p2), (.int p3), (.int p4), (.int p5)] below meth c T locs 4 20 → Fr n0 locs → T.heap = T9.heap → ∃ (T' : State) (locs' : List Loc) (ev : Int32), Stand p l e room_1 (s.setVm vm0) m #[(.int p1), (.int p2), (.int p3), (.int p4), (.int p5)] below meth c T' locs' 4 20 ∧ Fr n0 locs' ∧ T'.heap = T9.heap ∧ ((ev = (1 : Int32) ∧ ∀ j : Nat, 4 ≤ j → (j : Int) < nn.toInt → ¬ own_ws_0_6 ((own_f u0 u1 u2 u3) j) = 0) ∨ (ev = (0 : Int32) ∧ ∃ j : Nat, (j : Int) < nn.toInt ∧ own_ws_0_6 ((own_f u0 u1 u2 u3) j) = 0)) ∧ Steps p.tables e below (T.setTop (mkF m 210 #[.val (.int p1), .val (.int p2), .val (.int p3), .val (.int p4), .val (.int p5), .val (.int nn), .val (.int u0), .val (.int u1), .val (.int u2), .val (.int u3), .val (.ref cb), .val (.ref sb), .unset] [])) (T'.setTop (mkF m 215 #[.val (.int p1), .val (.int p2), .val (.int p3), .val (.int p4), .val (.int p5), .val (.int nn), .val (.int u0), .val (.int u1), .val (.int u2), .val (.int u3), .val (.ref cb), .val (.ref sb), .unset] [(.int ev)])) := by
    intro T locs X Nf eT
    have preL : Steps p.tables e below (T.setTop (mkF m 210 #[.val (.int p1), .val (.int p2), .val (.int p3), .val (.int p4), .val (.int p5), .val (.int nn), .val (.int u0), .val (.int u1), .val (.int u2), .val (.int u3), .val (.ref cb), .val (.ref sb), .unset] [])) (T.setTop (mkF m 210 #[.val (.int p1), .val (.int p2), .val (.int p3), .val (.int p4), .val (.int p5), .val (.int nn), .val (.int u0), .val (.int u1), .val (.int u2), .val (.int u3), .val (.ref cb), .val (.ref sb), .unset] [])) := Steps.refl _
    have pre62 : Steps p.tables e below _ (T.setTop (mkF m 215 #[.val (.int p1), .val (.int p2), .val (.int p3), .val (.int p4), .val (.int p5), .val (.int nn), .val (.int u0), .val (.int u1), .val (.int u2), .val (.int u3), .val (.ref cb), .val (.ref sb), .unset] [(.int (1 : Int32))])) := preL.trans (by
      show Steps p.tables e below (T.setTop (mkF m 210 #[.val (.int p1), .val (.int p2), .val (.int p3), .val (.int p4), .val (.int p5), .val (.int nn), .val (.int u0), .val (.int u1), .val (.int u2), .val (.int u3), .val (.ref cb), .val (.ref sb), .unset] [])) _
      refine XS.iconst X.here hx rfl (hb hby at_210) ?_
      show Steps p.tables e below (T.setTop (mkF m 211 #[.val (.int p1), .val (.int p2), .val (.int p3), .val (.int p4), .val (.int p5), .val (.int nn), .val (.int u0), .val (.int u1), .val (.int u2), .val (.int u3), .val (.ref cb), .val (.ref sb), .unset] [(.int (1 : Int32))])) _
      refine XS.goto X.here hx rfl (pc0 := 211) (pc' := 215) rfl (hb hby at_211) (by decide) (by decide) ?_
      exact Steps.refl _)
    exact ⟨T, locs, (1 : Int32), X, Nf, eT, Or.inl ⟨rfl, fun j h1 h2 => absurd h2 (by omega)⟩, pre62⟩
  have sg3 : ∀ (T : State) (locs : List Loc), Stand p l e room_1 (s.setVm vm0) m #[(.int p1), (.int p2), (.int p3), (.int p4), (.int p5)] below meth c T locs 4 20 → Fr n0 locs → T.heap = T9.heap → ∃ (T' : State) (locs' : List Loc) (ev : Int32), Stand p l e room_1 (s.setVm vm0) m #[(.int p1), (.int p2), (.int p3), (.int p4), (.int p5)] below meth c T' locs' 4 20 ∧ Fr n0 locs' ∧ T'.heap = T9.heap ∧ ((ev = (1 : Int32) ∧ ∀ j : Nat, 3 ≤ j → (j : Int) < nn.toInt → ¬ own_ws_0_6 ((own_f u0 u1 u2 u3) j) = 0) ∨ (ev = (0 : Int32) ∧ ∃ j : Nat, (j : Int) < nn.toInt ∧ own_ws_0_6 ((own_f u0 u1 u2 u3) j) = 0)) ∧ Steps p.tables e below (T.setTop (mkF m 196 #[.val (.int p1), .val (.int p2), .val (.int p3), .val (.int p4), .val (.int p5), .val (.int nn), .val (.int u0), .val (.int u1), .val (.int u2), .val (.int u3), .val (.ref cb), .val (.ref sb), .unset] [])) (T'.setTop (mkF m 215 #[.val (.int p1), .val (.int p2), .val (.int p3), .val (.int p4), .val (.int p5), .val (.int nn), .val (.int u0), .val (.int u1), .val (.int u2), .val (.int u3), .val (.ref cb), .val (.ref sb), .unset] [(.int ev)])) := by
    intro T locs X Nf eT
    have preL : Steps p.tables e below (T.setTop (mkF m 196 #[.val (.int p1), .val (.int p2), .val (.int p3), .val (.int p4), .val (.int p5), .val (.int nn), .val (.int u0), .val (.int u1), .val (.int u2), .val (.int u3), .val (.ref cb), .val (.ref sb), .unset] [])) (T.setTop (mkF m 196 #[.val (.int p1), .val (.int p2), .val (.int p3), .val (.int p4), .val (.int p5), .val (.int nn), .val (.int u0), .val (.int u1), .val (.int u2), .val (.int u3), .val (.ref cb), .val (.ref sb), .unset] [])) := Steps.refl _
    have el : (4 : Int32).toInt = 4 := rfl
    rcases Decidable.em (nn < (4 : Int32)) with hb2 | hb2
    · have hlt := hb2
      have hlt2 : nn.toInt < 4 := by rw [own_lt, el] at hlt; exact hlt
      have pre63 : Steps p.tables e below _ (T.setTop (mkF m 210 #[.val (.int p1), .val (.int p2), .val (.int p3), .val (.int p4), .val (.int p5), .val (.int nn), .val (.int u0), .val (.int u1), .val (.int u2), .val (.int u3), .val (.ref cb), .val (.ref sb), .unset] [])) := preL.trans (by
        show Steps p.tables e below (T.setTop (mkF m 196 #[.val (.int p1), .val (.int p2), .val (.int p3), .val (.int p4), .val (.int p5), .val (.int nn), .val (.int u0), .val (.int u1), .val (.int u2), .val (.int u3), .val (.ref cb), .val (.ref sb), .unset] [])) _
        refine XS.iload X.here hx rfl (hb hby at_196) rfl ?_
        show Steps p.tables e below (T.setTop (mkF m 198 #[.val (.int p1), .val (.int p2), .val (.int p3), .val (.int p4), .val (.int p5), .val (.int nn), .val (.int u0), .val (.int u1), .val (.int u2), .val (.int u3), .val (.ref cb), .val (.ref sb), .unset] [(.int nn)])) _
        refine XS.iconst X.here hx rfl (hb hby at_198) ?_
        show Steps p.tables e below (T.setTop (mkF m 199 #[.val (.int p1), .val (.int p2), .val (.int p3), .val (.int p4), .val (.int p5), .val (.int nn), .val (.int u0), .val (.int u1), .val (.int u2), .val (.int u3), .val (.ref cb), .val (.ref sb), .unset] [(.int (4 : Int32)), (.int nn)])) _
        refine XS.icmpYes X.here hx rfl (pc0 := 199) (pc' := 210) rfl (hb hby at_199) rfl (tlt hlt).1 (by decide) (by decide) ?_
        exact Steps.refl _)
      obtain ⟨T', lc', ev, q1, q2, q3, q4, q5⟩ := sg4 T _ X Nf eT
      exact ⟨T', lc', ev, q1, q2, q3, q4.imp (fun q => ⟨q.1, fun j h1 h2 => q.2 j (by omega) h2⟩) id, pre63.trans q5⟩
    · have hlt := hb2
      have hlt2 : ¬ nn.toInt < 4 := by rw [own_lt, el] at hlt; exact hlt
      have pre64 : Steps p.tables e below _ (T.setTop (mkF m 204 #[.val (.int p1), .val (.int p2), .val (.int p3), .val (.int p4), .val (.int p5), .val (.int nn), .val (.int u0), .val (.int u1), .val (.int u2), .val (.int u3), .val (.ref cb), .val (.ref sb), .unset] [(.int u3)])) := preL.trans (by
        show Steps p.tables e below (T.setTop (mkF m 196 #[.val (.int p1), .val (.int p2), .val (.int p3), .val (.int p4), .val (.int p5), .val (.int nn), .val (.int u0), .val (.int u1), .val (.int u2), .val (.int u3), .val (.ref cb), .val (.ref sb), .unset] [])) _
        refine XS.iload X.here hx rfl (hb hby at_196) rfl ?_
        show Steps p.tables e below (T.setTop (mkF m 198 #[.val (.int p1), .val (.int p2), .val (.int p3), .val (.int p4), .val (.int p5), .val (.int nn), .val (.int u0), .val (.int u1), .val (.int u2), .val (.int u3), .val (.ref cb), .val (.ref sb), .unset] [(.int nn)])) _
        refine XS.iconst X.here hx rfl (hb hby at_198) ?_
        show Steps p.tables e below (T.setTop (mkF m 199 #[.val (.int p1), .val (.int p2), .val (.int p3), .val (.int p4), .val (.int p5), .val (.int nn), .val (.int u0), .val (.int u1), .val (.int u2), .val (.int u3), .val (.ref cb), .val (.ref sb), .unset] [(.int (4 : Int32)), (.int nn)])) _
        refine XS.icmpNo X.here hx rfl (hb hby at_199) rfl (flt hlt).1 ?_
        show Steps p.tables e below (T.setTop (mkF m 202 #[.val (.int p1), .val (.int p2), .val (.int p3), .val (.int p4), .val (.int p5), .val (.int nn), .val (.int u0), .val (.int u1), .val (.int u2), .val (.int u3), .val (.ref cb), .val (.ref sb), .unset] [])) _
        refine XS.iload X.here hx rfl (hb hby at_202) rfl ?_
        exact Steps.refl _)
      obtain ⟨_, _, ⟨T65, L65, k65, n65⟩, -, X65, ⟨Lc65, hQ65, l65, y65, z65⟩, st65⟩ := Jvm.LawKit.callS X hx (y := (⟨"com/example/summarium/summarium/cda/CdaElementsIsWhiteSpacePinLaw", "ws", "(C)Z"⟩ : MethodName)) hown (mvT hZ (hw _ (List.mem_of_getElem? (i := 52) rfl))) (mvT hZ (hw _ (List.mem_of_getElem? (i := 53) rfl))) (mvT hZ (hw _ (List.mem_of_getElem? (i := 3) rfl))) (mvT hZ (hw _ (List.mem_of_getElem? (i := 54) rfl))) (by decide) (backOf (W := 0) (rmWs l Z a0 hw [] u3 T9.heap n0 Z9) hZ (hw _ (List.mem_of_getElem? (i := 54) rfl)) (hw _ (List.mem_of_getElem? (i := 3) rfl)) (by decide) (by decide)) (g := (mkF m 204 #[.val (.int p1), .val (.int p2), .val (.int p3), .val (.int p4), .val (.int p5), .val (.int nn), .val (.int u0), .val (.int u1), .val (.int u2), .val (.int u3), .val (.ref cb), .val (.ref sb), .unset] [(.int u3)])) rfl (by rw [hml]; rfl) (argsL := [(.int u3)]) (rest := []) (lenOf pd_rm0_2 rfl) rfl (by show 2 * 0 + _ ≤ _; exact Nat.le_of_eq rfl) (hb hby at_204) (fun _ _ => ⟨rfl, eT, (by decide : 4 + 0 ≤ _), (by decide : 20 + 0 ≤ _)⟩)
      dsimp only [Pt.U, Pt.locs, Pt.cells, Pt.slots] at X65 l65 y65 z65 st65 hQ65
      subst l65 y65 z65
      obtain ⟨rfl, N65q, hh65⟩ := hQ65
      have N65 := Fr.app Nf N65q
      have pre65 : Steps p.tables e below _ (T65.setTop (mkF m 207 #[.val (.int p1), .val (.int p2), .val (.int p3), .val (.int p4), .val (.int p5), .val (.int nn), .val (.int u0), .val (.int u1), .val (.int u2), .val (.int u3), .val (.ref cb), .val (.ref sb), .unset] [(.int (own_ws_0_6 u3))])) := pre64.trans (st65 _ (Steps.refl _))
      rcases Decidable.em (own_ws_0_6 u3 = 0) with hb3 | hb3
      · have hz := hb3
        have pre66 : Steps p.tables e below _ (T65.setTop (mkF m 215 #[.val (.int p1), .val (.int p2), .val (.int p3), .val (.int p4), .val (.int p5), .val (.int nn), .val (.int u0), .val (.int u1), .val (.int u2), .val (.int u3), .val (.ref cb), .val (.ref sb), .unset] [(.int (0 : Int32))])) := pre65.trans (by
          show Steps p.tables e below (T65.setTop (mkF m 207 #[.val (.int p1), .val (.int p2), .val (.int p3), .val (.int p4), .val (.int p5), .val (.int nn), .val (.int u0), .val (.int u1), .val (.int u2), .val (.int u3), .val (.ref cb), .val (.ref sb), .unset] [(.int (own_ws_0_6 u3))])) _
          refine XS.ifYes X65.here hx rfl (pc0 := 207) (pc' := 214) rfl (hb hby at_207) rfl ((if0 _ _).trans (teq hz).1) (by decide) (by decide) ?_
          show Steps p.tables e below (T65.setTop (mkF m 214 #[.val (.int p1), .val (.int p2), .val (.int p3), .val (.int p4), .val (.int p5), .val (.int nn), .val (.int u0), .val (.int u1), .val (.int u2), .val (.int u3), .val (.ref cb), .val (.ref sb), .unset] [])) _
          refine XS.iconst X65.here hx rfl (hb hby at_214) ?_
          exact Steps.refl _)
        exact ⟨T65, _, (0 : Int32), X65, N65, hh65, Or.inr ⟨rfl, 3, by omega, hz⟩, pre66⟩
      · have hz := hb3
        have pre67 : Steps p.tables e below _ (T65.setTop (mkF m 210 #[.val (.int p1), .val (.int p2), .val (.int p3), .val (.int p4), .val (.int p5), .val (.int nn), .val (.int u0), .val (.int u1), .val (.int u2), .val (.int u3), .val (.ref cb), .val (.ref sb), .unset] [])) := pre65.trans (by
          show Steps p.tables e below (T65.setTop (mkF m 207 #[.val (.int p1), .val (.int p2), .val (.int p3), .val (.int p4), .val (.int p5), .val (.int nn), .val (.int u0), .val (.int u1), .val (.int u2), .val (.int u3), .val (.ref cb), .val (.ref sb), .unset] [(.int (own_ws_0_6 u3))])) _
          refine XS.ifNo X65.here hx rfl (hb hby at_207) rfl ((if0 _ _).trans (feq hz).1) ?_
          exact Steps.refl _)
        obtain ⟨T', lc', ev, q1, q2, q3, q4, q5⟩ := sg4 T65 _ X65 N65 hh65
        exact ⟨T', lc', ev, q1, q2, q3, q4.imp (fun q => ⟨q.1, fun j h1 h2 => by
            by_cases e : j = 3
            · subst e; exact hz
            · exact q.2 j (by omega) h2⟩) id, pre67.trans q5⟩
  have sg2 : ∀ (T : State) (locs : List Loc), Stand p l e room_1 (s.setVm vm0) m #[(.int p1), (.int p2), (.int p3), (.int p4), (.int p5)] below meth c T locs 4 20 → Fr n0 locs → T.heap = T9.heap → ∃ (T' : State) (locs' : List Loc) (ev : Int32), Stand p l e room_1 (s.setVm vm0) m #[(.int p1), (.int p2), (.int p3), (.int p4), (.int p5)] below meth c T' locs' 4 20 ∧ Fr n0 locs' ∧ T'.heap = T9.heap ∧ ((ev = (1 : Int32) ∧ ∀ j : Nat, 2 ≤ j → (j : Int) < nn.toInt → ¬ own_ws_0_6 ((own_f u0 u1 u2 u3) j) = 0) ∨ (ev = (0 : Int32) ∧ ∃ j : Nat, (j : Int) < nn.toInt ∧ own_ws_0_6 ((own_f u0 u1 u2 u3) j) = 0)) ∧ Steps p.tables e below (T.setTop (mkF m 182 #[.val (.int p1), .val (.int p2), .val (.int p3), .val (.int p4), .val (.int p5), .val (.int nn), .val (.int u0), .val (.int u1), .val (.int u2), .val (.int u3), .val (.ref cb), .val (.ref sb), .unset] [])) (T'.setTop (mkF m 215 #[.val (.int p1), .val (.int p2), .val (.int p3), .val (.int p4), .val (.int p5), .val (.int nn), .val (.int u0), .val (.int u1), .val (.int u2), .val (.int u3), .val (.ref cb), .val (.ref sb), .unset] [(.int ev)])) := by
    intro T locs X Nf eT
    have preL : Steps p.tables e below (T.setTop (mkF m 182 #[.val (.int p1), .val (.int p2), .val (.int p3), .val (.int p4), .val (.int p5), .val (.int nn), .val (.int u0), .val (.int u1), .val (.int u2), .val (.int u3), .val (.ref cb), .val (.ref sb), .unset] [])) (T.setTop (mkF m 182 #[.val (.int p1), .val (.int p2), .val (.int p3), .val (.int p4), .val (.int p5), .val (.int nn), .val (.int u0), .val (.int u1), .val (.int u2), .val (.int u3), .val (.ref cb), .val (.ref sb), .unset] [])) := Steps.refl _
    have el : (3 : Int32).toInt = 3 := rfl
    rcases Decidable.em (nn < (3 : Int32)) with hb2 | hb2
    · have hlt := hb2
      have hlt2 : nn.toInt < 3 := by rw [own_lt, el] at hlt; exact hlt
      have pre68 : Steps p.tables e below _ (T.setTop (mkF m 196 #[.val (.int p1), .val (.int p2), .val (.int p3), .val (.int p4), .val (.int p5), .val (.int nn), .val (.int u0), .val (.int u1), .val (.int u2), .val (.int u3), .val (.ref cb), .val (.ref sb), .unset] [])) := preL.trans (by
        show Steps p.tables e below (T.setTop (mkF m 182 #[.val (.int p1), .val (.int p2), .val (.int p3), .val (.int p4), .val (.int p5), .val (.int nn), .val (.int u0), .val (.int u1), .val (.int u2), .val (.int u3), .val (.ref cb), .val (.ref sb), .unset] [])) _
        refine XS.iload X.here hx rfl (hb hby at_182) rfl ?_
        show Steps p.tables e below (T.setTop (mkF m 184 #[.val (.int p1), .val (.int p2), .val (.int p3), .val (.int p4), .val (.int p5), .val (.int nn), .val (.int u0), .val (.int u1), .val (.int u2), .val (.int u3), .val (.ref cb), .val (.ref sb), .unset] [(.int nn)])) _
        refine XS.iconst X.here hx rfl (hb hby at_184) ?_
        show Steps p.tables e below (T.setTop (mkF m 185 #[.val (.int p1), .val (.int p2), .val (.int p3), .val (.int p4), .val (.int p5), .val (.int nn), .val (.int u0), .val (.int u1), .val (.int u2), .val (.int u3), .val (.ref cb), .val (.ref sb), .unset] [(.int (3 : Int32)), (.int nn)])) _
        refine XS.icmpYes X.here hx rfl (pc0 := 185) (pc' := 196) rfl (hb hby at_185) rfl (tlt hlt).1 (by decide) (by decide) ?_
        exact Steps.refl _)
      obtain ⟨T', lc', ev, q1, q2, q3, q4, q5⟩ := sg3 T _ X Nf eT
      exact ⟨T', lc', ev, q1, q2, q3, q4.imp (fun q => ⟨q.1, fun j h1 h2 => q.2 j (by omega) h2⟩) id, pre68.trans q5⟩
    · have hlt := hb2
      have hlt2 : ¬ nn.toInt < 3 := by rw [own_lt, el] at hlt; exact hlt
      have pre69 : Steps p.tables e below _ (T.setTop (mkF m 190 #[.val (.int p1), .val (.int p2), .val (.int p3), .val (.int p4), .val (.int p5), .val (.int nn), .val (.int u0), .val (.int u1), .val (.int u2), .val (.int u3), .val (.ref cb), .val (.ref sb), .unset] [(.int u2)])) := preL.trans (by
        show Steps p.tables e below (T.setTop (mkF m 182 #[.val (.int p1), .val (.int p2), .val (.int p3), .val (.int p4), .val (.int p5), .val (.int nn), .val (.int u0), .val (.int u1), .val (.int u2), .val (.int u3), .val (.ref cb), .val (.ref sb), .unset] [])) _
        refine XS.iload X.here hx rfl (hb hby at_182) rfl ?_
        show Steps p.tables e below (T.setTop (mkF m 184 #[.val (.int p1), .val (.int p2), .val (.int p3), .val (.int p4), .val (.int p5), .val (.int nn), .val (.int u0), .val (.int u1), .val (.int u2), .val (.int u3), .val (.ref cb), .val (.ref sb), .unset] [(.int nn)])) _
        refine XS.iconst X.here hx rfl (hb hby at_184) ?_
        show Steps p.tables e below (T.setTop (mkF m 185 #[.val (.int p1), .val (.int p2), .val (.int p3), .val (.int p4), .val (.int p5), .val (.int nn), .val (.int u0), .val (.int u1), .val (.int u2), .val (.int u3), .val (.ref cb), .val (.ref sb), .unset] [(.int (3 : Int32)), (.int nn)])) _
        refine XS.icmpNo X.here hx rfl (hb hby at_185) rfl (flt hlt).1 ?_
        show Steps p.tables e below (T.setTop (mkF m 188 #[.val (.int p1), .val (.int p2), .val (.int p3), .val (.int p4), .val (.int p5), .val (.int nn), .val (.int u0), .val (.int u1), .val (.int u2), .val (.int u3), .val (.ref cb), .val (.ref sb), .unset] [])) _
        refine XS.iload X.here hx rfl (hb hby at_188) rfl ?_
        exact Steps.refl _)
      obtain ⟨_, _, ⟨T70, L70, k70, n70⟩, -, X70, ⟨Lc70, hQ70, l70, y70, z70⟩, st70⟩ := Jvm.LawKit.callS X hx (y := (⟨"com/example/summarium/summarium/cda/CdaElementsIsWhiteSpacePinLaw", "ws", "(C)Z"⟩ : MethodName)) hown (mvT hZ (hw _ (List.mem_of_getElem? (i := 52) rfl))) (mvT hZ (hw _ (List.mem_of_getElem? (i := 53) rfl))) (mvT hZ (hw _ (List.mem_of_getElem? (i := 3) rfl))) (mvT hZ (hw _ (List.mem_of_getElem? (i := 54) rfl))) (by decide) (backOf (W := 0) (rmWs l Z a0 hw [] u2 T9.heap n0 Z9) hZ (hw _ (List.mem_of_getElem? (i := 54) rfl)) (hw _ (List.mem_of_getElem? (i := 3) rfl)) (by decide) (by decide)) (g := (mkF m 190 #[.val (.int p1), .val (.int p2), .val (.int p3), .val (.int p4), .val (.int p5), .val (.int nn), .val (.int u0), .val (.int u1), .val (.int u2), .val (.int u3), .val (.ref cb), .val (.ref sb), .unset] [(.int u2)])) rfl (by rw [hml]; rfl) (argsL := [(.int u2)]) (rest := []) (lenOf pd_rm0_2 rfl) rfl (by show 2 * 0 + _ ≤ _; exact Nat.le_of_eq rfl) (hb hby at_190) (fun _ _ => ⟨rfl, eT, (by decide : 4 + 0 ≤ _), (by decide : 20 + 0 ≤ _)⟩)
      dsimp only [Pt.U, Pt.locs, Pt.cells, Pt.slots] at X70 l70 y70 z70 st70 hQ70
      subst l70 y70 z70
      obtain ⟨rfl, N70q, hh70⟩ := hQ70
      have N70 := Fr.app Nf N70q
      have pre70 : Steps p.tables e below _ (T70.setTop (mkF m 193 #[.val (.int p1), .val (.int p2), .val (.int p3), .val (.int p4), .val (.int p5), .val (.int nn), .val (.int u0), .val (.int u1), .val (.int u2), .val (.int u3), .val (.ref cb), .val (.ref sb), .unset] [(.int (own_ws_0_6 u2))])) := pre69.trans (st70 _ (Steps.refl _))
      rcases Decidable.em (own_ws_0_6 u2 = 0) with hb3 | hb3
      · have hz := hb3
        have pre71 : Steps p.tables e below _ (T70.setTop (mkF m 215 #[.val (.int p1), .val (.int p2), .val (.int p3), .val (.int p4), .val (.int p5), .val (.int nn), .val (.int u0), .val (.int u1), .val (.int u2), .val (.int u3), .val (.ref cb), .val (.ref sb), .unset] [(.int (0 : Int32))])) := pre70.trans (by
          show Steps p.tables e below (T70.setTop (mkF m 193 #[.val (.int p1), .val (.int p2), .val (.int p3), .val (.int p4), .val (.int p5), .val (.int nn), .val (.int u0), .val (.int u1), .val (.int u2), .val (.int u3), .val (.ref cb), .val (.ref sb), .unset] [(.int (own_ws_0_6 u2))])) _
          refine XS.ifYes X70.here hx rfl (pc0 := 193) (pc' := 214) rfl (hb hby at_193) rfl ((if0 _ _).trans (teq hz).1) (by decide) (by decide) ?_
          show Steps p.tables e below (T70.setTop (mkF m 214 #[.val (.int p1), .val (.int p2), .val (.int p3), .val (.int p4), .val (.int p5), .val (.int nn), .val (.int u0), .val (.int u1), .val (.int u2), .val (.int u3), .val (.ref cb), .val (.ref sb), .unset] [])) _
          refine XS.iconst X70.here hx rfl (hb hby at_214) ?_
          exact Steps.refl _)
        exact ⟨T70, _, (0 : Int32), X70, N70, hh70, Or.inr ⟨rfl, 2, by omega, hz⟩, pre71⟩
      · have hz := hb3
        have pre72 : Steps p.tables e below _ (T70.setTop (mkF m 196 #[.val (.int p1), .val (.int p2), .val (.int p3), .val (.int p4), .val (.int p5), .val (.int nn), .val (.int u0), .val (.int u1), .val (.int u2), .val (.int u3), .val (.ref cb), .val (.ref sb), .unset] [])) := pre70.trans (by
          show Steps p.tables e below (T70.setTop (mkF m 193 #[.val (.int p1), .val (.int p2), .val (.int p3), .val (.int p4), .val (.int p5), .val (.int nn), .val (.int u0), .val (.int u1), .val (.int u2), .val (.int u3), .val (.ref cb), .val (.ref sb), .unset] [(.int (own_ws_0_6 u2))])) _
          refine XS.ifNo X70.here hx rfl (hb hby at_193) rfl ((if0 _ _).trans (feq hz).1) ?_
          exact Steps.refl _)
        obtain ⟨T', lc', ev, q1, q2, q3, q4, q5⟩ := sg3 T70 _ X70 N70 hh70
        exact ⟨T', lc', ev, q1, q2, q3, q4.imp (fun q => ⟨q.1, fun j h1 h2 => by
            by_cases e : j = 2
            · subst e; exact hz
            · exact q.2 j (by omega) h2⟩) id, pre72.trans q5⟩
  have sg1 : ∀ (T : State) (locs : List Loc), Stand p l e room_1 (s.setVm vm0) m #[(.int p1), (.int p2), (.int p3), (.int p4), (.int p5)] below meth c T locs 4 20 → Fr n0 locs → T.heap = T9.heap → ∃ (T' : State) (locs' : List Loc) (ev : Int32), Stand p l e room_1 (s.setVm vm0) m #[(.int p1), (.int p2), (.int p3), (.int p4), (.int p5)] below meth c T' locs' 4 20 ∧ Fr n0 locs' ∧ T'.heap = T9.heap ∧ ((ev = (1 : Int32) ∧ ∀ j : Nat, 1 ≤ j → (j : Int) < nn.toInt → ¬ own_ws_0_6 ((own_f u0 u1 u2 u3) j) = 0) ∨ (ev = (0 : Int32) ∧ ∃ j : Nat, (j : Int) < nn.toInt ∧ own_ws_0_6 ((own_f u0 u1 u2 u3) j) = 0)) ∧ Steps p.tables e below (T.setTop (mkF m 168 #[.val (.int p1), .val (.int p2), .val (.int p3), .val (.int p4), .val (.int p5), .val (.int nn), .val (.int u0), .val (.int u1), .val (.int u2), .val (.int u3), .val (.ref cb), .val (.ref sb), .unset] [])) (T'.setTop (mkF m 215 #[.val (.int p1), .val (.int p2), .val (.int p3), .val (.int p4), .val (.int p5), .val (.int nn), .val (.int u0), .val (.int u1), .val (.int u2), .val (.int u3), .val (.ref cb), .val (.ref sb), .unset] [(.int ev)])) := by
    intro T locs X Nf eT
    have preL : Steps p.tables e below (T.setTop (mkF m 168 #[.val (.int p1), .val (.int p2), .val (.int p3), .val (.int p4), .val (.int p5), .val (.int nn), .val (.int u0), .val (.int u1), .val (.int u2), .val (.int u3), .val (.ref cb), .val (.ref sb), .unset] [])) (T.setTop (mkF m 168 #[.val (.int p1), .val (.int p2), .val (.int p3), .val (.int p4), .val (.int p5), .val (.int nn), .val (.int u0), .val (.int u1), .val (.int u2), .val (.int u3), .val (.ref cb), .val (.ref sb), .unset] [])) := Steps.refl _
    have el : (2 : Int32).toInt = 2 := rfl
    rcases Decidable.em (nn < (2 : Int32)) with hb2 | hb2
    · have hlt := hb2
      have hlt2 : nn.toInt < 2 := by rw [own_lt, el] at hlt; exact hlt
      have pre73 : Steps p.tables e below _ (T.setTop (mkF m 182 #[.val (.int p1), .val (.int p2), .val (.int p3), .val (.int p4), .val (.int p5), .val (.int nn), .val (.int u0), .val (.int u1), .val (.int u2), .val (.int u3), .val (.ref cb), .val (.ref sb), .unset] [])) := preL.trans (by
        show Steps p.tables e below (T.setTop (mkF m 168 #[.val (.int p1), .val (.int p2), .val (.int p3), .val (.int p4), .val (.int p5), .val (.int nn), .val (.int u0), .val (.int u1), .val (.int u2), .val (.int u3), .val (.ref cb), .val (.ref sb), .unset] [])) _
        refine XS.iload X.here hx rfl (hb hby at_168) rfl ?_
        show Steps p.tables e below (T.setTop (mkF m 170 #[.val (.int p1), .val (.int p2), .val (.int p3), .val (.int p4), .val (.int p5), .val (.int nn), .val (.int u0), .val (.int u1), .val (.int u2), .val (.int u3), .val (.ref cb), .val (.ref sb), .unset] [(.int nn)])) _
        refine XS.iconst X.here hx rfl (hb hby at_170) ?_
        show Steps p.tables e below (T.setTop (mkF m 171 #[.val (.int p1), .val (.int p2), .val (.int p3), .val (.int p4), .val (.int p5), .val (.int nn), .val (.int u0), .val (.int u1), .val (.int u2), .val (.int u3), .val (.ref cb), .val (.ref sb), .unset] [(.int (2 : Int32)), (.int nn)])) _
        refine XS.icmpYes X.here hx rfl (pc0 := 171) (pc' := 182) rfl (hb hby at_171) rfl (tlt hlt).1 (by decide) (by decide) ?_
        exact Steps.refl _)
      obtain ⟨T', lc', ev, q1, q2, q3, q4, q5⟩ := sg2 T _ X Nf eT
      exact ⟨T', lc', ev, q1, q2, q3, q4.imp (fun q => ⟨q.1, fun j h1 h2 => q.2 j (by omega) h2⟩) id, pre73.trans q5⟩
    · have hlt := hb2
      have hlt2 : ¬ nn.toInt < 2 := by rw [own_lt, el] at hlt; exact hlt
      have pre74 : Steps p.tables e below _ (T.setTop (mkF m 176 #[.val (.int p1), .val (.int p2), .val (.int p3), .val (.int p4), .val (.int p5), .val (.int nn), .val (.int u0), .val (.int u1), .val (.int u2), .val (.int u3), .val (.ref cb), .val (.ref sb), .unset] [(.int u1)])) := preL.trans (by
        show Steps p.tables e below (T.setTop (mkF m 168 #[.val (.int p1), .val (.int p2), .val (.int p3), .val (.int p4), .val (.int p5), .val (.int nn), .val (.int u0), .val (.int u1), .val (.int u2), .val (.int u3), .val (.ref cb), .val (.ref sb), .unset] [])) _
        refine XS.iload X.here hx rfl (hb hby at_168) rfl ?_
        show Steps p.tables e below (T.setTop (mkF m 170 #[.val (.int p1), .val (.int p2), .val (.int p3), .val (.int p4), .val (.int p5), .val (.int nn), .val (.int u0), .val (.int u1), .val (.int u2), .val (.int u3), .val (.ref cb), .val (.ref sb), .unset] [(.int nn)])) _
        refine XS.iconst X.here hx rfl (hb hby at_170) ?_
        show Steps p.tables e below (T.setTop (mkF m 171 #[.val (.int p1), .val (.int p2), .val (.int p3), .val (.int p4), .val (.int p5), .val (.int nn), .val (.int u0), .val (.int u1), .val (.int u2), .val (.int u3), .val (.ref cb), .val (.ref sb), .unset] [(.int (2 : Int32)), (.int nn)])) _
        refine XS.icmpNo X.here hx rfl (hb hby at_171) rfl (flt hlt).1 ?_
        show Steps p.tables e below (T.setTop (mkF m 174 #[.val (.int p1), .val (.int p2), .val (.int p3), .val (.int p4), .val (.int p5), .val (.int nn), .val (.int u0), .val (.int u1), .val (.int u2), .val (.int u3), .val (.ref cb), .val (.ref sb), .unset] [])) _
        refine XS.iload X.here hx rfl (hb hby at_174) rfl ?_
        exact Steps.refl _)
      obtain ⟨_, _, ⟨T75, L75, k75, n75⟩, -, X75, ⟨Lc75, hQ75, l75, y75, z75⟩, st75⟩ := Jvm.LawKit.callS X hx (y := (⟨"com/example/summarium/summarium/cda/CdaElementsIsWhiteSpacePinLaw", "ws", "(C)Z"⟩ : MethodName)) hown (mvT hZ (hw _ (List.mem_of_getElem? (i := 52) rfl))) (mvT hZ (hw _ (List.mem_of_getElem? (i := 53) rfl))) (mvT hZ (hw _ (List.mem_of_getElem? (i := 3) rfl))) (mvT hZ (hw _ (List.mem_of_getElem? (i := 54) rfl))) (by decide) (backOf (W := 0) (rmWs l Z a0 hw [] u1 T9.heap n0 Z9) hZ (hw _ (List.mem_of_getElem? (i := 54) rfl)) (hw _ (List.mem_of_getElem? (i := 3) rfl)) (by decide) (by decide)) (g := (mkF m 176 #[.val (.int p1), .val (.int p2), .val (.int p3), .val (.int p4), .val (.int p5), .val (.int nn), .val (.int u0), .val (.int u1), .val (.int u2), .val (.int u3), .val (.ref cb), .val (.ref sb), .unset] [(.int u1)])) rfl (by rw [hml]; rfl) (argsL := [(.int u1)]) (rest := []) (lenOf pd_rm0_2 rfl) rfl (by show 2 * 0 + _ ≤ _; exact Nat.le_of_eq rfl) (hb hby at_176) (fun _ _ => ⟨rfl, eT, (by decide : 4 + 0 ≤ _), (by decide : 20 + 0 ≤ _)⟩)
      dsimp only [Pt.U, Pt.locs, Pt.cells, Pt.slots] at X75 l75 y75 z75 st75 hQ75
      subst l75 y75 z75
      obtain ⟨rfl, N75q, hh75⟩ := hQ75
      have N75 := Fr.app Nf N75q
      have pre75 : Steps p.tables e below _ (T75.setTop (mkF m 179 #[.val (.int p1), .val (.int p2), .val (.int p3), .val (.int p4), .val (.int p5), .val (.int nn), .val (.int u0), .val (.int u1), .val (.int u2), .val (.int u3), .val (.ref cb), .val (.ref sb), .unset] [(.int (own_ws_0_6 u1))])) := pre74.trans (st75 _ (Steps.refl _))
      rcases Decidable.em (own_ws_0_6 u1 = 0) with hb3 | hb3
      · have hz := hb3
        have pre76 : Steps p.tables e below _ (T75.setTop (mkF m 215 #[.val (.int p1), .val (.int p2), .val (.int p3), .val (.int p4), .val (.int p5), .val (.int nn), .val (.int u0), .val (.int u1), .val (.int u2), .val (.int u3), .val (.ref cb), .val (.ref sb), .unset] [(.int (0 : Int32))])) := pre75.trans (by
          show Steps p.tables e below (T75.setTop (mkF m 179 #[.val (.int p1), .val (.int p2), .val (.int p3), .val (.int p4), .val (.int p5), .val (.int nn), .val (.int u0), .val (.int u1), .val (.int u2), .val (.int u3), .val (.ref cb), .val (.ref sb), .unset] [(.int (own_ws_0_6 u1))])) _
          refine XS.ifYes X75.here hx rfl (pc0 := 179) (pc' := 214) rfl (hb hby at_179) rfl ((if0 _ _).trans (teq hz).1) (by decide) (by decide) ?_
          show Steps p.tables e below (T75.setTop (mkF m 214 #[.val (.int p1), .val (.int p2), .val (.int p3), .val (.int p4), .val (.int p5), .val (.int nn), .val (.int u0), .val (.int u1), .val (.int u2), .val (.int u3), .val (.ref cb), .val (.ref sb), .unset] [])) _
          refine XS.iconst X75.here hx rfl (hb hby at_214) ?_
          exact Steps.refl _)
        exact ⟨T75, _, (0 : Int32), X75, N75, hh75, Or.inr ⟨rfl, 1, by omega, hz⟩, pre76⟩
      · have hz := hb3
        have pre77 : Steps p.tables e below _ (T75.setTop (mkF m 182 #[.val (.int p1), .val (.int p2), .val (.int p3), .val (.int p4), .val (.int p5), .val (.int nn), .val (.int u0), .val (.int u1), .val (.int u2), .val (.int u3), .val (.ref cb), .val (.ref sb), .unset] [])) := pre75.trans (by
          show Steps p.tables e below (T75.setTop (mkF m 179 #[.val (.int p1), .val (.int p2), .val (.int p3), .val (.int p4), .val (.int p5), .val (.int nn), .val (.int u0), .val (.int u1), .val (.int u2), .val (.int u3), .val (.ref cb), .val (.ref sb), .unset] [(.int (own_ws_0_6 u1))])) _
          refine XS.ifNo X75.here hx rfl (hb hby at_179) rfl ((if0 _ _).trans (feq hz).1) ?_
          exact Steps.refl _)
        obtain ⟨T', lc', ev, q1, q2, q3, q4, q5⟩ := sg2 T75 _ X75 N75 hh75
        exact ⟨T', lc', ev, q1, q2, q3, q4.imp (fun q => ⟨q.1, fun j h1 h2 => by
            by_cases e : j = 1
            · subst e; exact hz
            · exact q.2 j (by omega) h2⟩) id, pre77.trans q5⟩
  have sg0 : ∀ (T : State) (locs : List Loc), Stand p l e room_1 (s.setVm vm0) m #[(.int p1), (.int p2), (.int p3), (.int p4), (.int p5)] below meth c T locs 4 20 → Fr n0 locs → T.heap = T9.heap → ∃ (T' : State) (locs' : List Loc) (ev : Int32), Stand p l e room_1 (s.setVm vm0) m #[(.int p1), (.int p2), (.int p3), (.int p4), (.int p5)] below meth c T' locs' 4 20 ∧ Fr n0 locs' ∧ T'.heap = T9.heap ∧ ((ev = (1 : Int32) ∧ ∀ j : Nat, 0 ≤ j → (j : Int) < nn.toInt → ¬ own_ws_0_6 ((own_f u0 u1 u2 u3) j) = 0) ∨ (ev = (0 : Int32) ∧ ∃ j : Nat, (j : Int) < nn.toInt ∧ own_ws_0_6 ((own_f u0 u1 u2 u3) j) = 0)) ∧ Steps p.tables e below (T.setTop (mkF m 154 #[.val (.int p1), .val (.int p2), .val (.int p3), .val (.int p4), .val (.int p5), .val (.int nn), .val (.int u0), .val (.int u1), .val (.int u2), .val (.int u3), .val (.ref cb), .val (.ref sb), .unset] [])) (T'.setTop (mkF m 215 #[.val (.int p1), .val (.int p2), .val (.int p3), .val (.int p4), .val (.int p5), .val (.int nn), .val (.int u0), .val (.int u1), .val (.int u2), .val (.int u3), .val (.ref cb), .val (.ref sb), .unset] [(.int ev)])) := by
    intro T locs X Nf eT
    have preL : Steps p.tables e below (T.setTop (mkF m 154 #[.val (.int p1), .val (.int p2), .val (.int p3), .val (.int p4), .val (.int p5), .val (.int nn), .val (.int u0), .val (.int u1), .val (.int u2), .val (.int u3), .val (.ref cb), .val (.ref sb), .unset] [])) (T.setTop (mkF m 154 #[.val (.int p1), .val (.int p2), .val (.int p3), .val (.int p4), .val (.int p5), .val (.int nn), .val (.int u0), .val (.int u1), .val (.int u2), .val (.int u3), .val (.ref cb), .val (.ref sb), .unset] [])) := Steps.refl _
    have el : (1 : Int32).toInt = 1 := rfl
    rcases Decidable.em (nn < (1 : Int32)) with hb2 | hb2
    · have hlt := hb2
      have hlt2 : nn.toInt < 1 := by rw [own_lt, el] at hlt; exact hlt
      have pre78 : Steps p.tables e below _ (T.setTop (mkF m 168 #[.val (.int p1), .val (.int p2), .val (.int p3), .val (.int p4), .val (.int p5), .val (.int nn), .val (.int u0), .val (.int u1), .val (.int u2), .val (.int u3), .val (.ref cb), .val (.ref sb), .unset] [])) := preL.trans (by
        show Steps p.tables e below (T.setTop (mkF m 154 #[.val (.int p1), .val (.int p2), .val (.int p3), .val (.int p4), .val (.int p5), .val (.int nn), .val (.int u0), .val (.int u1), .val (.int u2), .val (.int u3), .val (.ref cb), .val (.ref sb), .unset] [])) _
        refine XS.iload X.here hx rfl (hb hby at_154) rfl ?_
        show Steps p.tables e below (T.setTop (mkF m 156 #[.val (.int p1), .val (.int p2), .val (.int p3), .val (.int p4), .val (.int p5), .val (.int nn), .val (.int u0), .val (.int u1), .val (.int u2), .val (.int u3), .val (.ref cb), .val (.ref sb), .unset] [(.int nn)])) _
        refine XS.iconst X.here hx rfl (hb hby at_156) ?_
        show Steps p.tables e below (T.setTop (mkF m 157 #[.val (.int p1), .val (.int p2), .val (.int p3), .val (.int p4), .val (.int p5), .val (.int nn), .val (.int u0), .val (.int u1), .val (.int u2), .val (.int u3), .val (.ref cb), .val (.ref sb), .unset] [(.int (1 : Int32)), (.int nn)])) _
        refine XS.icmpYes X.here hx rfl (pc0 := 157) (pc' := 168) rfl (hb hby at_157) rfl (tlt hlt).1 (by decide) (by decide) ?_
        exact Steps.refl _)
      obtain ⟨T', lc', ev, q1, q2, q3, q4, q5⟩ := sg1 T _ X Nf eT
      exact ⟨T', lc', ev, q1, q2, q3, q4.imp (fun q => ⟨q.1, fun j h1 h2 => q.2 j (by omega) h2⟩) id, pre78.trans q5⟩
    · have hlt := hb2
      have hlt2 : ¬ nn.toInt < 1 := by rw [own_lt, el] at hlt; exact hlt
      have pre79 : Steps p.tables e below _ (T.setTop (mkF m 162 #[.val (.int p1), .val (.int p2), .val (.int p3), .val (.int p4), .val (.int p5), .val (.int nn), .val (.int u0), .val (.int u1), .val (.int u2), .val (.int u3), .val (.ref cb), .val (.ref sb), .unset] [(.int u0)])) := preL.trans (by
        show Steps p.tables e below (T.setTop (mkF m 154 #[.val (.int p1), .val (.int p2), .val (.int p3), .val (.int p4), .val (.int p5), .val (.int nn), .val (.int u0), .val (.int u1), .val (.int u2), .val (.int u3), .val (.ref cb), .val (.ref sb), .unset] [])) _
        refine XS.iload X.here hx rfl (hb hby at_154) rfl ?_
        show Steps p.tables e below (T.setTop (mkF m 156 #[.val (.int p1), .val (.int p2), .val (.int p3), .val (.int p4), .val (.int p5), .val (.int nn), .val (.int u0), .val (.int u1), .val (.int u2), .val (.int u3), .val (.ref cb), .val (.ref sb), .unset] [(.int nn)])) _
        refine XS.iconst X.here hx rfl (hb hby at_156) ?_
        show Steps p.tables e below (T.setTop (mkF m 157 #[.val (.int p1), .val (.int p2), .val (.int p3), .val (.int p4), .val (.int p5), .val (.int nn), .val (.int u0), .val (.int u1), .val (.int u2), .val (.int u3), .val (.ref cb), .val (.ref sb), .unset] [(.int (1 : Int32)), (.int nn)])) _
        refine XS.icmpNo X.here hx rfl (hb hby at_157) rfl (flt hlt).1 ?_
        show Steps p.tables e below (T.setTop (mkF m 160 #[.val (.int p1), .val (.int p2), .val (.int p3), .val (.int p4), .val (.int p5), .val (.int nn), .val (.int u0), .val (.int u1), .val (.int u2), .val (.int u3), .val (.ref cb), .val (.ref sb), .unset] [])) _
        refine XS.iload X.here hx rfl (hb hby at_160) rfl ?_
        exact Steps.refl _)
      obtain ⟨_, _, ⟨T80, L80, k80, n80⟩, -, X80, ⟨Lc80, hQ80, l80, y80, z80⟩, st80⟩ := Jvm.LawKit.callS X hx (y := (⟨"com/example/summarium/summarium/cda/CdaElementsIsWhiteSpacePinLaw", "ws", "(C)Z"⟩ : MethodName)) hown (mvT hZ (hw _ (List.mem_of_getElem? (i := 52) rfl))) (mvT hZ (hw _ (List.mem_of_getElem? (i := 53) rfl))) (mvT hZ (hw _ (List.mem_of_getElem? (i := 3) rfl))) (mvT hZ (hw _ (List.mem_of_getElem? (i := 54) rfl))) (by decide) (backOf (W := 0) (rmWs l Z a0 hw [] u0 T9.heap n0 Z9) hZ (hw _ (List.mem_of_getElem? (i := 54) rfl)) (hw _ (List.mem_of_getElem? (i := 3) rfl)) (by decide) (by decide)) (g := (mkF m 162 #[.val (.int p1), .val (.int p2), .val (.int p3), .val (.int p4), .val (.int p5), .val (.int nn), .val (.int u0), .val (.int u1), .val (.int u2), .val (.int u3), .val (.ref cb), .val (.ref sb), .unset] [(.int u0)])) rfl (by rw [hml]; rfl) (argsL := [(.int u0)]) (rest := []) (lenOf pd_rm0_2 rfl) rfl (by show 2 * 0 + _ ≤ _; exact Nat.le_of_eq rfl) (hb hby at_162) (fun _ _ => ⟨rfl, eT, (by decide : 4 + 0 ≤ _), (by decide : 20 + 0 ≤ _)⟩)
      dsimp only [Pt.U, Pt.locs, Pt.cells, Pt.slots] at X80 l80 y80 z80 st80 hQ80
      subst l80 y80 z80
      obtain ⟨rfl, N80q, hh80⟩ := hQ80
      have N80 := Fr.app Nf N80q
      have pre80 : Steps p.tables e below _ (T80.setTop (mkF m 165 #[.val (.int p1), .val (.int p2), .val (.int p3), .val (.int p4), .val (.int p5), .val (.int nn), .val (.int u0), .val (.int u1), .val (.int u2), .val (.int u3), .val (.ref cb), .val (.ref sb), .unset] [(.int (own_ws_0_6 u0))])) := pre79.trans (st80 _ (Steps.refl _))
      rcases Decidable.em (own_ws_0_6 u0 = 0) with hb3 | hb3
      · have hz := hb3
        have pre81 : Steps p.tables e below _ (T80.setTop (mkF m 215 #[.val (.int p1), .val (.int p2), .val (.int p3), .val (.int p4), .val (.int p5), .val (.int nn), .val (.int u0), .val (.int u1), .val (.int u2), .val (.int u3), .val (.ref cb), .val (.ref sb), .unset] [(.int (0 : Int32))])) := pre80.trans (by
          show Steps p.tables e below (T80.setTop (mkF m 165 #[.val (.int p1), .val (.int p2), .val (.int p3), .val (.int p4), .val (.int p5), .val (.int nn), .val (.int u0), .val (.int u1), .val (.int u2), .val (.int u3), .val (.ref cb), .val (.ref sb), .unset] [(.int (own_ws_0_6 u0))])) _
          refine XS.ifYes X80.here hx rfl (pc0 := 165) (pc' := 214) rfl (hb hby at_165) rfl ((if0 _ _).trans (teq hz).1) (by decide) (by decide) ?_
          show Steps p.tables e below (T80.setTop (mkF m 214 #[.val (.int p1), .val (.int p2), .val (.int p3), .val (.int p4), .val (.int p5), .val (.int nn), .val (.int u0), .val (.int u1), .val (.int u2), .val (.int u3), .val (.ref cb), .val (.ref sb), .unset] [])) _
          refine XS.iconst X80.here hx rfl (hb hby at_214) ?_
          exact Steps.refl _)
        exact ⟨T80, _, (0 : Int32), X80, N80, hh80, Or.inr ⟨rfl, 0, by omega, hz⟩, pre81⟩
      · have hz := hb3
        have pre82 : Steps p.tables e below _ (T80.setTop (mkF m 168 #[.val (.int p1), .val (.int p2), .val (.int p3), .val (.int p4), .val (.int p5), .val (.int nn), .val (.int u0), .val (.int u1), .val (.int u2), .val (.int u3), .val (.ref cb), .val (.ref sb), .unset] [])) := pre80.trans (by
          show Steps p.tables e below (T80.setTop (mkF m 165 #[.val (.int p1), .val (.int p2), .val (.int p3), .val (.int p4), .val (.int p5), .val (.int nn), .val (.int u0), .val (.int u1), .val (.int u2), .val (.int u3), .val (.ref cb), .val (.ref sb), .unset] [(.int (own_ws_0_6 u0))])) _
          refine XS.ifNo X80.here hx rfl (hb hby at_165) rfl ((if0 _ _).trans (feq hz).1) ?_
          exact Steps.refl _)
        obtain ⟨T', lc', ev, q1, q2, q3, q4, q5⟩ := sg1 T80 _ X80 N80 hh80
        exact ⟨T', lc', ev, q1, q2, q3, q4.imp (fun q => ⟨q.1, fun j h1 h2 => by
            by_cases e : j = 0
            · subst e; exact hz
            · exact q.2 j (by omega) h2⟩) id, pre82.trans q5⟩
  obtain ⟨T8, l8, ev, X8, N8, e8, hev, st8⟩ := sg0 T9 _ X9 N9 (rfl : T9.heap = T9.heap)
  have pre88 : Steps p.tables e below _ (T8.setTop (mkF m 215 #[.val (.int p1), .val (.int p2), .val (.int p3), .val (.int p4), .val (.int p5), .val (.int nn), .val (.int u0), .val (.int u1), .val (.int u2), .val (.int u3), .val (.ref cb), .val (.ref sb), .unset] [(.int ev)])) := pre61.trans st8
  have pre83 : Steps p.tables e below _ (T8.setTop (mkF m 219 #[.val (.int p1), .val (.int p2), .val (.int p3), .val (.int p4), .val (.int p5), .val (.int nn), .val (.int u0), .val (.int u1), .val (.int u2), .val (.int u3), .val (.ref cb), .val (.ref sb), .val (.int ev)] [(.ref sb)])) := pre88.trans (by
    show Steps p.tables e below (T8.setTop (mkF m 215 #[.val (.int p1), .val (.int p2), .val (.int p3), .val (.int p4), .val (.int p5), .val (.int nn), .val (.int u0), .val (.int u1), .val (.int u2), .val (.int u3), .val (.ref cb), .val (.ref sb), .unset] [(.int ev)])) _
    refine XS.istore X8.here hx rfl (hb hby at_215) rfl (l' := #[.val (.int p1), .val (.int p2), .val (.int p3), .val (.int p4), .val (.int p5), .val (.int nn), .val (.int u0), .val (.int u1), .val (.int u2), .val (.int u3), .val (.ref cb), .val (.ref sb), .val (.int ev)]) rfl ?_
    show Steps p.tables e below (T8.setTop (mkF m 217 #[.val (.int p1), .val (.int p2), .val (.int p3), .val (.int p4), .val (.int p5), .val (.int nn), .val (.int u0), .val (.int u1), .val (.int u2), .val (.int u3), .val (.ref cb), .val (.ref sb), .val (.int ev)] [])) _
    refine XS.aload X8.here hx rfl (hb hby at_217) rfl rfl ?_
    exact Steps.refl _)
  obtain ⟨_, _, ⟨T84, L84, k84, n84⟩, -, X84, ⟨Lc84, hQ84, l84, y84, z84⟩, st84⟩ := Jvm.LawKit.callS X8 hx (y := (⟨"com/example/summarium/summarium/cda/CdaElements", "isWhiteSpace", "(Ljava/lang/String;)Z"⟩ : MethodName)) hown (mvT hZ (hw _ (List.mem_of_getElem? (i := 27) rfl))) (mvT hZ (hw _ (List.mem_of_getElem? (i := 28) rfl))) (mvT hZ (hw _ (List.mem_of_getElem? (i := 29) rfl))) (mvT hZ (hw _ (List.mem_of_getElem? (i := 30) rfl))) (by decide) (backOf (W := 0) (rmIS l Z a0 hw [] sb nn cs (own_f u0 u1 u2 u3) fv T9.heap n0 Z9 SC9 hcs SA9 SH9 SL9 SS9 hn0 hn4 hchf SF9 hfv) hZ (hw _ (List.mem_of_getElem? (i := 30) rfl)) (hw _ (List.mem_of_getElem? (i := 29) rfl)) (by decide) (by decide)) (g := (mkF m 219 #[.val (.int p1), .val (.int p2), .val (.int p3), .val (.int p4), .val (.int p5), .val (.int nn), .val (.int u0), .val (.int u1), .val (.int u2), .val (.int u3), .val (.ref cb), .val (.ref sb), .val (.int ev)] [(.ref sb)])) rfl (by rw [hml]; rfl) (argsL := [(.ref sb)]) (rest := []) (lenOf pd_rm0_3 rfl) rfl (by show 2 * 0 + _ ≤ _; exact Nat.le_of_eq rfl) (hb hby at_219) (fun _ _ => ⟨rfl, e8, (by decide : 4 + 0 ≤ _), (by decide : 20 + 0 ≤ _)⟩)
  dsimp only [Pt.U, Pt.locs, Pt.cells, Pt.slots] at X84 l84 y84 z84 st84 hQ84
  subst l84 y84 z84
  obtain ⟨r, rfl, N84q, hh84, hr84⟩ := hQ84
  have N84 := Fr.app N8 N84q
  have pre84 : Steps p.tables e below _ (T84.setTop (mkF m 222 #[.val (.int p1), .val (.int p2), .val (.int p3), .val (.int p4), .val (.int p5), .val (.int nn), .val (.int u0), .val (.int u1), .val (.int u2), .val (.int u3), .val (.ref cb), .val (.ref sb), .val (.int ev)] [(.int r)])) := pre83.trans (st84 _ (Steps.refl _))
  have hre : r = ev := by
    rcases hr84 with ⟨rfl, ha⟩ | ⟨rfl, j, hj, ha⟩
    · rcases hev with ⟨rfl, hc⟩ | ⟨rfl, j2, hj2, hc⟩
      · rfl
      · exact absurd hc (by rw [← own_iw_ws]; exact ha j2 hj2)
    · rcases hev with ⟨rfl, hc⟩ | ⟨rfl, -⟩
      · exact absurd ha (by rw [own_iw_ws]; exact hc j (Nat.zero_le _) hj)
      · rfl
  have pre85 : Steps p.tables e below _ (T84.setTop (mkF m 232 #[.val (.int p1), .val (.int p2), .val (.int p3), .val (.int p4), .val (.int p5), .val (.int nn), .val (.int u0), .val (.int u1), .val (.int u2), .val (.int u3), .val (.ref cb), .val (.ref sb), .val (.int ev)] [(.int (1 : Int32))])) := pre84.trans (by
    show Steps p.tables e below (T84.setTop (mkF m 222 #[.val (.int p1), .val (.int p2), .val (.int p3), .val (.int p4), .val (.int p5), .val (.int nn), .val (.int u0), .val (.int u1), .val (.int u2), .val (.int u3), .val (.ref cb), .val (.ref sb), .val (.int ev)] [(.int r)])) _
    refine XS.iload X84.here hx rfl (hb hby at_222) rfl ?_
    show Steps p.tables e below (T84.setTop (mkF m 224 #[.val (.int p1), .val (.int p2), .val (.int p3), .val (.int p4), .val (.int p5), .val (.int nn), .val (.int u0), .val (.int u1), .val (.int u2), .val (.int u3), .val (.ref cb), .val (.ref sb), .val (.int ev)] [(.int ev), (.int r)])) _
    refine XS.icmpNo X84.here hx rfl (hb hby at_224) rfl (teq hre).2 ?_
    show Steps p.tables e below (T84.setTop (mkF m 227 #[.val (.int p1), .val (.int p2), .val (.int p3), .val (.int p4), .val (.int p5), .val (.int nn), .val (.int u0), .val (.int u1), .val (.int u2), .val (.int u3), .val (.ref cb), .val (.ref sb), .val (.int ev)] [])) _
    refine XS.iconst X84.here hx rfl (hb hby at_227) ?_
    show Steps p.tables e below (T84.setTop (mkF m 228 #[.val (.int p1), .val (.int p2), .val (.int p3), .val (.int p4), .val (.int p5), .val (.int nn), .val (.int u0), .val (.int u1), .val (.int u2), .val (.int u3), .val (.ref cb), .val (.ref sb), .val (.int ev)] [(.int (1 : Int32))])) _
    refine XS.goto X84.here hx rfl (pc0 := 228) (pc' := 232) rfl (hb hby at_228) (by decide) (by decide) ?_
    exact Steps.refl _)
  have XW := X84.more (show 4 ≤ 4 by decide) (show 20 ≤ 20 by decide)
  obtain ⟨fs, hr, hrun, hended, hRE⟩ := XW.leaveW hS9 (by rw [hh84]; exact hk9) (v := some (.int (1 : Int32))) (fun h => by rw [Bd.returns] at h; cases h)
  refine ⟨_, _, pre85.trans ?_, hrun, hended, _, _, rfl, ?_, hRE⟩
  · exact retN X84 hx (t := .boolean) Bd.returns (by simp) (hb hby at_232) hr
  · exact ⟨rfl, N84⟩
set_option maxRecDepth 65536 in
set_option maxHeartbeats 40000000 in
theorem comes_1 {Post : Tables → Env → Array Value → State → Outcome → State → Prop} (hpost : ∀ tb e args s v u, (limb_1_1.after args s (.returned v) u = true ∧ limb_1_2.after args s (.returned v) u = true ∧ True) → ReturnedEndW s (.returned v) u (Jvm.fieldLocs frame_1_writes args s ++ Jvm.arrayLocs frame_1_arrays args s ++ Jvm.staticLocs frame_1_statics s) 24 1152 → Post tb e args s (.returned v) u) :
    ArmFor flags0 classFile x code maxLocals ret World_1 tables_1 room_1 Calls_1 rest_1 Pre_1 Post := by
  intro l hfl _ _ p e ha hc hk s m args below hf hA hF happ hP
  obtain ⟨hcalls, hrest, hpre⟩ := hP
  obtain ⟨-, -, -, hnamed, -, -, -, hat⟩ := (Spec.applies_iff hf).mp happ
  obtain ⟨hg, hn⟩ := and_e (Cond.before_iff.mp (show (Jvm.Cond.and given_1 narrow_1).before args s = true from hpre))
  obtain ⟨g0, r0⟩ := and_e hg
  obtain ⟨w0, w1, w2, w3, w4, rfl⟩ : ∃ w0 w1 w2 w3 w4 : Value, args = #[w0, w1, w2, w3, w4] := by
    have hs : args.size = 5 := by simpa [Cond.value, given_1] using g0
    obtain ⟨L⟩ := args
    match L, hs with
    | [w0, w1, w2, w3, w4], _ => exact ⟨w0, w1, w2, w3, w4, rfl⟩
  have hw := fun d (hd : d ∈ tables_1) => atoms_spec (ws := Jvm.Cond.code x code maxLocals ret :: tables_1) hat d (List.mem_cons_of_mem _ hd)
  have hfit : Fit s := fun {y c} hc i hi => by
    obtain ⟨ha, rfl⟩ := Array.getElem?_eq_some_iff.mp hc
    have q := List.all_eq_true.mp ((Array.all_eq_true_iff_forall_mem.mp hF) _ (Array.getElem_mem ha)) i (List.mem_range.mpr hi)
    simpa [Array.getElem?_eq_getElem hi] using q
  obtain ⟨g1, r1⟩ := and_e r0
  obtain ⟨i0, ei0⟩ := is_v g1
  obtain rfl : w0 = (.int i0) := Option.some.inj ei0
  obtain ⟨g2, r2⟩ := and_e r1
  obtain ⟨i1, ei1⟩ := is_v g2
  obtain rfl : w1 = (.int i1) := Option.some.inj ei1
  obtain ⟨g3, r3⟩ := and_e r2
  obtain ⟨i2, ei2⟩ := is_v g3
  obtain rfl : w2 = (.int i2) := Option.some.inj ei2
  obtain ⟨g4, r4⟩ := and_e r3
  obtain ⟨i3, ei3⟩ := is_v g4
  obtain rfl : w3 = (.int i3) := Option.some.inj ei3
  obtain ⟨i4, ei4⟩ := is_v r4
  obtain rfl : w4 = (.int i4) := Option.some.inj ei4
  have hsets := fun k (c : Jvm.Cond) (hk : jdkStatics_1[k]? = some c) => own_all (show (jdkStatics_1.foldr Jvm.Cond.and restOwn_1).before #[.int i0, .int i1, .int i2, .int i3, .int i4] s = true from hrest) c (List.mem_of_getElem? hk)
  have q0 := hsets 0 _ rfl
  have q1 := hsets 1 _ rfl
  have q2 := hsets 2 _ rfl
  obtain ⟨cs, ecs⟩ := is_v (Cond.before_iff.mp q1)
  have SC := Sta.start ecs (Or.inl q0)
  have hcs : ¬ cs = (0 : Int32) := fun q => by
    have r := not_v (Cond.before_iff.mp q2)
    rw [eq_i ecs (Term.int_eval (0 : Int32)) (by rw [q])] at r
    cases r
  obtain ⟨fv, efv, hfr⟩ := isR_v (Cond.before_iff.mp (hsets 8 _ rfl))
  have SF := Sta.start efv (Or.inl (hsets 7 _ rfl))
  have hfv := ref_cases hfr
  have SA := Sta.start (own_seq (hsets 12 _ rfl)) (Or.inl (hsets 11 _ rfl))
  have SH := Sta.start (own_seq (hsets 15 _ rfl)) (Or.inl (hsets 14 _ rfl))
  have SL := Sta.start (own_seq (hsets 18 _ rfl)) (Or.inl (hsets 17 _ rfl))
  have hCH : CHv s [("java/lang/String", (7 : Nat))] s.vm s.heap := CHv.start (own_EW hw) (fun p hp => hcalls.1 p hp) q2 (hw _ (List.mem_of_getElem? (i := 20) rfl)) (hw _ (List.mem_of_getElem? (i := 7) rfl))
  obtain ⟨n, o, h1, h2, h3, _, L, rfl, ⟨rfl, N⟩, hq⟩ := rm0 l s _ hw tables_1 i0 i1 i2 i3 i4 cs fv s.heap s.heap.size (Nat.le_refl _) SC hcs SA SH SL SF hfv p e ha hc hk s m _ below hf ((Spec.applies_iff_loose hf).mp happ).1 ⟨rfl, State.Warmed39.refl s, rfl, hCH⟩ trivial
  refine ⟨n, _, h1, h2, h3, hpost _ _ _ _ _ _ ⟨Cond.after_iff.mpr rfl, Cond.after_iff.mpr (eq_i res_at (Term.int_eval (1)) rfl), trivial⟩ ⟨hq.1, hq.2.1, hq.2.2.1, (hq.2.2.2.sift fun y hy => Or.inr (N y hy)).mono (by decide) (by decide)⟩⟩
theorem main_1_1 : Claimed_1_1 := comes_1 fun _ _ _ _ _ _ h hF => ⟨h.1, hF⟩
theorem main_1_2 : Claimed_1_2 := comes_1 fun _ _ _ _ _ _ h hF => ⟨h.2.1, hF⟩
end Jvm.Pilot.@@N@@
namespace Jvm.Pilot.@@N@@
open Jvm Jvm.ClassFile Sem Op Lib Jvm.Free Jvm.Stand Jvm.Pilot.@@N@@.Jvm.D
/-! MADE BY PROGRAM (witnessworld.py) out of the Statement's table words and the real class files: 20 classes; the members and pool entries that the words name. The judged class is class 1, her method 1. -/
namespace start1
open Jvm.ClassFile
def u (s : String) : CpInfo := .utf8 (stringToUtf16 s)
/-- a pool by its gaps: so many unusable entries, then the entry; so many at the end -/
def gap : Nat → List CpInfo → List CpInfo
  | 0, r => r
  | n + 1, r => .unusable :: gap n r
def poolList (es : List (Nat × CpInfo)) (last : Nat) : List CpInfo := es.foldr (fun e r => gap e.1 (e.2 :: r)) (gap last [])
def pool (es : List (Nat × CpInfo)) (last : Nat) : Array CpInfo := ⟨poolList es last⟩
def fileOf (pool : Array CpInfo) (this : Nat) (attrs : Array Attribute := #[]) (ms : Array MethodInfo := #[]) (fl : Nat := 33) (sup : Nat := 0) (ifs : Array Nat := #[]) (fds : Array FieldInfo := #[]) : ClassFile where
  minorVersion := 0
  majorVersion := 65
  constantPool := pool
  accessFlags := fl
  thisClass := this
  superClass := sup
  interfaces := ifs
  fields := fds
  methods := ms
  attributes := attrs
def plain (name : String) (sup : Option ClassId) : Class where
  name := name
  kind := .ordinary
  loader := none
  accessFlags := 33
  super := sup
  interfaces := #[]
  cf := none
  fields := #[]
  methods := #[]
  instanceTypes := #[]
  staticTypes := #[]
  resolved := #[]
  callSites := []
  init := .initialized
  statics := none
  mirror := none

def pool0 : Array CpInfo := pool [(5, u "<init>"), (0, u "()V"), (1, .class_ 10), (1, u "java/lang/Object")] 113

def k0c0 : Code := { maxStack := 0, maxLocals := 1, code := object_method_1_code, exceptionTable := #[], attributes := #[] }
def k0m0 : Method := { name := "<init>", desc := "()V", sig := { parameters := [], returnType := none }, accessFlags := 1, code := some k0c0 }
/-- java/lang/Object -/
def k0 : Class := { plain "java/lang/Object" none with
  accessFlags := 33
  interfaces := #[]
  cf := some (fileOf pool0 8 #[] #[{ accessFlags := 1, nameIndex := 5, descriptorIndex := 6, attributes := #[] }] 33 0 #[] #[])
  fields := #[]
  methods := #[k0m0]
  instanceTypes := #[]
  staticTypes := #[]
  resolved := Array.replicate 124 none
  statics := none }

def pool1 : Array CpInfo := pool [(2, .class_ 4), (1, u "java/lang/Object"), (0, u "<init>"), (0, u "()V"), (0, .integer 2147483647), (0, .methodref 9 10), (0, .class_ 11), (0, .nameAndType 12 13), (0, u "com/example/summarium/summarium/cda/CdaElementsIsWhiteSpacePinLaw"), (0, u "pick"), (0, u "(I)C"), (0, .class_ 15), (0, u "java/lang/String"), (0, .methodref 14 17), (0, .nameAndType 5 18), (0, u "([C)V"), (0, .methodref 9 20), (0, .nameAndType 21 22), (0, u "ws"), (0, u "(C)Z"), (0, .methodref 24 25), (0, .class_ 26), (0, .nameAndType 27 28), (0, u "com/example/summarium/summarium/cda/CdaElements"), (0, u "isWhiteSpace"), (0, u "(Ljava/lang/String;)Z"), (2, u "law"), (0, u "(IIIII)Z")] 5

def k1m0 : Method := { name := "<init>", desc := "()V", sig := { parameters := [], returnType := none }, accessFlags := 2, code := none }
def k1c1 : Code := { maxStack := 4, maxLocals := 13, code := code, exceptionTable := #[], attributes := #[] }
def k1m1 : Method := { name := "law", desc := "(IIIII)Z", sig := { parameters := [.int, .int, .int, .int, .int], returnType := some .boolean }, accessFlags := 9, code := some k1c1 }
def k1c2 : Code := { maxStack := 2, maxLocals := 2, code := method_3_code, exceptionTable := #[], attributes := #[] }
def k1m2 : Method := { name := "pick", desc := "(I)C", sig := { parameters := [.int], returnType := some .char }, accessFlags := 10, code := some k1c2 }
def k1c3 : Code := { maxStack := 2, maxLocals := 2, code := method_4_code, exceptionTable := #[], attributes := #[] }
def k1m3 : Method := { name := "ws", desc := "(C)Z", sig := { parameters := [.char], returnType := some .boolean }, accessFlags := 10, code := some k1c3 }
/-- com/example/summarium/summarium/cda/CdaElementsIsWhiteSpacePinLaw -/
def k1 : Class := { plain "com/example/summarium/summarium/cda/CdaElementsIsWhiteSpacePinLaw" (some 0) with
  accessFlags := 49
  interfaces := #[]
  cf := some (fileOf pool1 9 #[] #[{ accessFlags := 2, nameIndex := 5, descriptorIndex := 6, attributes := #[] }, { accessFlags := 9, nameIndex := 31, descriptorIndex := 32, attributes := #[] }, { accessFlags := 10, nameIndex := 12, descriptorIndex := 13, attributes := #[] }, { accessFlags := 10, nameIndex := 21, descriptorIndex := 22, attributes := #[] }] 49 2 #[] #[])
  fields := #[]
  methods := #[k1m0, k1m1, k1m2, k1m3]
  instanceTypes := #[]
  staticTypes := #[]
  resolved := Array.replicate 38 none
  statics := none }

def pool2 : Array CpInfo := pool [(1, .class_ 2), (0, u "java/io/Serializable"), (0, .class_ 4), (0, u "java/lang/Object")] 2

/-- java/io/Serializable -/
def k2 : Class := { plain "java/io/Serializable" (some 0) with
  accessFlags := 1537
  interfaces := #[]
  cf := some (fileOf pool2 1 #[] #[] 1537 3 #[] #[])
  fields := #[]
  methods := #[]
  instanceTypes := #[]
  staticTypes := #[]
  resolved := Array.replicate 7 none
  statics := none }

def pool3 : Array CpInfo := pool [(1, .class_ 2), (0, u "java/lang/Comparable"), (0, .class_ 4), (0, u "java/lang/Object")] 7

/-- java/lang/Comparable -/
def k3 : Class := { plain "java/lang/Comparable" (some 0) with
  accessFlags := 1537
  interfaces := #[]
  cf := some (fileOf pool3 1 #[] #[] 1537 3 #[] #[])
  fields := #[]
  methods := #[]
  instanceTypes := #[]
  staticTypes := #[]
  resolved := Array.replicate 12 none
  statics := none }

def pool4 : Array CpInfo := pool [(2, .class_ 4), (1, u "java/lang/CharSequence"), (42, .class_ 48), (0, u "java/lang/CharSequence$1CodePointIterator"), (10, .class_ 60), (0, u "java/lang/CharSequence$1CharIterator"), (5, .class_ 67), (0, u "java/lang/Object")] 63

/-- java/lang/CharSequence -/
def k4 : Class := { plain "java/lang/CharSequence" (some 0) with
  accessFlags := 1537
  interfaces := #[]
  cf := some (fileOf pool4 2 #[.nestMembers #[47, 59]] #[] 1537 66 #[] #[])
  fields := #[]
  methods := #[]
  instanceTypes := #[]
  staticTypes := #[]
  resolved := Array.replicate 131 none
  statics := none }

def pool5 : Array CpInfo := pool [(1, .class_ 2), (0, u "java/lang/constant/Constable"), (0, .class_ 4), (0, u "java/lang/Object")] 6

/-- java/lang/constant/Constable -/
def k5 : Class := { plain "java/lang/constant/Constable" (some 0) with
  accessFlags := 1537
  interfaces := #[]
  cf := some (fileOf pool5 1 #[] #[] 1537 3 #[] #[])
  fields := #[]
  methods := #[]
  instanceTypes := #[]
  staticTypes := #[]
  resolved := Array.replicate 11 none
  statics := none }

def pool6 : Array CpInfo := pool [(1, .class_ 2), (0, u "java/lang/constant/ConstantDesc"), (0, .class_ 4), (0, u "java/lang/Object")] 32

/-- java/lang/constant/ConstantDesc -/
def k6 : Class := { plain "java/lang/constant/ConstantDesc" (some 0) with
  accessFlags := 1537
  interfaces := #[]
  cf := some (fileOf pool6 1 #[] #[] 1537 3 #[] #[])
  fields := #[]
  methods := #[]
  instanceTypes := #[]
  staticTypes := #[]
  resolved := Array.replicate 37 none
  statics := none }

def pool7 : Array CpInfo := pool [(1, .methodref 2 3), (0, .class_ 4), (0, .nameAndType 5 6), (0, u "java/lang/Object"), (0, u "<init>"), (0, u "()V"), (0, .string 8), (0, u ""), (0, .fieldref 10 11), (0, .class_ 12), (0, .nameAndType 13 14), (0, u "java/lang/String"), (0, u "value"), (0, u "[B"), (0, .fieldref 10 16), (0, .nameAndType 17 18), (0, u "coder"), (0, u "B"), (2, u "hash"), (0, u "I"), (2, u "hashIsZero"), (0, u "Z"), (0, .methodref 10 28), (0, .nameAndType 5 29), (0, u "([CIILjava/lang/Void;)V"), (8, .fieldref 10 39), (0, .nameAndType 40 26), (0, u "COMPACT_STRINGS"), (1, .class_ 44), (1, u "java/lang/StringUTF16"), (0, u "compress"), (1, .methodref 42 48), (0, .nameAndType 49 50), (0, u "coderFromArrayLen"), (0, u "([BI)B"), (56, .class_ 109), (1, u "java/lang/StringLatin1"), (32, u "()Z"), (34, .methodref 42 178), (0, .nameAndType 45 179), (0, u "([CII)[B"), (154, u "()I"), (0, .methodref 10 336), (0, .nameAndType 17 337), (0, u "()B"), (25, u "([BI)C"), (27, u "(II)V"), (35, u "(I)C"), (64, .methodref 10 493), (0, .nameAndType 494 142), (0, u "isLatin1"), (0, .methodref 107 496), (0, .nameAndType 497 363), (0, u "charAt"), (0, .methodref 42 496), (2, u "checkIndex"), (5, u "length"), (67, .class_ 576), (0, u "java/lang/CharSequence"), (22, u "CASE_INSENSITIVE_ORDER"), (0, u "Ljava/util/Comparator;"), (409, u "([C)V"), (42, .fieldref 1054 1055), (0, .class_ 1056), (0, .nameAndType 1057 1058), (0, u "jdk/internal/util/Preconditions"), (0, u "SIOOBE_FORMATTER"), (0, u "Ljava/util/function/BiFunction;"), (0, .methodref 1054 1060), (0, .nameAndType 501 1061), (0, u "(IILjava/util/function/BiFunction;)I"), (39, u "serialPersistentFields"), (0, u "[Ljava/io/ObjectStreamField;"), (0, .class_ 1104), (0, u "java/lang/String$CaseInsensitiveComparator"), (1, .class_ 1107), (0, u "java/io/Serializable"), (0, .class_ 1109), (0, u "java/lang/Comparable"), (0, .class_ 1111), (0, u "java/lang/constant/Constable"), (0, .class_ 1113), (0, u "java/lang/constant/ConstantDesc"), (2, u "serialVersionUID"), (0, u "J"), (3, u "REPL"), (0, u "C"), (2, u "LATIN1"), (1, u "UTF16")] 323

def k7m0 : Method := { name := "<init>", desc := "()V", sig := { parameters := [], returnType := none }, accessFlags := 1, code := none }
def k7c1 : Code := { maxStack := 5, maxLocals := 2, code := jdk_42_method_3_code, exceptionTable := #[], attributes := #[] }
def k7m1 : Method := { name := "<init>", desc := "([C)V", sig := { parameters := [(.array .char)], returnType := none }, accessFlags := 1, code := some k7c1 }
def k7c2 : Code := { maxStack := 2, maxLocals := 1, code := jdk_42_method_54_code, exceptionTable := #[], attributes := #[] }
def k7m2 : Method := { name := "length", desc := "()I", sig := { parameters := [], returnType := some .int }, accessFlags := 1, code := some k7c2 }
def k7c3 : Code := { maxStack := 2, maxLocals := 2, code := jdk_42_method_56_code, exceptionTable := #[], attributes := #[] }
def k7m3 : Method := { name := "charAt", desc := "(I)C", sig := { parameters := [.int], returnType := some .char }, accessFlags := 1, code := some k7c3 }
def k7c4 : Code := { maxStack := 4, maxLocals := 6, code := jdk_42_method_149_code, exceptionTable := #[], attributes := #[] }
def k7m4 : Method := { name := "<init>", desc := "([CIILjava/lang/Void;)V", sig := { parameters := [(.array .char), .int, .int, (.object "java/lang/Void")], returnType := none }, accessFlags := 2, code := some k7c4 }
def k7c5 : Code := { maxStack := 1, maxLocals := 1, code := jdk_42_method_152_code, exceptionTable := #[], attributes := #[] }
def k7m5 : Method := { name := "coder", desc := "()B", sig := { parameters := [], returnType := some .byte }, accessFlags := 0, code := some k7c5 }
def k7c6 : Code := { maxStack := 1, maxLocals := 1, code := jdk_42_method_154_code, exceptionTable := #[], attributes := #[] }
def k7m6 : Method := { name := "isLatin1", desc := "()Z", sig := { parameters := [], returnType := some .boolean }, accessFlags := 0, code := some k7c6 }
def k7c7 : Code := { maxStack := 3, maxLocals := 2, code := jdk_42_method_155_code, exceptionTable := #[], attributes := #[] }
def k7m7 : Method := { name := "checkIndex", desc := "(II)V", sig := { parameters := [.int, .int], returnType := none }, accessFlags := 8, code := some k7c7 }
/-- java/lang/String -/
def k7 : Class := { plain "java/lang/String" (some 0) with
  accessFlags := 49
  interfaces := #[2, 3, 4, 5, 6]
  cf := some (fileOf pool7 10 #[.nestMembers #[1103]] #[{ accessFlags := 1, nameIndex := 5, descriptorIndex := 6, attributes := #[] }, { accessFlags := 1, nameIndex := 5, descriptorIndex := 1010, attributes := #[] }, { accessFlags := 1, nameIndex := 507, descriptorIndex := 334, attributes := #[] }, { accessFlags := 1, nameIndex := 497, descriptorIndex := 427, attributes := #[] }, { accessFlags := 2, nameIndex := 5, descriptorIndex := 29, attributes := #[] }, { accessFlags := 0, nameIndex := 17, descriptorIndex := 337, attributes := #[] }, { accessFlags := 0, nameIndex := 494, descriptorIndex := 142, attributes := #[] }, { accessFlags := 8, nameIndex := 501, descriptorIndex := 391, attributes := #[] }] 49 2 #[1106, 1108, 575, 1110, 1112] #[{ accessFlags := 18, nameIndex := 13, descriptorIndex := 14, attributes := #[] }, { accessFlags := 18, nameIndex := 17, descriptorIndex := 18, attributes := #[] }, { accessFlags := 2, nameIndex := 21, descriptorIndex := 22, attributes := #[] }, { accessFlags := 2, nameIndex := 25, descriptorIndex := 26, attributes := #[] }, { accessFlags := 26, nameIndex := 1116, descriptorIndex := 1117, attributes := #[] }, { accessFlags := 24, nameIndex := 40, descriptorIndex := 26, attributes := #[] }, { accessFlags := 26, nameIndex := 1101, descriptorIndex := 1102, attributes := #[] }, { accessFlags := 26, nameIndex := 1121, descriptorIndex := 1122, attributes := #[] }, { accessFlags := 25, nameIndex := 599, descriptorIndex := 600, attributes := #[] }, { accessFlags := 24, nameIndex := 1125, descriptorIndex := 18, attributes := #[] }, { accessFlags := 24, nameIndex := 1127, descriptorIndex := 18, attributes := #[] }])
  fields := #[{ name := "value", type := (.array .byte), accessFlags := 18, slot := 0, constantValue := 0 }, { name := "coder", type := .byte, accessFlags := 18, slot := 1, constantValue := 0 }, { name := "hash", type := .int, accessFlags := 2, slot := 2, constantValue := 0 }, { name := "hashIsZero", type := .boolean, accessFlags := 2, slot := 3, constantValue := 0 }, { name := "serialVersionUID", type := .long, accessFlags := 26, slot := 0, constantValue := 0 }, { name := "COMPACT_STRINGS", type := .boolean, accessFlags := 24, slot := 1, constantValue := 0 }, { name := "serialPersistentFields", type := (.array (.object "java/io/ObjectStreamField")), accessFlags := 26, slot := 2, constantValue := 0 }, { name := "REPL", type := .char, accessFlags := 26, slot := 3, constantValue := 0 }, { name := "CASE_INSENSITIVE_ORDER", type := (.object "java/util/Comparator"), accessFlags := 25, slot := 4, constantValue := 0 }, { name := "LATIN1", type := .byte, accessFlags := 24, slot := 5, constantValue := 0 }, { name := "UTF16", type := .byte, accessFlags := 24, slot := 6, constantValue := 0 }]
  methods := #[k7m0, k7m1, k7m2, k7m3, k7m4, k7m5, k7m6, k7m7]
  instanceTypes := #[(.array .byte), .byte, .int, .boolean]
  staticTypes := #[.long, .boolean, (.array (.object "java/io/ObjectStreamField")), .char, (.object "java/util/Comparator"), .byte, .byte]
  resolved := Array.replicate 1451 none
  statics := some 0 }

def pool8 : Array CpInfo := pool [(2, .class_ 4), (1, u "java/lang/Object"), (0, u "<init>"), (0, u "()V"), (0, .class_ 8), (0, u "com/example/summarium/summarium/cda/CdaElements"), (57, .class_ 67), (0, u "java/lang/String"), (28, u "()I"), (52, u "isWhiteSpace"), (0, u "(Ljava/lang/String;)Z"), (47, .methodref 66 199), (0, .nameAndType 200 96), (0, u "length"), (0, .methodref 66 202), (0, .nameAndType 203 204), (0, u "charAt"), (0, u "(I)C"), (0, .methodref 7 206), (0, .nameAndType 149 207), (0, u "(C)Z"), (51, u "NAMESPACE"), (0, u "Ljava/lang/String;")] 52

def k8m0 : Method := { name := "<init>", desc := "()V", sig := { parameters := [], returnType := none }, accessFlags := 2, code := none }
def k8c1 : Code := { maxStack := 2, maxLocals := 2, code := prog_10_method_22_code, exceptionTable := #[], attributes := #[] }
def k8m1 : Method := { name := "isWhiteSpace", desc := "(Ljava/lang/String;)Z", sig := { parameters := [(.object "java/lang/String")], returnType := some .boolean }, accessFlags := 9, code := some k8c1 }
def k8c2 : Code := { maxStack := 2, maxLocals := 1, code := prog_10_method_23_code, exceptionTable := #[], attributes := #[] }
def k8m2 : Method := { name := "isWhiteSpace", desc := "(C)Z", sig := { parameters := [.char], returnType := some .boolean }, accessFlags := 8, code := some k8c2 }
/-- com/example/summarium/summarium/cda/CdaElements -/
def k8 : Class := { plain "com/example/summarium/summarium/cda/CdaElements" (some 0) with
  accessFlags := 49
  interfaces := #[]
  cf := some (fileOf pool8 7 #[] #[{ accessFlags := 2, nameIndex := 5, descriptorIndex := 6, attributes := #[] }, { accessFlags := 9, nameIndex := 149, descriptorIndex := 150, attributes := #[] }, { accessFlags := 8, nameIndex := 149, descriptorIndex := 207, attributes := #[] }] 49 2 #[] #[{ accessFlags := 25, nameIndex := 259, descriptorIndex := 260, attributes := #[] }])
  fields := #[{ name := "NAMESPACE", type := (.object "java/lang/String"), accessFlags := 25, slot := 0, constantValue := 0 }]
  methods := #[k8m0, k8m1, k8m2]
  instanceTypes := #[]
  staticTypes := #[(.object "java/lang/String")]
  resolved := Array.replicate 313 none
  statics := none }

def pool9 : Array CpInfo := pool [(3, .class_ 4), (0, u "java/lang/String"), (1, .class_ 8), (1, u "java/lang/Object"), (0, u "<init>"), (0, u "()V"), (0, .methodref 12 13), (0, .class_ 14), (0, .nameAndType 15 16), (0, u "java/lang/StringUTF16"), (0, u "newBytesLength"), (0, u "(I)I"), (3, .integer 1073741823), (23, .fieldref 12 45), (0, .nameAndType 46 47), (0, u "$assertionsDisabled"), (0, u "Z"), (0, .methodref 12 49), (0, .nameAndType 50 51), (0, u "length"), (0, u "([B)I"), (7, .fieldref 12 60), (0, .nameAndType 61 62), (0, u "HI_BYTE_SHIFT"), (0, u "I"), (0, .fieldref 12 64), (0, .nameAndType 65 62), (0, u "LO_BYTE_SHIFT"), (1, .methodref 12 68), (0, .nameAndType 69 70), (0, u "checkIndex"), (0, u "(I[B)V"), (0, .methodref 12 72), (0, .nameAndType 73 74), (0, u "getChar"), (0, u "([BI)C"), (32, .methodref 12 108), (0, .nameAndType 109 110), (0, u "newBytesFor"), (0, u "(I)[B"), (0, .methodref 12 112), (0, .nameAndType 113 114), (0, u "putChar"), (0, u "([BII)V"), (0, .methodref 12 116), (0, .nameAndType 117 118), (0, u "compress"), (0, u "([CI[BII)I"), (0, .methodref 12 120), (0, .nameAndType 121 122), (0, u "toBytes"), (0, u "([CII)[B"), (138, u "coderFromArrayLen"), (0, u "([BI)B"), (106, .class_ 371), (1, u "java/lang/StringUTF16$LinesSpliterator"), (20, u "charAt"), (21, .methodref 3 415), (0, .nameAndType 69 416), (0, u "(II)V"), (13, u "MAX_LENGTH"), (196, .class_ 628), (0, u "java/lang/StringUTF16$CodePointsSpliterator"), (0, .class_ 630), (0, u "java/lang/StringUTF16$CharsSpliterator")] 4

def k9m0 : Method := { name := "<init>", desc := "()V", sig := { parameters := [], returnType := none }, accessFlags := 0, code := none }
def k9c1 : Code := { maxStack := 1, maxLocals := 1, code := jdk_52_method_2_code, exceptionTable := #[], attributes := #[] }
def k9m1 : Method := { name := "newBytesFor", desc := "(I)[B", sig := { parameters := [.int], returnType := some (.array .byte) }, accessFlags := 9, code := some k9c1 }
def k9c2 : Code := { maxStack := 4, maxLocals := 1, code := jdk_52_method_3_code, exceptionTable := #[], attributes := #[] }
def k9m2 : Method := { name := "newBytesLength", desc := "(I)I", sig := { parameters := [.int], returnType := some .int }, accessFlags := 9, code := some k9c2 }
def k9c3 : Code := { maxStack := 4, maxLocals := 3, code := jdk_52_method_4_code, exceptionTable := #[], attributes := #[] }
def k9m3 : Method := { name := "putChar", desc := "([BII)V", sig := { parameters := [(.array .byte), .int, .int], returnType := none }, accessFlags := 8, code := some k9c3 }
def k9c4 : Code := { maxStack := 3, maxLocals := 2, code := jdk_52_method_5_code, exceptionTable := #[], attributes := #[] }
def k9m4 : Method := { name := "getChar", desc := "([BI)C", sig := { parameters := [(.array .byte), .int], returnType := some .char }, accessFlags := 8, code := some k9c4 }
def k9c5 : Code := { maxStack := 2, maxLocals := 1, code := jdk_52_method_6_code, exceptionTable := #[], attributes := #[] }
def k9m5 : Method := { name := "length", desc := "([B)I", sig := { parameters := [(.array .byte)], returnType := some .int }, accessFlags := 9, code := some k9c5 }
def k9c6 : Code := { maxStack := 4, maxLocals := 5, code := jdk_52_method_14_code, exceptionTable := #[], attributes := #[] }
def k9m6 : Method := { name := "toBytes", desc := "([CII)[B", sig := { parameters := [(.array .char), .int, .int], returnType := some (.array .byte) }, accessFlags := 9, code := some k9c6 }
def k9c7 : Code := { maxStack := 2, maxLocals := 2, code := jdk_52_method_15_code, exceptionTable := #[], attributes := #[] }
def k9m7 : Method := { name := "coderFromArrayLen", desc := "([BI)B", sig := { parameters := [(.array .byte), .int], returnType := some .byte }, accessFlags := 8, code := some k9c7 }
def k9c8 : Code := { maxStack := 5, maxLocals := 6, code := jdk_52_method_16_code, exceptionTable := #[], attributes := #[] }
def k9m8 : Method := { name := "compress", desc := "([CII)[B", sig := { parameters := [(.array .char), .int, .int], returnType := some (.array .byte) }, accessFlags := 9, code := some k9c8 }
def k9c9 : Code := { maxStack := 3, maxLocals := 7, code := jdk_52_method_21_code, exceptionTable := #[], attributes := #[] }
def k9m9 : Method := { name := "compress", desc := "([CI[BII)I", sig := { parameters := [(.array .char), .int, (.array .byte), .int, .int], returnType := some .int }, accessFlags := 9, code := some k9c9 }
def k9c10 : Code := { maxStack := 2, maxLocals := 2, code := jdk_52_method_83_code, exceptionTable := #[], attributes := #[] }
def k9m10 : Method := { name := "charAt", desc := "([BI)C", sig := { parameters := [(.array .byte), .int], returnType := some .char }, accessFlags := 9, code := some k9c10 }
def k9c11 : Code := { maxStack := 2, maxLocals := 2, code := jdk_52_method_91_code, exceptionTable := #[], attributes := #[] }
def k9m11 : Method := { name := "checkIndex", desc := "(I[B)V", sig := { parameters := [.int, (.array .byte)], returnType := none }, accessFlags := 9, code := some k9c11 }
/-- java/lang/StringUTF16 -/
def k9 : Class := { plain "java/lang/StringUTF16" (some 0) with
  accessFlags := 48
  interfaces := #[]
  cf := some (fileOf pool9 12 #[.nestMembers #[627, 629, 369]] #[{ accessFlags := 0, nameIndex := 9, descriptorIndex := 10, attributes := #[] }, { accessFlags := 9, nameIndex := 109, descriptorIndex := 110, attributes := #[] }, { accessFlags := 9, nameIndex := 15, descriptorIndex := 16, attributes := #[] }, { accessFlags := 8, nameIndex := 113, descriptorIndex := 114, attributes := #[] }, { accessFlags := 8, nameIndex := 73, descriptorIndex := 74, attributes := #[] }, { accessFlags := 9, nameIndex := 50, descriptorIndex := 51, attributes := #[] }, { accessFlags := 9, nameIndex := 121, descriptorIndex := 122, attributes := #[] }, { accessFlags := 8, nameIndex := 261, descriptorIndex := 262, attributes := #[] }, { accessFlags := 9, nameIndex := 117, descriptorIndex := 122, attributes := #[] }, { accessFlags := 9, nameIndex := 117, descriptorIndex := 118, attributes := #[] }, { accessFlags := 9, nameIndex := 392, descriptorIndex := 74, attributes := #[] }, { accessFlags := 9, nameIndex := 69, descriptorIndex := 70, attributes := #[] }] 48 6 #[] #[{ accessFlags := 26, nameIndex := 61, descriptorIndex := 62, attributes := #[] }, { accessFlags := 26, nameIndex := 65, descriptorIndex := 62, attributes := #[] }, { accessFlags := 24, nameIndex := 430, descriptorIndex := 62, attributes := #[] }, { accessFlags := 4120, nameIndex := 46, descriptorIndex := 47, attributes := #[] }])
  fields := #[{ name := "HI_BYTE_SHIFT", type := .int, accessFlags := 26, slot := 0, constantValue := 0 }, { name := "LO_BYTE_SHIFT", type := .int, accessFlags := 26, slot := 1, constantValue := 0 }, { name := "MAX_LENGTH", type := .int, accessFlags := 24, slot := 2, constantValue := 0 }, { name := "$assertionsDisabled", type := .boolean, accessFlags := 4120, slot := 3, constantValue := 0 }]
  methods := #[k9m0, k9m1, k9m2, k9m3, k9m4, k9m5, k9m6, k9m7, k9m8, k9m9, k9m10, k9m11]
  instanceTypes := #[]
  staticTypes := #[.int, .int, .int, .boolean]
  resolved := Array.replicate 635 none
  statics := some 1 }

def pool10 : Array CpInfo := pool [(1, .class_ 2), (0, u "java/lang/String"), (1, .class_ 6), (1, u "java/lang/Object"), (0, u "<init>"), (0, u "()V"), (0, .methodref 1 10), (0, .nameAndType 11 12), (0, u "checkIndex"), (0, u "(II)V"), (1, .class_ 16), (1, u "java/lang/StringLatin1"), (36, u "([BI)C"), (67, u "$assertionsDisabled"), (0, u "Z"), (98, .class_ 223), (1, u "java/lang/StringLatin1$LinesSpliterator"), (28, u "charAt"), (137, .class_ 391), (0, u "java/lang/StringLatin1$CharsSpliterator")] 3

def k10m0 : Method := { name := "<init>", desc := "()V", sig := { parameters := [], returnType := none }, accessFlags := 0, code := none }
def k10c1 : Code := { maxStack := 2, maxLocals := 2, code := jdk_43_method_2_code, exceptionTable := #[], attributes := #[] }
def k10m1 : Method := { name := "charAt", desc := "([BI)C", sig := { parameters := [(.array .byte), .int], returnType := some .char }, accessFlags := 9, code := some k10c1 }
/-- java/lang/StringLatin1 -/
def k10 : Class := { plain "java/lang/StringLatin1" (some 0) with
  accessFlags := 48
  interfaces := #[]
  cf := some (fileOf pool10 14 #[.nestMembers #[390, 221]] #[{ accessFlags := 0, nameIndex := 7, descriptorIndex := 8, attributes := #[] }, { accessFlags := 9, nameIndex := 252, descriptorIndex := 53, attributes := #[] }] 48 4 #[] #[{ accessFlags := 4120, nameIndex := 121, descriptorIndex := 122, attributes := #[] }])
  fields := #[{ name := "$assertionsDisabled", type := .boolean, accessFlags := 4120, slot := 0, constantValue := 0 }]
  methods := #[k10m0, k10m1]
  instanceTypes := #[]
  staticTypes := #[.boolean]
  resolved := Array.replicate 395 none
  statics := none }

def pool11 : Array CpInfo := pool [(2, .class_ 4), (1, u "java/lang/Object"), (0, u "<init>"), (0, u "()V"), (17, .class_ 26), (1, u "jdk/internal/util/Preconditions"), (6, u "checkIndex"), (21, .class_ 56), (0, u "jdk/internal/util/Preconditions$4"), (57, .class_ 115), (0, u "jdk/internal/util/Preconditions$1"), (7, u "SIOOBE_FORMATTER"), (0, u "Ljava/util/function/BiFunction;"), (0, .class_ 126), (0, u "jdk/internal/util/Preconditions$2"), (3, u "AIOOBE_FORMATTER"), (0, .class_ 132), (0, u "jdk/internal/util/Preconditions$3"), (3, u "IOOBE_FORMATTER"), (41, u "(IILjava/util/function/BiFunction;)I")] 15

def k11m0 : Method := { name := "<init>", desc := "()V", sig := { parameters := [], returnType := none }, accessFlags := 1, code := none }
def k11c1 : Code := { maxStack := 3, maxLocals := 3, code := jdk_41_method_11_code, exceptionTable := #[], attributes := #[] }
def k11m1 : Method := { name := "checkIndex", desc := "(IILjava/util/function/BiFunction;)I", sig := { parameters := [.int, .int, (.object "java/util/function/BiFunction")], returnType := some .int }, accessFlags := 9, code := some k11c1 }
/-- jdk/internal/util/Preconditions -/
def k11 : Class := { plain "jdk/internal/util/Preconditions" (some 0) with
  accessFlags := 33
  interfaces := #[]
  cf := some (fileOf pool11 24 #[.nestMembers #[55, 131, 125, 114]] #[{ accessFlags := 1, nameIndex := 5, descriptorIndex := 6, attributes := #[] }, { accessFlags := 9, nameIndex := 33, descriptorIndex := 178, attributes := #[] }] 33 2 #[] #[{ accessFlags := 25, nameIndex := 123, descriptorIndex := 124, attributes := #[] }, { accessFlags := 25, nameIndex := 130, descriptorIndex := 124, attributes := #[] }, { accessFlags := 25, nameIndex := 136, descriptorIndex := 124, attributes := #[] }])
  fields := #[{ name := "SIOOBE_FORMATTER", type := (.object "java/util/function/BiFunction"), accessFlags := 25, slot := 0, constantValue := 0 }, { name := "AIOOBE_FORMATTER", type := (.object "java/util/function/BiFunction"), accessFlags := 25, slot := 1, constantValue := 0 }, { name := "IOOBE_FORMATTER", type := (.object "java/util/function/BiFunction"), accessFlags := 25, slot := 2, constantValue := 0 }]
  methods := #[k11m0, k11m1]
  instanceTypes := #[]
  staticTypes := #[(.object "java/util/function/BiFunction"), (.object "java/util/function/BiFunction"), (.object "java/util/function/BiFunction")]
  resolved := Array.replicate 194 none
  statics := some 2 }

def pool12 : Array CpInfo := pool [(9, u "<init>"), (6, .class_ 18), (1, u "java/lang/Object"), (0, u "()V"), (1, .class_ 23), (1, u "jdk/internal/util/ArraysSupport"), (0, u "LOG2_ARRAY_LONG_INDEX_SCALE"), (0, u "I"), (2, u "U"), (0, u "Ljdk/internal/misc/Unsafe;"), (8, u "BIG_ENDIAN"), (0, u "Z"), (8, u "LOG2_BYTE_BIT_SIZE"), (4, u "LOG2_ARRAY_INT_INDEX_SCALE"), (54, u "JLA"), (0, u "Ljdk/internal/access/JavaLangAccess;"), (11, u "LOG2_ARRAY_BOOLEAN_INDEX_SCALE"), (9, u "LOG2_ARRAY_BYTE_INDEX_SCALE"), (5, u "LOG2_ARRAY_CHAR_INDEX_SCALE"), (5, u "LOG2_ARRAY_SHORT_INDEX_SCALE"), (18, u "LOG2_ARRAY_FLOAT_INDEX_SCALE"), (24, u "LOG2_ARRAY_DOUBLE_INDEX_SCALE"), (89, u "T_BOOLEAN"), (2, u "T_CHAR"), (1, u "T_FLOAT"), (1, u "T_DOUBLE"), (1, u "T_BYTE"), (1, u "T_SHORT"), (1, u "T_INT"), (1, u "T_LONG"), (1, u "SOFT_MAX_ARRAY_LENGTH")] 83

def k12m0 : Method := { name := "<init>", desc := "()V", sig := { parameters := [], returnType := none }, accessFlags := 2, code := none }
/-- jdk/internal/util/ArraysSupport -/
def k12 : Class := { plain "jdk/internal/util/ArraysSupport" (some 0) with
  accessFlags := 33
  interfaces := #[]
  cf := some (fileOf pool12 21 #[] #[{ accessFlags := 2, nameIndex := 9, descriptorIndex := 19, attributes := #[] }] 33 16 #[] #[{ accessFlags := 24, nameIndex := 28, descriptorIndex := 29, attributes := #[] }, { accessFlags := 26, nameIndex := 38, descriptorIndex := 39, attributes := #[] }, { accessFlags := 25, nameIndex := 121, descriptorIndex := 25, attributes := #[] }, { accessFlags := 25, nameIndex := 131, descriptorIndex := 25, attributes := #[] }, { accessFlags := 25, nameIndex := 137, descriptorIndex := 25, attributes := #[] }, { accessFlags := 25, nameIndex := 143, descriptorIndex := 25, attributes := #[] }, { accessFlags := 25, nameIndex := 53, descriptorIndex := 25, attributes := #[] }, { accessFlags := 25, nameIndex := 24, descriptorIndex := 25, attributes := #[] }, { accessFlags := 25, nameIndex := 162, descriptorIndex := 25, attributes := #[] }, { accessFlags := 25, nameIndex := 187, descriptorIndex := 25, attributes := #[] }, { accessFlags := 26, nameIndex := 48, descriptorIndex := 25, attributes := #[] }, { accessFlags := 25, nameIndex := 277, descriptorIndex := 25, attributes := #[] }, { accessFlags := 25, nameIndex := 280, descriptorIndex := 25, attributes := #[] }, { accessFlags := 25, nameIndex := 282, descriptorIndex := 25, attributes := #[] }, { accessFlags := 25, nameIndex := 284, descriptorIndex := 25, attributes := #[] }, { accessFlags := 25, nameIndex := 286, descriptorIndex := 25, attributes := #[] }, { accessFlags := 25, nameIndex := 288, descriptorIndex := 25, attributes := #[] }, { accessFlags := 25, nameIndex := 290, descriptorIndex := 25, attributes := #[] }, { accessFlags := 25, nameIndex := 292, descriptorIndex := 25, attributes := #[] }, { accessFlags := 26, nameIndex := 108, descriptorIndex := 109, attributes := #[] }, { accessFlags := 25, nameIndex := 294, descriptorIndex := 25, attributes := #[] }])
  fields := #[{ name := "U", type := (.object "jdk/internal/misc/Unsafe"), accessFlags := 24, slot := 0, constantValue := 0 }, { name := "BIG_ENDIAN", type := .boolean, accessFlags := 26, slot := 1, constantValue := 0 }, { name := "LOG2_ARRAY_BOOLEAN_INDEX_SCALE", type := .int, accessFlags := 25, slot := 2, constantValue := 0 }, { name := "LOG2_ARRAY_BYTE_INDEX_SCALE", type := .int, accessFlags := 25, slot := 3, constantValue := 0 }, { name := "LOG2_ARRAY_CHAR_INDEX_SCALE", type := .int, accessFlags := 25, slot := 4, constantValue := 0 }, { name := "LOG2_ARRAY_SHORT_INDEX_SCALE", type := .int, accessFlags := 25, slot := 5, constantValue := 0 }, { name := "LOG2_ARRAY_INT_INDEX_SCALE", type := .int, accessFlags := 25, slot := 6, constantValue := 0 }, { name := "LOG2_ARRAY_LONG_INDEX_SCALE", type := .int, accessFlags := 25, slot := 7, constantValue := 0 }, { name := "LOG2_ARRAY_FLOAT_INDEX_SCALE", type := .int, accessFlags := 25, slot := 8, constantValue := 0 }, { name := "LOG2_ARRAY_DOUBLE_INDEX_SCALE", type := .int, accessFlags := 25, slot := 9, constantValue := 0 }, { name := "LOG2_BYTE_BIT_SIZE", type := .int, accessFlags := 26, slot := 10, constantValue := 0 }, { name := "T_BOOLEAN", type := .int, accessFlags := 25, slot := 11, constantValue := 0 }, { name := "T_CHAR", type := .int, accessFlags := 25, slot := 12, constantValue := 0 }, { name := "T_FLOAT", type := .int, accessFlags := 25, slot := 13, constantValue := 0 }, { name := "T_DOUBLE", type := .int, accessFlags := 25, slot := 14, constantValue := 0 }, { name := "T_BYTE", type := .int, accessFlags := 25, slot := 15, constantValue := 0 }, { name := "T_SHORT", type := .int, accessFlags := 25, slot := 16, constantValue := 0 }, { name := "T_INT", type := .int, accessFlags := 25, slot := 17, constantValue := 0 }, { name := "T_LONG", type := .int, accessFlags := 25, slot := 18, constantValue := 0 }, { name := "JLA", type := (.object "jdk/internal/access/JavaLangAccess"), accessFlags := 26, slot := 19, constantValue := 0 }, { name := "SOFT_MAX_ARRAY_LENGTH", type := .int, accessFlags := 25, slot := 20, constantValue := 0 }]
  methods := #[k12m0]
  instanceTypes := #[]
  staticTypes := #[(.object "jdk/internal/misc/Unsafe"), .boolean, .int, .int, .int, .int, .int, .int, .int, .int, .int, .int, .int, .int, .int, .int, .int, .int, .int, (.object "jdk/internal/access/JavaLangAccess"), .int]
  resolved := Array.replicate 378 none
  statics := none }

def pool13 : Array CpInfo := pool [(1, u "java/lang/Cloneable"), (0, .class_ 1), (0, u "java/lang/Object"), (0, .class_ 3)] 3

/-- java/lang/Cloneable -/
def k13 : Class := { plain "java/lang/Cloneable" (some 0) with
  accessFlags := 1537
  interfaces := #[]
  cf := some (fileOf pool13 2 #[] #[] 1537 4 #[] #[])
  fields := #[]
  methods := #[]
  instanceTypes := #[]
  staticTypes := #[]
  resolved := Array.replicate 8 none
  statics := none }

/-- the primitive byte -/
def k14 : Class := { plain "byte" none with kind := .primitive 'B', accessFlags := 0x411 }
/-- [B -/
def k15 : Class := { plain "[B" (some 0) with kind := .array 14 .byte, interfaces := #[13, 2], accessFlags := 1041 }

/-- the primitive char -/
def k16 : Class := { plain "char" none with kind := .primitive 'C', accessFlags := 0x411 }
/-- [C -/
def k17 : Class := { plain "[C" (some 0) with kind := .array 16 .char, interfaces := #[13, 2], accessFlags := 1041 }

/-- the primitive int -/
def k18 : Class := { plain "int" none with kind := .primitive 'I', accessFlags := 0x411 }
/-- [I -/
def k19 : Class := { plain "[I" (some 0) with kind := .array 18 .int, interfaces := #[13, 2], accessFlags := 1041 }

def heap : Heap := #[{ cls := 7, slots := #[.long 0, .int 1, .null, .int 0, .null, .int 0, .int 0], vm := .statics 7 },
  { cls := 9, slots := #[.int 0, .int 8, .int 0, .int 1], vm := .statics 9 },
  { cls := 11, slots := #[.null, .null, .null], vm := .statics 11 }]
def classes : Array Class := #[k0, k1, k2, k3, k4, k5, k6, k7, k8, k9, k10, k11, k12, k13, k14, k15, k16, k17, k18, k19]
def interned : List (Array UInt16 × Addr) := []
def slotsUsed : Nat := 14
def theMethod : MethodId := ⟨1, 1⟩
def args0 : Array Value := #[.int 3, .int 1, .int 65, .int 2, .int 4]
def aboutOver (below : List Frame) : State where
  vm := { classes := classes, interned := interned.toArray }
  heap := heap
  slotsUsed := slotsUsed
  threads := #[{ frames := .invoking theMethod args0 :: below }]
def below0 : List Frame := [.native { method := ⟨0, 0⟩, args := #[] }]
def about1 : State := aboutOver below0
def p0 : Program := .bare "" "" ""
def e0 : Env := launch0.env 0 0 0
theorem w_frames : about1.frames = Frame.invoking theMethod args0 :: below0 := rfl
set_option maxRecDepth 65536 in
theorem w_args : argsFit about1.vm theMethod args0 = true := by decide +kernel
set_option maxRecDepth 65536 in
theorem w_heap : heapFits about1 = true := by decide +kernel
set_option maxRecDepth 65536 in
theorem w_runnable : about1.curStatus? = some .runnable := by decide +kernel
set_option maxRecDepth 65536 in
theorem w_alone : about1.alone = true := by decide +kernel
set_option maxRecDepth 65536 in
theorem w_named : about1.methodNamed? x = some theMethod := by decide +kernel
set_option maxRecDepth 65536 in
theorem w_hears : about1.hears theMethod below0 = true := by decide +kernel
set_option maxRecDepth 65536 in
theorem w_ripe : about1.ripe theMethod args0 below0 = true := by decide +kernel
theorem w_running : about1.status = .running := rfl
set_option maxRecDepth 65536 in
theorem w_room : about1.hasRoom e0.platform room_1 = true :=
  launch0.hasRoom_least _ room_1 (by decide +kernel) (by decide +kernel) (by decide +kernel) (by decide +kernel) (by decide +kernel) (by decide +kernel)
theorem allAtoms_all (ts : List Jvm.Cond) (a : Array Jvm.Value) (st : Jvm.State) : (allAtoms ts).before a st = ts.all (fun c => c.before a st) := by
  induction ts with
  | nil => rfl
  | cons c t ih =>
    show (Jvm.Cond.and c (allAtoms t)).before a st = _
    rw [Jvm.Cond.before_and, ih, List.all_cons]
def words1 : List Jvm.Cond := Jvm.Cond.code x code maxLocals ret :: tables_1
/-- a 'code' word, met by the world's own term for the bytes: nothing is compared byte by byte -/
theorem code_word {y : MethodName} {bytes : ByteArray} {mx : Nat} {rt : Option FieldType} {a : Array Value} {s : State} {m : MethodId} {meth : Method} {c : Code} (h1 : s.methodNamed? y = some m) (h2 : s.vm.method? m = some meth) (h3 : meth.code = some c) (h4 : c.code = bytes)
    (h5 : (c.maxLocals == mx && c.exceptionTable.isEmpty && decide (c.maxStack ≤ mostOperands) && decide (meth.sig.returnType = rt) && !meth.locks && decide (parseMethodDescriptor y.desc = some meth.sig)) = true) : (Jvm.Cond.code y bytes mx rt).before a s = true := by
  simp only [Bool.and_eq_true, beq_iff_eq, Bool.not_eq_true', decide_eq_true_eq] at h5
  obtain ⟨⟨⟨⟨⟨g1, g2⟩, g3⟩, g4⟩, g5⟩, g6⟩ := h5
  simp [Cond.before, Cond.holds, Cond.value, h1, h2, h3, h4, g1, g2, g3, g4, g5, g6]
def isCode : Jvm.Cond → Bool
  | .code _ _ _ _ => true
  | _ => false
theorem all_split {L : List Jvm.Cond} {P : Jvm.Cond → Bool} (h1 : L.all (fun c => isCode c || P c) = true) (h2 : ∀ c ∈ L.filter isCode, P c = true) : L.all P = true := by
  refine List.all_eq_true.mpr fun c hc => ?_
  have h := List.all_eq_true.mp h1 c hc
  rcases Bool.eq_false_or_eq_true (isCode c) with hi | hi
  · exact h2 c (List.mem_filter.mpr ⟨hc, hi⟩)
  · simpa [hi] using h
set_option maxRecDepth 65536 in
theorem w_c0 : (Jvm.Cond.code x code maxLocals ret).before args0 about1 = true := code_word (m := ⟨1, 1⟩) (meth := k1m1) (c := k1c1) (by decide +kernel) rfl rfl rfl (by decide +kernel)
set_option maxRecDepth 65536 in
theorem w_c1 : (Jvm.Cond.code ({ cls := "com/example/summarium/summarium/cda/CdaElementsIsWhiteSpacePinLaw", name := "pick", desc := "(I)C" } : Jvm.MethodName) method_3_code (2 : Nat) (Option.some Jvm.ClassFile.FieldType.char)).before args0 about1 = true := code_word (m := ⟨1, 2⟩) (meth := k1m2) (c := k1c2) (by decide +kernel) rfl rfl rfl (by decide +kernel)
set_option maxRecDepth 65536 in
theorem w_c2 : (Jvm.Cond.code ({ cls := "java/lang/String", name := "<init>", desc := "([C)V" } : Jvm.MethodName) jdk_42_method_3_code (2 : Nat) (Option.none : Option Jvm.ClassFile.FieldType)).before args0 about1 = true := code_word (m := ⟨7, 1⟩) (meth := k7m1) (c := k7c1) (by decide +kernel) rfl rfl rfl (by decide +kernel)
set_option maxRecDepth 65536 in
theorem w_c3 : (Jvm.Cond.code ({ cls := "java/lang/String", name := "<init>", desc := "([CIILjava/lang/Void;)V" } : Jvm.MethodName) jdk_42_method_149_code (6 : Nat) (Option.none : Option Jvm.ClassFile.FieldType)).before args0 about1 = true := code_word (m := ⟨7, 4⟩) (meth := k7m4) (c := k7c4) (by decide +kernel) rfl rfl rfl (by decide +kernel)
set_option maxRecDepth 65536 in
theorem w_c4 : (Jvm.Cond.code ({ cls := "java/lang/Object", name := "<init>", desc := "()V" } : Jvm.MethodName) object_method_1_code (1 : Nat) (Option.none : Option Jvm.ClassFile.FieldType)).before args0 about1 = true := code_word (m := ⟨0, 0⟩) (meth := k0m0) (c := k0c0) (by decide +kernel) rfl rfl rfl (by decide +kernel)
set_option maxRecDepth 65536 in
theorem w_c5 : (Jvm.Cond.code ({ cls := "com/example/summarium/summarium/cda/CdaElements", name := "isWhiteSpace", desc := "(Ljava/lang/String;)Z" } : Jvm.MethodName) prog_10_method_22_code (2 : Nat) (Option.some Jvm.ClassFile.FieldType.boolean)).before args0 about1 = true := code_word (m := ⟨8, 1⟩) (meth := k8m1) (c := k8c1) (by decide +kernel) rfl rfl rfl (by decide +kernel)
set_option maxRecDepth 65536 in
theorem w_c6 : (Jvm.Cond.code ({ cls := "java/lang/String", name := "length", desc := "()I" } : Jvm.MethodName) jdk_42_method_54_code (1 : Nat) (Option.some Jvm.ClassFile.FieldType.int)).before args0 about1 = true := code_word (m := ⟨7, 2⟩) (meth := k7m2) (c := k7c2) (by decide +kernel) rfl rfl rfl (by decide +kernel)
set_option maxRecDepth 65536 in
theorem w_c7 : (Jvm.Cond.code ({ cls := "java/lang/String", name := "coder", desc := "()B" } : Jvm.MethodName) jdk_42_method_152_code (1 : Nat) (Option.some Jvm.ClassFile.FieldType.byte)).before args0 about1 = true := code_word (m := ⟨7, 5⟩) (meth := k7m5) (c := k7c5) (by decide +kernel) rfl rfl rfl (by decide +kernel)
set_option maxRecDepth 65536 in
theorem w_c8 : (Jvm.Cond.code ({ cls := "java/lang/StringUTF16", name := "compress", desc := "([CII)[B" } : Jvm.MethodName) jdk_52_method_16_code (6 : Nat) (Option.some (Jvm.ClassFile.FieldType.array Jvm.ClassFile.FieldType.byte))).before args0 about1 = true := code_word (m := ⟨9, 8⟩) (meth := k9m8) (c := k9c8) (by decide +kernel) rfl rfl rfl (by decide +kernel)
set_option maxRecDepth 65536 in
theorem w_c9 : (Jvm.Cond.code ({ cls := "java/lang/StringUTF16", name := "compress", desc := "([CI[BII)I" } : Jvm.MethodName) jdk_52_method_21_code (7 : Nat) (Option.some Jvm.ClassFile.FieldType.int)).before args0 about1 = true := code_word (m := ⟨9, 9⟩) (meth := k9m9) (c := k9c9) (by decide +kernel) rfl rfl rfl (by decide +kernel)
set_option maxRecDepth 65536 in
theorem w_c10 : (Jvm.Cond.code ({ cls := "java/lang/StringUTF16", name := "coderFromArrayLen", desc := "([BI)B" } : Jvm.MethodName) jdk_52_method_15_code (2 : Nat) (Option.some Jvm.ClassFile.FieldType.byte)).before args0 about1 = true := code_word (m := ⟨9, 7⟩) (meth := k9m7) (c := k9c7) (by decide +kernel) rfl rfl rfl (by decide +kernel)
set_option maxRecDepth 65536 in
theorem w_c11 : (Jvm.Cond.code ({ cls := "com/example/summarium/summarium/cda/CdaElementsIsWhiteSpacePinLaw", name := "ws", desc := "(C)Z" } : Jvm.MethodName) method_4_code (2 : Nat) (Option.some Jvm.ClassFile.FieldType.boolean)).before args0 about1 = true := code_word (m := ⟨1, 3⟩) (meth := k1m3) (c := k1c3) (by decide +kernel) rfl rfl rfl (by decide +kernel)
set_option maxRecDepth 65536 in
theorem w_c12 : (Jvm.Cond.code ({ cls := "java/lang/String", name := "charAt", desc := "(I)C" } : Jvm.MethodName) jdk_42_method_56_code (2 : Nat) (Option.some Jvm.ClassFile.FieldType.char)).before args0 about1 = true := code_word (m := ⟨7, 3⟩) (meth := k7m3) (c := k7c3) (by decide +kernel) rfl rfl rfl (by decide +kernel)
set_option maxRecDepth 65536 in
theorem w_c13 : (Jvm.Cond.code ({ cls := "java/lang/String", name := "isLatin1", desc := "()Z" } : Jvm.MethodName) jdk_42_method_154_code (1 : Nat) (Option.some Jvm.ClassFile.FieldType.boolean)).before args0 about1 = true := code_word (m := ⟨7, 6⟩) (meth := k7m6) (c := k7c6) (by decide +kernel) rfl rfl rfl (by decide +kernel)
set_option maxRecDepth 65536 in
theorem w_c14 : (Jvm.Cond.code ({ cls := "java/lang/StringLatin1", name := "charAt", desc := "([BI)C" } : Jvm.MethodName) jdk_43_method_2_code (2 : Nat) (Option.some Jvm.ClassFile.FieldType.char)).before args0 about1 = true := code_word (m := ⟨10, 1⟩) (meth := k10m1) (c := k10c1) (by decide +kernel) rfl rfl rfl (by decide +kernel)
set_option maxRecDepth 65536 in
theorem w_c15 : (Jvm.Cond.code ({ cls := "java/lang/String", name := "checkIndex", desc := "(II)V" } : Jvm.MethodName) jdk_42_method_155_code (2 : Nat) (Option.none : Option Jvm.ClassFile.FieldType)).before args0 about1 = true := code_word (m := ⟨7, 7⟩) (meth := k7m7) (c := k7c7) (by decide +kernel) rfl rfl rfl (by decide +kernel)
set_option maxRecDepth 65536 in
theorem w_c16 : (Jvm.Cond.code ({ cls := "jdk/internal/util/Preconditions", name := "checkIndex", desc := "(IILjava/util/function/BiFunction;)I" } : Jvm.MethodName) jdk_41_method_11_code (3 : Nat) (Option.some Jvm.ClassFile.FieldType.int)).before args0 about1 = true := code_word (m := ⟨11, 1⟩) (meth := k11m1) (c := k11c1) (by decide +kernel) rfl rfl rfl (by decide +kernel)
set_option maxRecDepth 65536 in
theorem w_c17 : (Jvm.Cond.code ({ cls := "com/example/summarium/summarium/cda/CdaElements", name := "isWhiteSpace", desc := "(C)Z" } : Jvm.MethodName) prog_10_method_23_code (1 : Nat) (Option.some Jvm.ClassFile.FieldType.boolean)).before args0 about1 = true := code_word (m := ⟨8, 2⟩) (meth := k8m2) (c := k8c2) (by decide +kernel) rfl rfl rfl (by decide +kernel)
set_option maxRecDepth 65536 in
theorem w_c18 : (Jvm.Cond.code ({ cls := "java/lang/StringUTF16", name := "toBytes", desc := "([CII)[B" } : Jvm.MethodName) jdk_52_method_14_code (5 : Nat) (Option.some (Jvm.ClassFile.FieldType.array Jvm.ClassFile.FieldType.byte))).before args0 about1 = true := code_word (m := ⟨9, 6⟩) (meth := k9m6) (c := k9c6) (by decide +kernel) rfl rfl rfl (by decide +kernel)
set_option maxRecDepth 65536 in
theorem w_c19 : (Jvm.Cond.code ({ cls := "java/lang/StringUTF16", name := "newBytesFor", desc := "(I)[B" } : Jvm.MethodName) jdk_52_method_2_code (1 : Nat) (Option.some (Jvm.ClassFile.FieldType.array Jvm.ClassFile.FieldType.byte))).before args0 about1 = true := code_word (m := ⟨9, 1⟩) (meth := k9m1) (c := k9c1) (by decide +kernel) rfl rfl rfl (by decide +kernel)
set_option maxRecDepth 65536 in
theorem w_c20 : (Jvm.Cond.code ({ cls := "java/lang/StringUTF16", name := "newBytesLength", desc := "(I)I" } : Jvm.MethodName) jdk_52_method_3_code (1 : Nat) (Option.some Jvm.ClassFile.FieldType.int)).before args0 about1 = true := code_word (m := ⟨9, 2⟩) (meth := k9m2) (c := k9c2) (by decide +kernel) rfl rfl rfl (by decide +kernel)
set_option maxRecDepth 65536 in
theorem w_c21 : (Jvm.Cond.code ({ cls := "java/lang/StringUTF16", name := "putChar", desc := "([BII)V" } : Jvm.MethodName) jdk_52_method_4_code (3 : Nat) (Option.none : Option Jvm.ClassFile.FieldType)).before args0 about1 = true := code_word (m := ⟨9, 3⟩) (meth := k9m3) (c := k9c3) (by decide +kernel) rfl rfl rfl (by decide +kernel)
set_option maxRecDepth 65536 in
theorem w_c22 : (Jvm.Cond.code ({ cls := "java/lang/StringUTF16", name := "getChar", desc := "([BI)C" } : Jvm.MethodName) jdk_52_method_5_code (2 : Nat) (Option.some Jvm.ClassFile.FieldType.char)).before args0 about1 = true := code_word (m := ⟨9, 4⟩) (meth := k9m4) (c := k9c4) (by decide +kernel) rfl rfl rfl (by decide +kernel)
set_option maxRecDepth 65536 in
theorem w_c23 : (Jvm.Cond.code ({ cls := "java/lang/StringUTF16", name := "charAt", desc := "([BI)C" } : Jvm.MethodName) jdk_52_method_83_code (2 : Nat) (Option.some Jvm.ClassFile.FieldType.char)).before args0 about1 = true := code_word (m := ⟨9, 10⟩) (meth := k9m10) (c := k9c10) (by decide +kernel) rfl rfl rfl (by decide +kernel)
set_option maxRecDepth 65536 in
theorem w_c24 : (Jvm.Cond.code ({ cls := "java/lang/StringUTF16", name := "checkIndex", desc := "(I[B)V" } : Jvm.MethodName) jdk_52_method_91_code (2 : Nat) (Option.none : Option Jvm.ClassFile.FieldType)).before args0 about1 = true := code_word (m := ⟨9, 11⟩) (meth := k9m11) (c := k9c11) (by decide +kernel) rfl rfl rfl (by decide +kernel)
set_option maxRecDepth 65536 in
theorem w_c25 : (Jvm.Cond.code ({ cls := "java/lang/StringUTF16", name := "length", desc := "([B)I" } : Jvm.MethodName) jdk_52_method_6_code (1 : Nat) (Option.some Jvm.ClassFile.FieldType.int)).before args0 about1 = true := code_word (m := ⟨9, 5⟩) (meth := k9m5) (c := k9c5) (by decide +kernel) rfl rfl rfl (by decide +kernel)
def codes1 : List Jvm.Cond := [Jvm.Cond.code x code maxLocals ret, Jvm.Cond.code ({ cls := "com/example/summarium/summarium/cda/CdaElementsIsWhiteSpacePinLaw", name := "pick", desc := "(I)C" } : Jvm.MethodName) method_3_code (2 : Nat) (Option.some Jvm.ClassFile.FieldType.char), Jvm.Cond.code ({ cls := "java/lang/String", name := "<init>", desc := "([C)V" } : Jvm.MethodName) jdk_42_method_3_code (2 : Nat) (Option.none : Option Jvm.ClassFile.FieldType), Jvm.Cond.code ({ cls := "java/lang/String", name := "<init>", desc := "([CIILjava/lang/Void;)V" } : Jvm.MethodName) jdk_42_method_149_code (6 : Nat) (Option.none : Option Jvm.ClassFile.FieldType), Jvm.Cond.code ({ cls := "java/lang/Object", name := "<init>", desc := "()V" } : Jvm.MethodName) object_method_1_code (1 : Nat) (Option.none : Option Jvm.ClassFile.FieldType), Jvm.Cond.code ({ cls := "com/example/summarium/summarium/cda/CdaElements", name := "isWhiteSpace", desc := "(Ljava/lang/String;)Z" } : Jvm.MethodName) prog_10_method_22_code (2 : Nat) (Option.some Jvm.ClassFile.FieldType.boolean), Jvm.Cond.code ({ cls := "java/lang/String", name := "length", desc := "()I" } : Jvm.MethodName) jdk_42_method_54_code (1 : Nat) (Option.some Jvm.ClassFile.FieldType.int), Jvm.Cond.code ({ cls := "java/lang/String", name := "coder", desc := "()B" } : Jvm.MethodName) jdk_42_method_152_code (1 : Nat) (Option.some Jvm.ClassFile.FieldType.byte), Jvm.Cond.code ({ cls := "java/lang/StringUTF16", name := "compress", desc := "([CII)[B" } : Jvm.MethodName) jdk_52_method_16_code (6 : Nat) (Option.some (Jvm.ClassFile.FieldType.array Jvm.ClassFile.FieldType.byte)), Jvm.Cond.code ({ cls := "java/lang/StringUTF16", name := "compress", desc := "([CI[BII)I" } : Jvm.MethodName) jdk_52_method_21_code (7 : Nat) (Option.some Jvm.ClassFile.FieldType.int), Jvm.Cond.code ({ cls := "java/lang/StringUTF16", name := "coderFromArrayLen", desc := "([BI)B" } : Jvm.MethodName) jdk_52_method_15_code (2 : Nat) (Option.some Jvm.ClassFile.FieldType.byte), Jvm.Cond.code ({ cls := "com/example/summarium/summarium/cda/CdaElementsIsWhiteSpacePinLaw", name := "ws", desc := "(C)Z" } : Jvm.MethodName) method_4_code (2 : Nat) (Option.some Jvm.ClassFile.FieldType.boolean), Jvm.Cond.code ({ cls := "java/lang/String", name := "charAt", desc := "(I)C" } : Jvm.MethodName) jdk_42_method_56_code (2 : Nat) (Option.some Jvm.ClassFile.FieldType.char), Jvm.Cond.code ({ cls := "java/lang/String", name := "isLatin1", desc := "()Z" } : Jvm.MethodName) jdk_42_method_154_code (1 : Nat) (Option.some Jvm.ClassFile.FieldType.boolean), Jvm.Cond.code ({ cls := "java/lang/StringLatin1", name := "charAt", desc := "([BI)C" } : Jvm.MethodName) jdk_43_method_2_code (2 : Nat) (Option.some Jvm.ClassFile.FieldType.char), Jvm.Cond.code ({ cls := "java/lang/String", name := "checkIndex", desc := "(II)V" } : Jvm.MethodName) jdk_42_method_155_code (2 : Nat) (Option.none : Option Jvm.ClassFile.FieldType), Jvm.Cond.code ({ cls := "jdk/internal/util/Preconditions", name := "checkIndex", desc := "(IILjava/util/function/BiFunction;)I" } : Jvm.MethodName) jdk_41_method_11_code (3 : Nat) (Option.some Jvm.ClassFile.FieldType.int), Jvm.Cond.code ({ cls := "com/example/summarium/summarium/cda/CdaElements", name := "isWhiteSpace", desc := "(C)Z" } : Jvm.MethodName) prog_10_method_23_code (1 : Nat) (Option.some Jvm.ClassFile.FieldType.boolean), Jvm.Cond.code ({ cls := "java/lang/StringUTF16", name := "toBytes", desc := "([CII)[B" } : Jvm.MethodName) jdk_52_method_14_code (5 : Nat) (Option.some (Jvm.ClassFile.FieldType.array Jvm.ClassFile.FieldType.byte)), Jvm.Cond.code ({ cls := "java/lang/StringUTF16", name := "newBytesFor", desc := "(I)[B" } : Jvm.MethodName) jdk_52_method_2_code (1 : Nat) (Option.some (Jvm.ClassFile.FieldType.array Jvm.ClassFile.FieldType.byte)), Jvm.Cond.code ({ cls := "java/lang/StringUTF16", name := "newBytesLength", desc := "(I)I" } : Jvm.MethodName) jdk_52_method_3_code (1 : Nat) (Option.some Jvm.ClassFile.FieldType.int), Jvm.Cond.code ({ cls := "java/lang/StringUTF16", name := "putChar", desc := "([BII)V" } : Jvm.MethodName) jdk_52_method_4_code (3 : Nat) (Option.none : Option Jvm.ClassFile.FieldType), Jvm.Cond.code ({ cls := "java/lang/StringUTF16", name := "getChar", desc := "([BI)C" } : Jvm.MethodName) jdk_52_method_5_code (2 : Nat) (Option.some Jvm.ClassFile.FieldType.char), Jvm.Cond.code ({ cls := "java/lang/StringUTF16", name := "charAt", desc := "([BI)C" } : Jvm.MethodName) jdk_52_method_83_code (2 : Nat) (Option.some Jvm.ClassFile.FieldType.char), Jvm.Cond.code ({ cls := "java/lang/StringUTF16", name := "checkIndex", desc := "(I[B)V" } : Jvm.MethodName) jdk_52_method_91_code (2 : Nat) (Option.none : Option Jvm.ClassFile.FieldType), Jvm.Cond.code ({ cls := "java/lang/StringUTF16", name := "length", desc := "([B)I" } : Jvm.MethodName) jdk_52_method_6_code (1 : Nat) (Option.some Jvm.ClassFile.FieldType.int)]
set_option maxRecDepth 65536 in
theorem codes_eq : words1.filter isCode = codes1 := rfl
theorem w_codes : ∀ c ∈ words1.filter isCode, c.before args0 about1 = true := by
  rw [codes_eq]
  intro c hc
  simp only [codes1, List.mem_cons, List.not_mem_nil, or_false] at hc
  rcases hc with rfl | rfl | rfl | rfl | rfl | rfl | rfl | rfl | rfl | rfl | rfl | rfl | rfl | rfl | rfl | rfl | rfl | rfl | rfl | rfl | rfl | rfl | rfl | rfl | rfl | rfl
  · exact w_c0
  · exact w_c1
  · exact w_c2
  · exact w_c3
  · exact w_c4
  · exact w_c5
  · exact w_c6
  · exact w_c7
  · exact w_c8
  · exact w_c9
  · exact w_c10
  · exact w_c11
  · exact w_c12
  · exact w_c13
  · exact w_c14
  · exact w_c15
  · exact w_c16
  · exact w_c17
  · exact w_c18
  · exact w_c19
  · exact w_c20
  · exact w_c21
  · exact w_c22
  · exact w_c23
  · exact w_c24
  · exact w_c25
set_option maxRecDepth 65536 in
theorem w_t1 : (words1.take 24).all (fun c => isCode c || c.before args0 about1) = true := by decide +kernel
set_option maxRecDepth 65536 in
theorem w_t2 : ((words1.drop 24).take 24).all (fun c => isCode c || c.before args0 about1) = true := by decide +kernel
set_option maxRecDepth 65536 in
theorem w_t3 : (((words1.drop 24).drop 24).take 24).all (fun c => isCode c || c.before args0 about1) = true := by decide +kernel
set_option maxRecDepth 65536 in
theorem w_t4 : ((((words1.drop 24).drop 24).drop 24).take 24).all (fun c => isCode c || c.before args0 about1) = true := by decide +kernel
set_option maxRecDepth 65536 in
theorem w_t5 : ((((words1.drop 24).drop 24).drop 24).drop 24).all (fun c => isCode c || c.before args0 about1) = true := by decide +kernel
theorem w_tables : (allAtoms (Jvm.Cond.code x code maxLocals ret :: tables_1)).before args0 about1 = true := by
  rw [allAtoms_all]
  show words1.all (fun c => c.before args0 about1) = true
  refine all_split ?_ w_codes
  rw [← List.take_append_drop 24 words1, List.all_append, w_t1, ← List.take_append_drop 24 (words1.drop 24), List.all_append, w_t2, ← List.take_append_drop 24 ((words1.drop 24).drop 24), List.all_append, w_t3, ← List.take_append_drop 24 (((words1.drop 24).drop 24).drop 24), List.all_append, w_t4, w_t5]
  rfl
set_option maxRecDepth 65536 in
theorem w_rest : rest_1_c.before args0 about1 = true := by decide +kernel
set_option maxRecDepth 65536 in
theorem w_case : (Jvm.Cond.and given_1 narrow_1).before args0 about1 = true := by decide +kernel
set_option maxRecDepth 65536 in
theorem w_consts : constsHeld consts_1 about1 := Jvm.Lit.constsHeldB_iff.mp (by decide +kernel)
theorem w_applies : (headSpec (Jvm.Cond.code x code maxLocals ret :: tables_1) room_1).applies x e0.platform about1 = true :=
  (Spec.applies_iff w_frames).mpr ⟨w_running, w_runnable, w_alone, w_named, w_hears, w_ripe, w_room, w_tables⟩
theorem atStart : AtStart classFile x code maxLocals ret World_1 tables_1 room_1 Calls_1 rest_1 Pre_1 launch0 p0 e0 about1 theMethod args0 below0 :=
  ⟨lists_1, trivial, launch0.admits_env _ _ _, launch0.least_env, fairChoices_fair.cas, fairChoices_fair.clock, w_frames, w_args, w_heap, w_applies, ⟨w_consts, trivial⟩, w_rest, w_case⟩
end start1
theorem witness_1 : WitnessClaimed_1 := ⟨start1.p0, start1.e0, start1.about1, start1.theMethod, start1.args0, start1.below0, start1.atStart⟩
end Jvm.Pilot.@@N@@
