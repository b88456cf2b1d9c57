import JvmDerived
import JvmDerived.Pilot.@@N@@Statement
import JvmDerived.Pilot.@@N@@Code
set_option linter.unusedVariables false
set_option linter.unusedSimpArgs false
namespace Jvm.RoadKit
open Sem ClassFile Op Lib Jvm.Stand Jvm.Free Jvm.LawKit
section New
variable {p : Program} {l : Launch} {e : Env} {R : Room} {s : State} {m : MethodId} {args : Array Value} {below : List Frame} {meth : Method} {c : Code} {T : State} {locs : List Loc} {cells slots : Nat}
theorem retI (X : Stand p l e R s m args below meth c T locs cells slots) (hx : p.tables.exec = Jvm.exec) {pc : Nat} {Ls : Array Slot} {z : Int32} {rest : List Value} (hret : meth.sig.returnType = some .int) (hd : decode c.code pc = .ok (.ireturn, 1)) {fs : List Frame}
    (hl : ∀ (f : JFrame) (acts : List Action), f.method = m → f.locked = none → f.entered = [] → (doReturn e (T.setTop f) acts (some (.int z))).1 = T.setFrames fs) : Steps p.tables e below (T.setTop (mkF m pc Ls (.int z :: rest))) (T.setFrames fs) := by
  have hm' : T.vm.method? m = some meth := X.method'
  have hn : narrow .int (.int z) = .int z := rfl
  show Steps p.tables e below (T.setTop { method := m, pc := pc, locals := Ls, stack := _ :: rest, locked := none }) _
  jvm_step X.here [X.here.top, hx, hd, hm', hret, hn]
  first | (intro acts; rw [hl _ acts rfl rfl rfl]) | rw [hl _ _ rfl rfl rfl]
  exact Steps.refl _
end New
end Jvm.RoadKit
namespace Jvm.Pilot.@@N@@
open Jvm Jvm.ClassFile Sem Op Lib Jvm.Free Jvm.Stand Jvm.LawKit Jvm.RoadKit Bundle Jvm.Pilot.@@N@@.Jvm.D
def Far (Z : State) (h : Heap) (a : Addr) (ty : FieldType) (n : Int32) (f : Nat → Int32) : Prop := ∃ c : Cell, Arr Z h a c ty ∧ c.slots.size = n.toNatClampNeg ∧ ¬ n < 0 ∧ ∀ k, k < c.slots.size → c.slots[k]? = some (.int (f k))
section FarLaws
variable {Z : State} {h h' : Heap} {a b : Addr} {ty : FieldType} {n : Int32} {f g : Nat → Int32} {sl : Nat} {v : Value} {ws : List Addr}
theorem Far.lt (F : Far Z h a ty n f) : a < h.size := by obtain ⟨c, A, -⟩ := F; exact A.lt
theorem Far.ext (F : Far Z h a ty n f) (E : Ext h h') : Far Z h' a ty n f := by obtain ⟨c, A, r⟩ := F; exact ⟨c, A.ext E, r⟩
theorem Far.other (F : Far Z h b ty n f) (W : Wr h h' a sl v) (q : b ≠ a) : Far Z h' b ty n f := by obtain ⟨c, A, r⟩ := F; exact ⟨c, A.other W q, r⟩
theorem Far.keep (F : Far Z h a ty n f) (K : Keep h h' ws) (q : a ∉ ws) : Far Z h' a ty n f := by obtain ⟨c, A, r⟩ := F; exact ⟨c, ⟨K.2.1 a c A.1 q, A.2⟩, r⟩
theorem Far.new {k : ClassId} (A : Arr Z h a (newA k ty n) ty) (q : ¬ n < 0) (hd : defaultValue ty = .int 0) : Far Z h a ty n (fun _ => 0) := ⟨_, A, sz_new _ _ _, q, fun i hi => by
  rw [sz_new] at hi
  simp [newA, hi, hd]⟩
theorem Far.congr (F : Far Z h a ty n f) (q : ∀ k, k < n.toNatClampNeg → f k = g k) : Far Z h a ty n g := by
  obtain ⟨c, A, S, M, H⟩ := F
  exact ⟨c, A, S, M, fun k hk => by rw [← q k (S ▸ hk)]; exact H k hk⟩
theorem Far.set {c : Cell} {j x : Int32} (A : Arr Z h a c ty) (S : c.slots.size = n.toNatClampNeg) (M : ¬ n < 0) (H : ∀ k, k < c.slots.size → c.slots[k]? = some (.int (f k))) (W : Wr h h' a j.toNatClampNeg (.int x)) : Far Z h' a ty n (fun k => if k = j.toNatClampNeg then x else f k) := by
  refine ⟨c.setSlot j.toNatClampNeg (.int x), A.same W, by rw [sz_set]; exact S, M, fun k hk => ?_⟩
  rw [sz_set] at hk
  show _ = some (Value.int (if k = j.toNatClampNeg then x else f k))
  by_cases e : k = j.toNatClampNeg
  · rw [if_pos e]; subst e; exact Cell.slots_setSlot_self _ hk
  · rw [if_neg e, Cell.slots_setSlot_ne _ (Ne.symm e)]; exact H k hk
theorem own_at {c : Cell} {j : Int32} (H : ∀ k, k < c.slots.size → c.slots[k]? = some (.int (f k))) (hin : ¬ (j < 0 ∨ c.slots.size ≤ j.toNatClampNeg)) : c.slots[j.toNatClampNeg]? = some (.int (f j.toNatClampNeg)) := H _ (Nat.lt_of_not_le fun q => hin (Or.inr q))
end FarLaws
theorem own_lt (a b : Int32) : a < b ↔ a.toInt < b.toInt := Int32.lt_iff_toInt_lt
theorem own_irr (n : Int32) : ¬ n < n := by rw [own_lt]; omega
theorem own_nat (j : Int32) (h : 0 ≤ j.toInt) : (j.toNatClampNeg : Int) = j.toInt := Int.toNat_of_nonneg h
theorem Far.put {Z : State} {h h' : Heap} {a : Addr} {ty : FieldType} {n : Int32} {f : Nat → Int32} {j x : Int32} (F : Far Z h a ty n f) (W : Wr h h' a j.toNatClampNeg (.int x)) : Far Z h' a ty n (fun k => if k = j.toNatClampNeg then x else f k) := by
  obtain ⟨c, A, S, M, H⟩ := F
  exact Far.set A S M H W
def own_up (v : Int64) (k : Nat) : Int64 := Int64.ofBitVec (v.toBitVec >>> k)
def own_b (x : Int64) : Int32 := x.toInt32.toInt8.toInt32
theorem own_nar (x : Int64) : nar .byte (own_b x) = own_b x := by
  show (own_b x).toInt8.toInt32 = own_b x
  simp [own_b]
theorem own_byte (x : Int64) : ((own_b x) &&& (255 : Int32)).toInt64.toBitVec.toNat = x.toBitVec.toNat % 256 := by
  have h1 := c_mask (own_b x) 255 8 (by decide) (by decide)
  have h2 := c_i2b x.toInt32
  have h3 := c_l2i x
  have h4 : ((own_b x) &&& (255 : Int32)).toInt64.toInt = ((own_b x) &&& (255 : Int32)).toInt := c_i2l _
  have h5 : (own_b x).toInt = x.toInt32.toInt8.toInt32.toInt := rfl
  have h6 : (x.toInt - (x.toBitVec.toNat : Int)) % 18446744073709551616 = 0 := by
    have : x.toInt = x.toBitVec.toInt := rfl
    rw [this, BitVec.toInt_eq_toNat_cond]
    split <;> omega
  have h7 : ((own_b x) &&& (255 : Int32)).toInt64.toInt = (((own_b x) &&& (255 : Int32)).toInt64.toBitVec.toNat : Int) ∨ ((own_b x) &&& (255 : Int32)).toInt64.toInt = (((own_b x) &&& (255 : Int32)).toInt64.toBitVec.toNat : Int) - 18446744073709551616 := by
    have : ((own_b x) &&& (255 : Int32)).toInt64.toInt = ((own_b x) &&& (255 : Int32)).toInt64.toBitVec.toInt := rfl
    rw [this, BitVec.toInt_eq_toNat_cond]
    split <;> omega
  have h8 := ((own_b x) &&& (255 : Int32)).toInt64.toBitVec.isLt
  have h9 := x.toBitVec.isLt
  omega
theorem own_join (x : Int64) : ((own_up x 8) <<< ((8 : Int32) &&& 0x3f).toInt64) ||| ((own_b x) &&& (255 : Int32)).toInt64 = x := by
  apply Int64.toBitVec.inj
  apply BitVec.eq_of_toNat_eq
  have hs : ((own_up x 8) <<< ((8 : Int32) &&& 0x3f).toInt64).toBitVec.toNat = x.toBitVec.toNat / 256 * 256 := by
    have e : ((own_up x 8) <<< ((8 : Int32) &&& 0x3f).toInt64).toBitVec = (x.toBitVec >>> 8) <<< 8 := rfl
    rw [e, BitVec.toNat_shiftLeft, BitVec.toNat_ushiftRight, Nat.shiftRight_eq_div_pow, Nat.shiftLeft_eq]
    have := x.toBitVec.isLt
    omega
  have hor : (((own_up x 8) <<< ((8 : Int32) &&& 0x3f).toInt64) ||| ((own_b x) &&& (255 : Int32)).toInt64).toBitVec.toNat = ((own_up x 8) <<< ((8 : Int32) &&& 0x3f).toInt64).toBitVec.toNat ||| ((own_b x) &&& (255 : Int32)).toInt64.toBitVec.toNat := rfl
  rw [hor, hs, own_byte]
  have h := Nat.two_pow_add_eq_or_of_lt (i := 8) (b := x.toBitVec.toNat % 256) (by omega) (x.toBitVec.toNat / 256)
  rw [Nat.mul_comm] at h
  have e : (2 : Nat) ^ 8 = 256 := rfl
  rw [e] at h
  rw [← h]; omega
theorem own_up_add (v : Int64) (a b : Nat) : own_up (own_up v a) b = own_up v (a + b) := by
  apply Int64.toBitVec.inj
  show (v.toBitVec >>> a) >>> b = v.toBitVec >>> (a + b)
  rw [BitVec.shiftRight_add]
theorem own_up_64 (v : Int64) : own_up v 64 = 0 := by
  apply Int64.toBitVec.inj
  apply BitVec.eq_of_toNat_eq
  show (v.toBitVec >>> 64).toNat = 0
  rw [BitVec.toNat_ushiftRight, Nat.shiftRight_eq_div_pow]
  exact Nat.div_eq_of_lt v.toBitVec.isLt
theorem own_up_0 (v : Int64) : own_up v 0 = v := by
  apply Int64.toBitVec.inj
  show v.toBitVec >>> 0 = v.toBitVec
  rw [BitVec.ushiftRight_zero]
theorem own_turn (v : Int64) (i : Nat) (h : i < 8) : ((own_up v (64 - 8 * i)) <<< ((8 : Int32) &&& 0x3f).toInt64) ||| ((own_b (own_up v (56 - 8 * i))) &&& (255 : Int32)).toInt64 = own_up v (64 - 8 * (i + 1)) := by
  have e := own_join (own_up v (56 - 8 * i))
  rw [own_up_add, show 56 - 8 * i + 8 = 64 - 8 * i by omega] at e
  rw [e, show 64 - 8 * (i + 1) = 56 - 8 * i by omega]
theorem own_hj (a i : Int32) (k : Nat) (e : i.toInt = k) (h0 : 0 ≤ a.toInt) (h1 : a.toInt ≤ 3) (hk : k ≤ 7) : (a + i).toInt = a.toInt + k := by
  have q := c_iadd a i
  have := rng32 (a + i)
  omega
theorem own_wj (a i : Int32) (k : Nat) (e : i.toInt = k) (h0 : 0 ≤ a.toInt) (h1 : a.toInt ≤ 3) (hk : k ≤ 7) : (a + i).toNatClampNeg = a.toNatClampNeg + k := by
  have q := own_hj a i k e h0 h1 hk
  have w1 := own_nat (a + i) (by omega)
  have w2 := own_nat a h0
  omega
theorem own_lh (a i : Int32) (k : Nat) (e : i.toInt = k) (h0 : 0 ≤ a.toInt) (h1 : a.toInt ≤ 3) (hk : k ≤ 7) : ¬ (a + i) < 0 ∧ (a + i) < (11 : Int32) := by
  have q := own_hj a i k e h0 h1 hk
  have e0 : (0 : Int32).toInt = 0 := rfl
  have e1 : (11 : Int32).toInt = 11 := rfl
  exact ⟨by rw [own_lt]; omega, by rw [own_lt]; omega⟩
theorem own_lh0 (a : Int32) (h0 : 0 ≤ a.toInt) (h1 : a.toInt ≤ 3) : ¬ a < 0 ∧ a < (11 : Int32) := by
  have e0 : (0 : Int32).toInt = 0 := rfl
  have e1 : (11 : Int32).toInt = 11 := rfl
  exact ⟨by rw [own_lt]; omega, by rw [own_lt]; omega⟩
theorem own_8 (i : Nat) (h : i < 8) : i = 0 ∨ i = 1 ∨ i = 2 ∨ i = 3 ∨ i = 4 ∨ i = 5 ∨ i = 6 ∨ i = 7 := by omega
theorem own_ne (a i j : Nat) (h : i ≠ j) : ¬ a + i = a + j := by omega
theorem own_fld {args : Array Value} {s : State} {t : Term} {C n d : String} {k : Int32} {x : Addr} (h : (Jvm.Cond.eq (Term.field t C n d) (Term.int k)).value args s none s [] = some true) (ht : t.eval args s none [] s = some (.ref x)) : Fld s s.heap x C n d (.int k) := by
  apply Fld.start
  rw [← fld_at (C := C) (n := n) (dd := d) ht]
  obtain ⟨u, w, hu, hw, -, -⟩ := cmp_v (Or.inl h)
  have hw' : w = .int k := (Option.some.inj (hw.symm.trans (Term.int_eval k)))
  rw [hu]
  subst hw'
  cases u <;> simp [Cond.value, hu, hw] at h
  rw [h]
theorem d1_0 : decode prog_65_method_16_code 0 = .ok (.lconst 0, 1) := by decide +kernel
theorem d1_1 : decode prog_65_method_16_code 1 = .ok (.lstore_n 3, 1) := by decide +kernel
theorem d1_2 : decode prog_65_method_16_code 2 = .ok (.iconst 0, 1) := by decide +kernel
theorem d1_3 : decode prog_65_method_16_code 3 = .ok (.istore 5, 2) := by decide +kernel
theorem d1_5 : decode prog_65_method_16_code 5 = .ok (.iload 5, 2) := by decide +kernel
theorem d1_7 : decode prog_65_method_16_code 7 = .ok (.aload_n 0, 1) := by decide +kernel
theorem d1_8 : decode prog_65_method_16_code 8 = .ok (.getfield 36, 3) := by decide +kernel
theorem d1_11 : decode prog_65_method_16_code 11 = .ok (.if_icmp .ge 26, 3) := by decide +kernel
theorem d1_14 : decode prog_65_method_16_code 14 = .ok (.lload_n 3, 1) := by decide +kernel
theorem d1_15 : decode prog_65_method_16_code 15 = .ok (.bipush 8, 2) := by decide +kernel
theorem d1_17 : decode prog_65_method_16_code 17 = .ok (.lshl, 1) := by decide +kernel
theorem d1_18 : decode prog_65_method_16_code 18 = .ok (.aload_n 1, 1) := by decide +kernel
theorem d1_19 : decode prog_65_method_16_code 19 = .ok (.iload_n 2, 1) := by decide +kernel
theorem d1_20 : decode prog_65_method_16_code 20 = .ok (.iload 5, 2) := by decide +kernel
theorem d1_22 : decode prog_65_method_16_code 22 = .ok (.iadd, 1) := by decide +kernel
theorem d1_23 : decode prog_65_method_16_code 23 = .ok (.baload, 1) := by decide +kernel
theorem d1_24 : decode prog_65_method_16_code 24 = .ok (.sipush 255, 3) := by decide +kernel
theorem d1_27 : decode prog_65_method_16_code 27 = .ok (.iand, 1) := by decide +kernel
theorem d1_28 : decode prog_65_method_16_code 28 = .ok (.i2l, 1) := by decide +kernel
theorem d1_29 : decode prog_65_method_16_code 29 = .ok (.lor, 1) := by decide +kernel
theorem d1_30 : decode prog_65_method_16_code 30 = .ok (.lstore_n 3, 1) := by decide +kernel
theorem d1_31 : decode prog_65_method_16_code 31 = .ok (.iinc 5 1, 3) := by decide +kernel
theorem d1_34 : decode prog_65_method_16_code 34 = .ok (.goto (-29), 3) := by decide +kernel
theorem d1_37 : decode prog_65_method_16_code 37 = .ok (.aload_n 0, 1) := by decide +kernel
theorem d1_38 : decode prog_65_method_16_code 38 = .ok (.getfield 36, 3) := by decide +kernel
theorem d1_41 : decode prog_65_method_16_code 41 = .ok (.iconst 4, 1) := by decide +kernel
theorem d1_42 : decode prog_65_method_16_code 42 = .ok (.if_icmp .ne 7, 3) := by decide +kernel
theorem d1_45 : decode prog_65_method_16_code 45 = .ok (.lload_n 3, 1) := by decide +kernel
theorem d1_46 : decode prog_65_method_16_code 46 = .ok (.l2i, 1) := by decide +kernel
theorem d1_47 : decode prog_65_method_16_code 47 = .ok (.i2l, 1) := by decide +kernel
theorem d1_48 : decode prog_65_method_16_code 48 = .ok (.lstore_n 3, 1) := by decide +kernel
theorem d1_49 : decode prog_65_method_16_code 49 = .ok (.aload_n 0, 1) := by decide +kernel
theorem d1_50 : decode prog_65_method_16_code 50 = .ok (.getstatic 10, 3) := by decide +kernel
theorem d1_53 : decode prog_65_method_16_code 53 = .ok (.if_acmp .ne 11, 3) := by decide +kernel
theorem d1_56 : decode prog_65_method_16_code 56 = .ok (.ldc2_w 113, 3) := by decide +kernel
theorem d1_59 : decode prog_65_method_16_code 59 = .ok (.lload_n 3, 1) := by decide +kernel
theorem d1_60 : decode prog_65_method_16_code 60 = .ok (.lsub, 1) := by decide +kernel
theorem d1_61 : decode prog_65_method_16_code 61 = .ok (.goto 4, 3) := by decide +kernel
theorem d1_64 : decode prog_65_method_16_code 64 = .ok (.lload_n 3, 1) := by decide +kernel
theorem d1_65 : decode prog_65_method_16_code 65 = .ok (.lreturn, 1) := by decide +kernel
theorem pn_rmR : plainName "com/example/sound_schema/soundschema/Segment$Number$Type" = true := by first | (simp [plainName, overriddenIn]; done) | decide +kernel
theorem ef_rmR (m : MethodId) (a1 : Addr) (a2 : Addr) (p3 : Int32) : entryFrame m #[(.ref a1), (.ref a2), (.int p3)] 6 = (mkF m 0 #[.val (.ref a1), .val (.ref a2), .val (.int p3), .unset, .unset, .unset] []) := by first | (simp [entryFrame, mkF, argsToLocals, Value.category]; done) | rfl
def Q_rmR (Z : State) (a1 : Addr) (a2 : Addr) (p3 : Int32) (wd : Int32) (f : Nat → Int32) (d : Addr) (u R : Int64) (h0 : Heap) (n0 : Nat) (v : Option Value) (h : Heap) (L : List Loc) : Prop := v = some (.long R) ∧ Fr n0 L ∧ h = h0
set_option maxRecDepth 65536 in
set_option maxHeartbeats 40000000 in
theorem rmR (l : Launch) (Z : State) (a0 : Array Value) (hw : ∀ d ∈ tables_1, d.before a0 Z = true) (ws : List Jvm.Cond) (a1 : Addr) (a2 : Addr) (p3 : Int32) (wd : Int32) (f : Nat → Int32) (d : Addr) (u R : Int64) (h0 : Heap) (n0 : Nat) (Z0 : n0 ≤ h0.size) (F : Fld Z h0 a1 "com/example/sound_schema/soundschema/Segment$Number$Type" "width" "I" (.int wd)) (SD : Sta Z h0 "com/example/sound_schema/soundschema/Segment$Number$Type" "DESC64" "Lcom/example/sound_schema/soundschema/Segment$Number$Type;" (.ref d)) (FK : Far Z h0 a2 .byte (11 : Int32) f) (hp : 0 ≤ p3.toInt ∧ p3.toInt ≤ 3) (hb8 : ∀ i : Nat, i < 8 → f (p3.toNatClampNeg + i) = own_b (own_up u (56 - 8 * i))) (hR : (wd = 4 ∧ a1 ≠ d ∧ R = ((own_up u 32).toInt32).toInt64) ∨ (wd = 8 ∧ a1 ≠ d ∧ R = u) ∨ (wd = 8 ∧ a1 = d ∧ R = (9223372036854775807 : Int64) - u)) :
    MetFree l (⟨"com/example/sound_schema/soundschema/Segment$Number$Type", "read", "([BI)J"⟩ : MethodName) (head1 (Jvm.Cond.code (⟨"com/example/sound_schema/soundschema/Segment$Number$Type", "read", "([BI)J"⟩ : MethodName) prog_65_method_16_code 6 (some .long) :: ws) ({ frames := 0, cells := 0, slots := 0, locals := 0 } : Room)) (fun a U => a = #[(.ref a1), (.ref a2), (.int p3)] ∧ Z.Warmed39 U.vm ∧ U.heap = h0) (fun _ _ _ _ _ => True) (fun _ U o U' => ∃ v L, o = .returned v ∧ Q_rmR Z a1 a2 p3 wd f d u R h0 n0 v U'.heap L ∧ FrameEnd U o U' L ({ frames := 0, cells := 0, slots := 0, locals := 0 } : Room).cells ({ frames := 0, cells := 0, slots := 0, locals := 0 } : Room).slots) := by
  refine MetFree.of_bodySF (plainFor_of_name pn_rmR) hisR ?_
  intro p e s m args below meth c s₁ Bd hml0 hP hK
  obtain ⟨rfl, hZ, hh⟩ := hP
  have hx := Bd.exec
  have hby := Bd.bytes
  have hml : c.maxLocals = 6 := hml0
  have hown : s.vm.findClass "com/example/sound_schema/soundschema/Segment$Number$Type" = some m.cls := findClass_of_methodNamed Bd.named
  have hnm := (name_of_methodNamed Bd.named Bd.method).1
  have X0 : Stand p l e ({ frames := 0, cells := 0, slots := 0, locals := 0 } : Room) s m #[(.ref a1), (.ref a2), (.int p3)] below meth c s₁ [] 0 0 := Stand.of_body Bd
  have e0 : s₁.heap = h0 := by rw [← hh, Bd.state]; rfl
  have N0 := Fr.nil n0
  have pre0 : Steps p.tables e below (s₁.setTop (entryFrame m #[(.ref a1), (.ref a2), (.int p3)] 6)) (s₁.setTop (mkF m 0 #[.val (.ref a1), .val (.ref a2), .val (.int p3), .unset, .unset, .unset] [])) := castTop (ef_rmR m a1 a2 p3) (Steps.refl _)
  have e00 : (0 : Int32).toInt = 0 := rfl
  have e44 : (4 : Int32).toInt = 4 := rfl
  have e88 : (8 : Int32).toInt = 8 := rfl
  have e1111 : (11 : Int32).toInt = 11 := rfl
  have hwd : wd.toInt = 4 ∨ wd.toInt = 8 := by rcases hR with ⟨q, -⟩ | ⟨q, -⟩ | ⟨q, -⟩ <;> rw [q] <;> decide
  obtain ⟨cl, Ar, S, M, H⟩ := id FK
  have pre1 : Steps p.tables e below _ (s₁.setTop (mkF m 5 #[.val (.ref a1), .val (.ref a2), .val (.int p3), .val (.long (0 : Int64)), .second, .val (.int (0 : Int32))] [])) := pre0.trans (by
    show Steps p.tables e below (s₁.setTop (mkF m 0 #[.val (.ref a1), .val (.ref a2), .val (.int p3), .unset, .unset, .unset] [])) _
    refine XS.lconst X0.here hx rfl (hb hby d1_0) ?_
    show Steps p.tables e below (s₁.setTop (mkF m 1 #[.val (.ref a1), .val (.ref a2), .val (.int p3), .unset, .unset, .unset] [(.long (0 : Int64))])) _
    refine XS.lstoreN X0.here hx rfl (hb hby d1_1) rfl (l' := #[.val (.ref a1), .val (.ref a2), .val (.int p3), .val (.long (0 : Int64)), .second, .unset]) rfl ?_
    show Steps p.tables e below (s₁.setTop (mkF m 2 #[.val (.ref a1), .val (.ref a2), .val (.int p3), .val (.long (0 : Int64)), .second, .unset] [])) _
    refine XS.iconst X0.here hx rfl (hb hby d1_2) ?_
    show Steps p.tables e below (s₁.setTop (mkF m 3 #[.val (.ref a1), .val (.ref a2), .val (.int p3), .val (.long (0 : Int64)), .second, .unset] [(.int (0 : Int32))])) _
    refine XS.istore X0.here hx rfl (hb hby d1_3) rfl (l' := #[.val (.ref a1), .val (.ref a2), .val (.int p3), .val (.long (0 : Int64)), .second, .val (.int (0 : Int32))]) rfl ?_
    exact Steps.refl _)
  have z64 : (0 : Int64) = own_up u (64 - 8 * (0 : Int32).toNatClampNeg) := (own_up_64 u).symm
  rw [z64] at pre1
  have loop : ∀ (k : Nat) (i : Int32) (T : State), Stand p l e ({ frames := 0, cells := 0, slots := 0, locals := 0 } : Room) s m #[(.ref a1), (.ref a2), (.int p3)] below meth c T [] 0 0 → T.heap = h0 → 0 ≤ i.toInt → i.toInt + k = wd.toInt → ∃ (T' : State), Stand p l e ({ frames := 0, cells := 0, slots := 0, locals := 0 } : Room) s m #[(.ref a1), (.ref a2), (.int p3)] below meth c T' [] 0 0 ∧ T'.heap = h0 ∧ Steps p.tables e below (T.setTop (mkF m 5 #[.val (.ref a1), .val (.ref a2), .val (.int p3), .val (.long (own_up u (64 - 8 * i.toNatClampNeg))), .second, .val (.int i)] [])) (T'.setTop (mkF m 37 #[.val (.ref a1), .val (.ref a2), .val (.int p3), .val (.long (own_up u (64 - 8 * wd.toNatClampNeg))), .second, .val (.int wd)] [])) := by
    intro k
    induction k with
    | zero =>
      intro i T X eT i0 ik
      have hi : wd = i := Int32.toInt_inj.mp (by omega)
      subst hi
      have preL : Steps p.tables e below (T.setTop (mkF m 5 #[.val (.ref a1), .val (.ref a2), .val (.int p3), .val (.long (own_up u (64 - 8 * wd.toNatClampNeg))), .second, .val (.int wd)] [])) (T.setTop (mkF m 5 #[.val (.ref a1), .val (.ref a2), .val (.int p3), .val (.long (own_up u (64 - 8 * wd.toNatClampNeg))), .second, .val (.int wd)] [])) := Steps.refl _
      have pre2 : Steps p.tables e below _ (T.setTop (mkF m 8 #[.val (.ref a1), .val (.ref a2), .val (.int p3), .val (.long (own_up u (64 - 8 * wd.toNatClampNeg))), .second, .val (.int wd)] [(.ref a1), (.int wd)])) := preL.trans (by
        show Steps p.tables e below (T.setTop (mkF m 5 #[.val (.ref a1), .val (.ref a2), .val (.int p3), .val (.long (own_up u (64 - 8 * wd.toNatClampNeg))), .second, .val (.int wd)] [])) _
        refine XS.iload X.here hx rfl (hb hby d1_5) rfl ?_
        show Steps p.tables e below (T.setTop (mkF m 7 #[.val (.ref a1), .val (.ref a2), .val (.int p3), .val (.long (own_up u (64 - 8 * wd.toNatClampNeg))), .second, .val (.int wd)] [(.int wd)])) _
        refine XS.aloadN X.here hx rfl (hb hby d1_7) rfl rfl ?_
        exact Steps.refl _)
      obtain ⟨T3, X3, e3, st3⟩ := getF X hx hZ hown (host := "") (Or.inl (hw _ (List.mem_of_getElem? (i := 10) rfl))) Via.refl eT F (g := (mkF m 8 #[.val (.ref a1), .val (.ref a2), .val (.int p3), .val (.long (own_up u (64 - 8 * wd.toNatClampNeg))), .second, .val (.int wd)] [(.ref a1), (.int wd)])) rfl rfl (hb hby d1_8)
      have pre3 : Steps p.tables e below _ (T3.setTop (mkF m 11 #[.val (.ref a1), .val (.ref a2), .val (.int p3), .val (.long (own_up u (64 - 8 * wd.toNatClampNeg))), .second, .val (.int wd)] [(.int wd), (.int wd)])) := pre2.trans (st3 _ (Steps.refl _))
      have pre4 : Steps p.tables e below _ (T3.setTop (mkF m 37 #[.val (.ref a1), .val (.ref a2), .val (.int p3), .val (.long (own_up u (64 - 8 * wd.toNatClampNeg))), .second, .val (.int wd)] [])) := pre3.trans (by
        show Steps p.tables e below (T3.setTop (mkF m 11 #[.val (.ref a1), .val (.ref a2), .val (.int p3), .val (.long (own_up u (64 - 8 * wd.toNatClampNeg))), .second, .val (.int wd)] [(.int wd), (.int wd)])) _
        refine XS.icmpYes X3.here hx rfl (pc0 := 11) (pc' := 37) rfl (hb hby d1_11) rfl (flt (own_irr wd)).2.1 (by decide) (by decide) ?_
        exact Steps.refl _)
      exact ⟨T3, X3, e3, pre4⟩
    | succ k ih =>
      intro i T X eT i0 ik
      have preL : Steps p.tables e below (T.setTop (mkF m 5 #[.val (.ref a1), .val (.ref a2), .val (.int p3), .val (.long (own_up u (64 - 8 * i.toNatClampNeg))), .second, .val (.int i)] [])) (T.setTop (mkF m 5 #[.val (.ref a1), .val (.ref a2), .val (.int p3), .val (.long (own_up u (64 - 8 * i.toNatClampNeg))), .second, .val (.int i)] [])) := Steps.refl _
      have hlt : i < wd := by rw [own_lt]; omega
      have wi := own_nat i i0
      have w3 := own_nat p3 hp.1
      have hj : (p3 + i).toInt = p3.toInt + i.toInt := by have q := c_iadd p3 i; have := rng32 (p3 + i); omega
      have wj := own_nat (p3 + i) (by omega)
      have hin : ¬ ((p3 + i) < 0 ∨ cl.slots.size ≤ (p3 + i).toNatClampNeg) := inb_of S ⟨by rw [own_lt]; omega, by rw [own_lt]; omega⟩
      have hat : cl.slots[(p3 + i).toNatClampNeg]? = some (.int (own_b (own_up u (56 - 8 * i.toNatClampNeg)))) := by
        rw [← hb8 i.toNatClampNeg (by omega), show p3.toNatClampNeg + i.toNatClampNeg = (p3 + i).toNatClampNeg by omega]; exact own_at H hin
      have pre5 : Steps p.tables e below _ (T.setTop (mkF m 8 #[.val (.ref a1), .val (.ref a2), .val (.int p3), .val (.long (own_up u (64 - 8 * i.toNatClampNeg))), .second, .val (.int i)] [(.ref a1), (.int i)])) := preL.trans (by
        show Steps p.tables e below (T.setTop (mkF m 5 #[.val (.ref a1), .val (.ref a2), .val (.int p3), .val (.long (own_up u (64 - 8 * i.toNatClampNeg))), .second, .val (.int i)] [])) _
        refine XS.iload X.here hx rfl (hb hby d1_5) rfl ?_
        show Steps p.tables e below (T.setTop (mkF m 7 #[.val (.ref a1), .val (.ref a2), .val (.int p3), .val (.long (own_up u (64 - 8 * i.toNatClampNeg))), .second, .val (.int i)] [(.int i)])) _
        refine XS.aloadN X.here hx rfl (hb hby d1_7) rfl rfl ?_
        exact Steps.refl _)
      obtain ⟨T6, X6, e6, st6⟩ := getF X hx hZ hown (host := "") (Or.inl (hw _ (List.mem_of_getElem? (i := 10) rfl))) Via.refl eT F (g := (mkF m 8 #[.val (.ref a1), .val (.ref a2), .val (.int p3), .val (.long (own_up u (64 - 8 * i.toNatClampNeg))), .second, .val (.int i)] [(.ref a1), (.int i)])) rfl rfl (hb hby d1_8)
      have pre6 : Steps p.tables e below _ (T6.setTop (mkF m 11 #[.val (.ref a1), .val (.ref a2), .val (.int p3), .val (.long (own_up u (64 - 8 * i.toNatClampNeg))), .second, .val (.int i)] [(.int wd), (.int i)])) := pre5.trans (st6 _ (Steps.refl _))
      have pre7 : Steps p.tables e below _ (T6.setTop (mkF m 30 #[.val (.ref a1), .val (.ref a2), .val (.int p3), .val (.long (own_up u (64 - 8 * i.toNatClampNeg))), .second, .val (.int i)] [(.long (((own_up u (64 - 8 * i.toNatClampNeg)) <<< ((8 : Int32) &&& 0x3f).toInt64) ||| (((own_b (own_up u (56 - 8 * i.toNatClampNeg))) &&& (255 : Int32)).toInt64)))])) := pre6.trans (by
        show Steps p.tables e below (T6.setTop (mkF m 11 #[.val (.ref a1), .val (.ref a2), .val (.int p3), .val (.long (own_up u (64 - 8 * i.toNatClampNeg))), .second, .val (.int i)] [(.int wd), (.int i)])) _
        refine XS.icmpNo X6.here hx rfl (hb hby d1_11) rfl (tlt hlt).2.1 ?_
        show Steps p.tables e below (T6.setTop (mkF m 14 #[.val (.ref a1), .val (.ref a2), .val (.int p3), .val (.long (own_up u (64 - 8 * i.toNatClampNeg))), .second, .val (.int i)] [])) _
        refine XS.lloadN X6.here hx rfl (hb hby d1_14) rfl ?_
        show Steps p.tables e below (T6.setTop (mkF m 15 #[.val (.ref a1), .val (.ref a2), .val (.int p3), .val (.long (own_up u (64 - 8 * i.toNatClampNeg))), .second, .val (.int i)] [(.long (own_up u (64 - 8 * i.toNatClampNeg)))])) _
        refine XS.bipush X6.here hx rfl (hb hby d1_15) ?_
        show Steps p.tables e below (T6.setTop (mkF m 17 #[.val (.ref a1), .val (.ref a2), .val (.int p3), .val (.long (own_up u (64 - 8 * i.toNatClampNeg))), .second, .val (.int i)] [(.int (8 : Int32)), (.long (own_up u (64 - 8 * i.toNatClampNeg)))])) _
        refine XS.lshl X6.here hx rfl (hb hby d1_17) rfl ?_
        show Steps p.tables e below (T6.setTop (mkF m 18 #[.val (.ref a1), .val (.ref a2), .val (.int p3), .val (.long (own_up u (64 - 8 * i.toNatClampNeg))), .second, .val (.int i)] [(.long ((own_up u (64 - 8 * i.toNatClampNeg)) <<< ((8 : Int32) &&& 0x3f).toInt64))])) _
        refine XS.aloadN X6.here hx rfl (hb hby d1_18) rfl rfl ?_
        show Steps p.tables e below (T6.setTop (mkF m 19 #[.val (.ref a1), .val (.ref a2), .val (.int p3), .val (.long (own_up u (64 - 8 * i.toNatClampNeg))), .second, .val (.int i)] [(.ref a2), (.long ((own_up u (64 - 8 * i.toNatClampNeg)) <<< ((8 : Int32) &&& 0x3f).toInt64))])) _
        refine XS.iloadN X6.here hx rfl (hb hby d1_19) rfl ?_
        show Steps p.tables e below (T6.setTop (mkF m 20 #[.val (.ref a1), .val (.ref a2), .val (.int p3), .val (.long (own_up u (64 - 8 * i.toNatClampNeg))), .second, .val (.int i)] [(.int p3), (.ref a2), (.long ((own_up u (64 - 8 * i.toNatClampNeg)) <<< ((8 : Int32) &&& 0x3f).toInt64))])) _
        refine XS.iload X6.here hx rfl (hb hby d1_20) rfl ?_
        show Steps p.tables e below (T6.setTop (mkF m 22 #[.val (.ref a1), .val (.ref a2), .val (.int p3), .val (.long (own_up u (64 - 8 * i.toNatClampNeg))), .second, .val (.int i)] [(.int i), (.int p3), (.ref a2), (.long ((own_up u (64 - 8 * i.toNatClampNeg)) <<< ((8 : Int32) &&& 0x3f).toInt64))])) _
        refine XS.iadd X6.here hx rfl (hb hby d1_22) rfl ?_
        show Steps p.tables e below (T6.setTop (mkF m 23 #[.val (.ref a1), .val (.ref a2), .val (.int p3), .val (.long (own_up u (64 - 8 * i.toNatClampNeg))), .second, .val (.int i)] [(.int (p3 + i)), (.ref a2), (.long ((own_up u (64 - 8 * i.toNatClampNeg)) <<< ((8 : Int32) &&& 0x3f).toInt64))])) _
        refine X6.baloadBytes hx (j := (p3 + i)) (v := (.int (own_b (own_up u (56 - 8 * i.toNatClampNeg))))) (by rw [e6]; exact Ar.1) (State.isArrayOf_alike hZ.alike Ar.2.1) Ar.2.2 hin hat (g := (mkF m 23 #[.val (.ref a1), .val (.ref a2), .val (.int p3), .val (.long (own_up u (64 - 8 * i.toNatClampNeg))), .second, .val (.int i)] [(.int (p3 + i)), (.ref a2), (.long ((own_up u (64 - 8 * i.toNatClampNeg)) <<< ((8 : Int32) &&& 0x3f).toInt64))])) rfl rfl (hb hby d1_23) _ ?_
        show Steps p.tables e below (T6.setTop (mkF m 24 #[.val (.ref a1), .val (.ref a2), .val (.int p3), .val (.long (own_up u (64 - 8 * i.toNatClampNeg))), .second, .val (.int i)] [(.int (own_b (own_up u (56 - 8 * i.toNatClampNeg)))), (.long ((own_up u (64 - 8 * i.toNatClampNeg)) <<< ((8 : Int32) &&& 0x3f).toInt64))])) _
        refine XS.sipush X6.here hx rfl (hb hby d1_24) ?_
        show Steps p.tables e below (T6.setTop (mkF m 27 #[.val (.ref a1), .val (.ref a2), .val (.int p3), .val (.long (own_up u (64 - 8 * i.toNatClampNeg))), .second, .val (.int i)] [(.int (255 : Int32)), (.int (own_b (own_up u (56 - 8 * i.toNatClampNeg)))), (.long ((own_up u (64 - 8 * i.toNatClampNeg)) <<< ((8 : Int32) &&& 0x3f).toInt64))])) _
        refine XS.iand X6.here hx rfl (hb hby d1_27) rfl ?_
        show Steps p.tables e below (T6.setTop (mkF m 28 #[.val (.ref a1), .val (.ref a2), .val (.int p3), .val (.long (own_up u (64 - 8 * i.toNatClampNeg))), .second, .val (.int i)] [(.int ((own_b (own_up u (56 - 8 * i.toNatClampNeg))) &&& (255 : Int32))), (.long ((own_up u (64 - 8 * i.toNatClampNeg)) <<< ((8 : Int32) &&& 0x3f).toInt64))])) _
        refine XS.i2l X6.here hx rfl (hb hby d1_28) rfl ?_
        show Steps p.tables e below (T6.setTop (mkF m 29 #[.val (.ref a1), .val (.ref a2), .val (.int p3), .val (.long (own_up u (64 - 8 * i.toNatClampNeg))), .second, .val (.int i)] [(.long (((own_b (own_up u (56 - 8 * i.toNatClampNeg))) &&& (255 : Int32)).toInt64)), (.long ((own_up u (64 - 8 * i.toNatClampNeg)) <<< ((8 : Int32) &&& 0x3f).toInt64))])) _
        refine XS.lor X6.here hx rfl (hb hby d1_29) rfl ?_
        exact Steps.refl _)
      have ei : (i + (1 : Int32)).toInt = i.toInt + 1 := by have q := c_iadd i 1; simp only [Int32.reduceToInt] at q; have := rng32 (i + 1); omega
      have wi1 := own_nat (i + (1 : Int32)) (by omega)
      have ht : (((own_up u (64 - 8 * i.toNatClampNeg)) <<< ((8 : Int32) &&& 0x3f).toInt64) ||| (((own_b (own_up u (56 - 8 * i.toNatClampNeg))) &&& (255 : Int32)).toInt64)) = own_up u (64 - 8 * (i + (1 : Int32)).toNatClampNeg) := by rw [show (i + (1 : Int32)).toNatClampNeg = i.toNatClampNeg + 1 by omega]; exact own_turn u _ (by omega)
      rw [ht] at pre7
      have pre8 : Steps p.tables e below _ (T6.setTop (mkF m 5 #[.val (.ref a1), .val (.ref a2), .val (.int p3), .val (.long (own_up u (64 - 8 * (i + (1 : Int32)).toNatClampNeg))), .second, .val (.int (i + (1 : Int32)))] [])) := pre7.trans (by
        show Steps p.tables e below (T6.setTop (mkF m 30 #[.val (.ref a1), .val (.ref a2), .val (.int p3), .val (.long (own_up u (64 - 8 * i.toNatClampNeg))), .second, .val (.int i)] [(.long (own_up u (64 - 8 * (i + (1 : Int32)).toNatClampNeg)))])) _
        refine XS.lstoreN X6.here hx rfl (hb hby d1_30) rfl (l' := #[.val (.ref a1), .val (.ref a2), .val (.int p3), .val (.long (own_up u (64 - 8 * (i + (1 : Int32)).toNatClampNeg))), .second, .val (.int i)]) rfl ?_
        show Steps p.tables e below (T6.setTop (mkF m 31 #[.val (.ref a1), .val (.ref a2), .val (.int p3), .val (.long (own_up u (64 - 8 * (i + (1 : Int32)).toNatClampNeg))), .second, .val (.int i)] [])) _
        refine XS.iinc X6.here hx rfl (hb hby d1_31) rfl (l' := #[.val (.ref a1), .val (.ref a2), .val (.int p3), .val (.long (own_up u (64 - 8 * (i + (1 : Int32)).toNatClampNeg))), .second, .val (.int (i + (1 : Int32)))]) rfl ?_
        show Steps p.tables e below (T6.setTop (mkF m 34 #[.val (.ref a1), .val (.ref a2), .val (.int p3), .val (.long (own_up u (64 - 8 * (i + (1 : Int32)).toNatClampNeg))), .second, .val (.int (i + (1 : Int32)))] [])) _
        refine XS.goto X6.here hx rfl (pc0 := 34) (pc' := 5) rfl (hb hby d1_34) (by decide) (by decide) ?_
        exact Steps.refl _)
      obtain ⟨T', X', e', st'⟩ := ih (i + (1 : Int32)) _ X6 e6 (by omega) (by omega)
      exact ⟨T', X', e', pre8.trans st'⟩
  obtain ⟨T9, X9, e9, st9⟩ := loop wd.toInt.toNat (0 : Int32) s₁ X0 e0 (by decide) (by rw [Int.toNat_of_nonneg (by omega)]; exact Int.zero_add _)
  have pre99 : Steps p.tables e below _ (T9.setTop (mkF m 37 #[.val (.ref a1), .val (.ref a2), .val (.int p3), .val (.long (own_up u (64 - 8 * wd.toNatClampNeg))), .second, .val (.int wd)] [])) := pre1.trans st9
  have pre101 : Steps p.tables e below _ (T9.setTop (mkF m 38 #[.val (.ref a1), .val (.ref a2), .val (.int p3), .val (.long (own_up u (64 - 8 * wd.toNatClampNeg))), .second, .val (.int wd)] [(.ref a1)])) := pre99.trans (by
    show Steps p.tables e below (T9.setTop (mkF m 37 #[.val (.ref a1), .val (.ref a2), .val (.int p3), .val (.long (own_up u (64 - 8 * wd.toNatClampNeg))), .second, .val (.int wd)] [])) _
    refine XS.aloadN X9.here hx rfl (hb hby d1_37) rfl rfl ?_
    exact Steps.refl _)
  obtain ⟨T102, X102, e102, st102⟩ := getF X9 hx hZ hown (host := "") (Or.inl (hw _ (List.mem_of_getElem? (i := 10) rfl))) Via.refl e9 F (g := (mkF m 38 #[.val (.ref a1), .val (.ref a2), .val (.int p3), .val (.long (own_up u (64 - 8 * wd.toNatClampNeg))), .second, .val (.int wd)] [(.ref a1)])) rfl rfl (hb hby d1_38)
  have pre102 : Steps p.tables e below _ (T102.setTop (mkF m 41 #[.val (.ref a1), .val (.ref a2), .val (.int p3), .val (.long (own_up u (64 - 8 * wd.toNatClampNeg))), .second, .val (.int wd)] [(.int wd)])) := pre101.trans (st102 _ (Steps.refl _))
  rcases hR with ⟨r1, r2, r3⟩ | ⟨r1, r2, r3⟩ | ⟨r1, r2, r3⟩
  · have hc := r1
    have pre103 : Steps p.tables e below _ (T102.setTop (mkF m 49 #[.val (.ref a1), .val (.ref a2), .val (.int p3), .val (.long (((own_up u (64 - 8 * wd.toNatClampNeg)).toInt32).toInt64)), .second, .val (.int wd)] [])) := pre102.trans (by
      show Steps p.tables e below (T102.setTop (mkF m 41 #[.val (.ref a1), .val (.ref a2), .val (.int p3), .val (.long (own_up u (64 - 8 * wd.toNatClampNeg))), .second, .val (.int wd)] [(.int wd)])) _
      refine XS.iconst X102.here hx rfl (hb hby d1_41) ?_
      show Steps p.tables e below (T102.setTop (mkF m 42 #[.val (.ref a1), .val (.ref a2), .val (.int p3), .val (.long (own_up u (64 - 8 * wd.toNatClampNeg))), .second, .val (.int wd)] [(.int (4 : Int32)), (.int wd)])) _
      refine XS.icmpNo X102.here hx rfl (hb hby d1_42) rfl (teq hc).2 ?_
      show Steps p.tables e below (T102.setTop (mkF m 45 #[.val (.ref a1), .val (.ref a2), .val (.int p3), .val (.long (own_up u (64 - 8 * wd.toNatClampNeg))), .second, .val (.int wd)] [])) _
      refine XS.lloadN X102.here hx rfl (hb hby d1_45) rfl ?_
      show Steps p.tables e below (T102.setTop (mkF m 46 #[.val (.ref a1), .val (.ref a2), .val (.int p3), .val (.long (own_up u (64 - 8 * wd.toNatClampNeg))), .second, .val (.int wd)] [(.long (own_up u (64 - 8 * wd.toNatClampNeg)))])) _
      refine XS.l2i X102.here hx rfl (hb hby d1_46) rfl ?_
      show Steps p.tables e below (T102.setTop (mkF m 47 #[.val (.ref a1), .val (.ref a2), .val (.int p3), .val (.long (own_up u (64 - 8 * wd.toNatClampNeg))), .second, .val (.int wd)] [(.int ((own_up u (64 - 8 * wd.toNatClampNeg)).toInt32))])) _
      refine XS.i2l X102.here hx rfl (hb hby d1_47) rfl ?_
      show Steps p.tables e below (T102.setTop (mkF m 48 #[.val (.ref a1), .val (.ref a2), .val (.int p3), .val (.long (own_up u (64 - 8 * wd.toNatClampNeg))), .second, .val (.int wd)] [(.long (((own_up u (64 - 8 * wd.toNatClampNeg)).toInt32).toInt64))])) _
      refine XS.lstoreN X102.here hx rfl (hb hby d1_48) rfl (l' := #[.val (.ref a1), .val (.ref a2), .val (.int p3), .val (.long (((own_up u (64 - 8 * wd.toNatClampNeg)).toInt32).toInt64)), .second, .val (.int wd)]) rfl ?_
      exact Steps.refl _)
    have hv : (((own_up u (64 - 8 * wd.toNatClampNeg)).toInt32).toInt64) = R := by rw [r3, hc]; rfl
    rw [hv] at pre103
    have pre104 : Steps p.tables e below _ (T102.setTop (mkF m 50 #[.val (.ref a1), .val (.ref a2), .val (.int p3), .val (.long R), .second, .val (.int wd)] [(.ref a1)])) := pre103.trans (by
      show Steps p.tables e below (T102.setTop (mkF m 49 #[.val (.ref a1), .val (.ref a2), .val (.int p3), .val (.long R), .second, .val (.int wd)] [])) _
      refine XS.aloadN X102.here hx rfl (hb hby d1_49) rfl rfl ?_
      exact Steps.refl _)
    obtain ⟨T105, X105, e105, st105⟩ := getS (host := "") X102 hx hZ hown (hw _ (List.mem_of_getElem? (i := 12) rfl)) Via.refl e102 SD (g := (mkF m 50 #[.val (.ref a1), .val (.ref a2), .val (.int p3), .val (.long R), .second, .val (.int wd)] [(.ref a1)])) rfl (hb hby d1_50)
    have pre105 : Steps p.tables e below _ (T105.setTop (mkF m 53 #[.val (.ref a1), .val (.ref a2), .val (.int p3), .val (.long R), .second, .val (.int wd)] [(.ref d), (.ref a1)])) := pre104.trans (st105 _ (Steps.refl _))
    have pre106 : Steps p.tables e below _ (T105.setTop (mkF m 65 #[.val (.ref a1), .val (.ref a2), .val (.int p3), .val (.long R), .second, .val (.int wd)] [(.long R)])) := pre105.trans (by
      show Steps p.tables e below (T105.setTop (mkF m 53 #[.val (.ref a1), .val (.ref a2), .val (.int p3), .val (.long R), .second, .val (.int wd)] [(.ref d), (.ref a1)])) _
      refine XS.acmpYes X105.here hx rfl (pc0 := 53) (pc' := 64) rfl (hb hby d1_53) rfl (by simp [if_acmp.holds, r2]) (by decide) (by decide) ?_
      show Steps p.tables e below (T105.setTop (mkF m 64 #[.val (.ref a1), .val (.ref a2), .val (.int p3), .val (.long R), .second, .val (.int wd)] [])) _
      refine XS.lloadN X105.here hx rfl (hb hby d1_64) rfl ?_
      exact Steps.refl _)
    obtain ⟨fs, hr, hrun, hended, hW, hsame⟩ := X105.leave (v := some (.long R)) (fun h => by rw [Bd.returns] at h; cases h)
    refine ⟨_, _, pre106.trans ?_, hrun, hended, _, _, rfl, ?_, ⟨_, rfl⟩, hW, hsame.mono (by decide) (by decide)⟩
    · exact X105.lreturnOut hx Bd.returns (hb hby d1_65) hr
    · exact ⟨rfl, N0, e105⟩
  · have hc := r1
    have pre107 : Steps p.tables e below _ (T102.setTop (mkF m 49 #[.val (.ref a1), .val (.ref a2), .val (.int p3), .val (.long (own_up u (64 - 8 * wd.toNatClampNeg))), .second, .val (.int wd)] [])) := pre102.trans (by
      show Steps p.tables e below (T102.setTop (mkF m 41 #[.val (.ref a1), .val (.ref a2), .val (.int p3), .val (.long (own_up u (64 - 8 * wd.toNatClampNeg))), .second, .val (.int wd)] [(.int wd)])) _
      refine XS.iconst X102.here hx rfl (hb hby d1_41) ?_
      show Steps p.tables e below (T102.setTop (mkF m 42 #[.val (.ref a1), .val (.ref a2), .val (.int p3), .val (.long (own_up u (64 - 8 * wd.toNatClampNeg))), .second, .val (.int wd)] [(.int (4 : Int32)), (.int wd)])) _
      refine XS.icmpYes X102.here hx rfl (pc0 := 42) (pc' := 49) rfl (hb hby d1_42) rfl (feq (by rw [hc]; decide : ¬ wd = (4 : Int32))).2 (by decide) (by decide) ?_
      exact Steps.refl _)
    have hv : (own_up u (64 - 8 * wd.toNatClampNeg)) = u := by rw [hc]; exact own_up_0 u
    rw [hv] at pre107
    have pre108 : Steps p.tables e below _ (T102.setTop (mkF m 50 #[.val (.ref a1), .val (.ref a2), .val (.int p3), .val (.long u), .second, .val (.int wd)] [(.ref a1)])) := pre107.trans (by
      show Steps p.tables e below (T102.setTop (mkF m 49 #[.val (.ref a1), .val (.ref a2), .val (.int p3), .val (.long u), .second, .val (.int wd)] [])) _
      refine XS.aloadN X102.here hx rfl (hb hby d1_49) rfl rfl ?_
      exact Steps.refl _)
    obtain ⟨T109, X109, e109, st109⟩ := getS (host := "") X102 hx hZ hown (hw _ (List.mem_of_getElem? (i := 12) rfl)) Via.refl e102 SD (g := (mkF m 50 #[.val (.ref a1), .val (.ref a2), .val (.int p3), .val (.long u), .second, .val (.int wd)] [(.ref a1)])) rfl (hb hby d1_50)
    have pre109 : Steps p.tables e below _ (T109.setTop (mkF m 53 #[.val (.ref a1), .val (.ref a2), .val (.int p3), .val (.long u), .second, .val (.int wd)] [(.ref d), (.ref a1)])) := pre108.trans (st109 _ (Steps.refl _))
    have pre110 : Steps p.tables e below _ (T109.setTop (mkF m 65 #[.val (.ref a1), .val (.ref a2), .val (.int p3), .val (.long u), .second, .val (.int wd)] [(.long u)])) := pre109.trans (by
      show Steps p.tables e below (T109.setTop (mkF m 53 #[.val (.ref a1), .val (.ref a2), .val (.int p3), .val (.long u), .second, .val (.int wd)] [(.ref d), (.ref a1)])) _
      refine XS.acmpYes X109.here hx rfl (pc0 := 53) (pc' := 64) rfl (hb hby d1_53) rfl (by simp [if_acmp.holds, r2]) (by decide) (by decide) ?_
      show Steps p.tables e below (T109.setTop (mkF m 64 #[.val (.ref a1), .val (.ref a2), .val (.int p3), .val (.long u), .second, .val (.int wd)] [])) _
      refine XS.lloadN X109.here hx rfl (hb hby d1_64) rfl ?_
      exact Steps.refl _)
    rw [← r3] at pre110
    obtain ⟨fs, hr, hrun, hended, hW, hsame⟩ := X109.leave (v := some (.long R)) (fun h => by rw [Bd.returns] at h; cases h)
    refine ⟨_, _, pre110.trans ?_, hrun, hended, _, _, rfl, ?_, ⟨_, rfl⟩, hW, hsame.mono (by decide) (by decide)⟩
    · exact X109.lreturnOut hx Bd.returns (hb hby d1_65) hr
    · exact ⟨rfl, N0, e109⟩
  · have hc := r1
    have pre111 : Steps p.tables e below _ (T102.setTop (mkF m 49 #[.val (.ref a1), .val (.ref a2), .val (.int p3), .val (.long (own_up u (64 - 8 * wd.toNatClampNeg))), .second, .val (.int wd)] [])) := pre102.trans (by
      show Steps p.tables e below (T102.setTop (mkF m 41 #[.val (.ref a1), .val (.ref a2), .val (.int p3), .val (.long (own_up u (64 - 8 * wd.toNatClampNeg))), .second, .val (.int wd)] [(.int wd)])) _
      refine XS.iconst X102.here hx rfl (hb hby d1_41) ?_
      show Steps p.tables e below (T102.setTop (mkF m 42 #[.val (.ref a1), .val (.ref a2), .val (.int p3), .val (.long (own_up u (64 - 8 * wd.toNatClampNeg))), .second, .val (.int wd)] [(.int (4 : Int32)), (.int wd)])) _
      refine XS.icmpYes X102.here hx rfl (pc0 := 42) (pc' := 49) rfl (hb hby d1_42) rfl (feq (by rw [hc]; decide : ¬ wd = (4 : Int32))).2 (by decide) (by decide) ?_
      exact Steps.refl _)
    have hv : (own_up u (64 - 8 * wd.toNatClampNeg)) = u := by rw [hc]; exact own_up_0 u
    rw [hv] at pre111
    have pre112 : Steps p.tables e below _ (T102.setTop (mkF m 50 #[.val (.ref a1), .val (.ref a2), .val (.int p3), .val (.long u), .second, .val (.int wd)] [(.ref a1)])) := pre111.trans (by
      show Steps p.tables e below (T102.setTop (mkF m 49 #[.val (.ref a1), .val (.ref a2), .val (.int p3), .val (.long u), .second, .val (.int wd)] [])) _
      refine XS.aloadN X102.here hx rfl (hb hby d1_49) rfl rfl ?_
      exact Steps.refl _)
    obtain ⟨T113, X113, e113, st113⟩ := getS (host := "") X102 hx hZ hown (hw _ (List.mem_of_getElem? (i := 12) rfl)) Via.refl e102 SD (g := (mkF m 50 #[.val (.ref a1), .val (.ref a2), .val (.int p3), .val (.long u), .second, .val (.int wd)] [(.ref a1)])) rfl (hb hby d1_50)
    have pre113 : Steps p.tables e below _ (T113.setTop (mkF m 53 #[.val (.ref a1), .val (.ref a2), .val (.int p3), .val (.long u), .second, .val (.int wd)] [(.ref d), (.ref a1)])) := pre112.trans (st113 _ (Steps.refl _))
    have pre114 : Steps p.tables e below _ (T113.setTop (mkF m 65 #[.val (.ref a1), .val (.ref a2), .val (.int p3), .val (.long u), .second, .val (.int wd)] [(.long ((9223372036854775807 : Int64) - u))])) := pre113.trans (by
      show Steps p.tables e below (T113.setTop (mkF m 53 #[.val (.ref a1), .val (.ref a2), .val (.int p3), .val (.long u), .second, .val (.int wd)] [(.ref d), (.ref a1)])) _
      refine XS.acmpNo X113.here hx rfl (hb hby d1_53) rfl (by simp [if_acmp.holds, r2]) ?_
      show Steps p.tables e below (T113.setTop (mkF m 56 #[.val (.ref a1), .val (.ref a2), .val (.int p3), .val (.long u), .second, .val (.int wd)] [])) _
      refine X113.ldc2Long hx hown (mvT hZ (hw _ (List.mem_of_getElem? (i := 16) rfl))) (g := (mkF m 56 #[.val (.ref a1), .val (.ref a2), .val (.int p3), .val (.long u), .second, .val (.int wd)] [])) rfl (hb hby d1_56) _ ?_
      show Steps p.tables e below (T113.setTop (mkF m 59 #[.val (.ref a1), .val (.ref a2), .val (.int p3), .val (.long u), .second, .val (.int wd)] [(.long (9223372036854775807 : Int64))])) _
      refine XS.lloadN X113.here hx rfl (hb hby d1_59) rfl ?_
      show Steps p.tables e below (T113.setTop (mkF m 60 #[.val (.ref a1), .val (.ref a2), .val (.int p3), .val (.long u), .second, .val (.int wd)] [(.long u), (.long (9223372036854775807 : Int64))])) _
      refine XS.lsub X113.here hx rfl (hb hby d1_60) rfl ?_
      show Steps p.tables e below (T113.setTop (mkF m 61 #[.val (.ref a1), .val (.ref a2), .val (.int p3), .val (.long u), .second, .val (.int wd)] [(.long ((9223372036854775807 : Int64) - u))])) _
      refine XS.goto X113.here hx rfl (pc0 := 61) (pc' := 65) rfl (hb hby d1_61) (by decide) (by decide) ?_
      exact Steps.refl _)
    rw [← r3] at pre114
    obtain ⟨fs, hr, hrun, hended, hW, hsame⟩ := X113.leave (v := some (.long R)) (fun h => by rw [Bd.returns] at h; cases h)
    refine ⟨_, _, pre114.trans ?_, hrun, hended, _, _, rfl, ?_, ⟨_, rfl⟩, hW, hsame.mono (by decide) (by decide)⟩
    · exact X113.lreturnOut hx Bd.returns (hb hby d1_65) hr
    · exact ⟨rfl, N0, e113⟩
def own_ex_0_1 (kk : Int32) (p1 : Int64) : Int64 := ((9223372036854775807 : Int64) - p1)
def own_ex_0_2 (kk : Int32) (p1 : Int64) : Int64 := p1
def own_ex_0_3 (kk : Int32) (p1 : Int64) : Int64 := if kk = (1 : Int32) then own_ex_0_2 kk p1 else own_ex_0_1 kk p1
def own_ex_0_4 (kk : Int32) (p1 : Int64) : Int64 := ((((p1.toUInt64 >>> ((32 : Int32) &&& 0x3f).toInt64.toUInt64).toInt64).toInt32).toInt64)
def own_ex_0_5 (kk : Int32) (p1 : Int64) : Int64 := if kk = (0 : Int32) then own_ex_0_4 kk p1 else own_ex_0_3 kk p1
theorem pn_rm0 : plainName "com/example/sound_schema/soundschema/TypeReadPinLaw" = true := by first | (simp [plainName, overriddenIn]; done) | decide +kernel
theorem pd_rm0_0 : parseMethodDescriptor "([BI)J" = some ⟨[(.array .byte), .int], some .long⟩ := by decide +kernel
theorem ef_rm0 (m : MethodId) (p1 : Int64) (p2 : Int64) (p3 : Int32) (p4 : Int32) : entryFrame m #[(.long p1), (.long p2), (.int p3), (.int p4)] maxLocals = (mkF m 0 #[.val (.long p1), .second, .val (.long p2), .second, .val (.int p3), .val (.int p4), .unset, .unset, .unset, .unset, .unset, .unset] []) := by first | (simp [entryFrame, mkF, argsToLocals, Value.category, maxLocals]; done) | rfl
def Q_rm0 (Z : State) (p1 : Int64) (p2 : Int64) (p3 : Int32) (p4 : Int32) (t0 t1 d : Addr) (h0 : Heap) (n0 : Nat) (v : Option Value) (h : Heap) (L : List Loc) : Prop := v = some (.int (1 : Int32)) ∧ Fr n0 L
set_option maxRecDepth 65536 in
set_option maxHeartbeats 40000000 in
theorem rm0 (l : Launch) (Z : State) (a0 : Array Value) (hw : ∀ d ∈ tables_1, d.before a0 Z = true) (ws : List Jvm.Cond) (p1 : Int64) (p2 : Int64) (p3 : Int32) (p4 : Int32) (t0 t1 d : Addr) (h0 : Heap) (n0 : Nat) (Z0 : n0 ≤ h0.size) (G0 : Fld Z h0 t0 "com/example/sound_schema/soundschema/Segment$Number$Type" "width" "I" (.int (4 : Int32))) (G1 : Fld Z h0 t1 "com/example/sound_schema/soundschema/Segment$Number$Type" "width" "I" (.int (8 : Int32))) (G2 : Fld Z h0 d "com/example/sound_schema/soundschema/Segment$Number$Type" "width" "I" (.int (8 : Int32))) (X0a : Exa Z h0 t0 "com/example/sound_schema/soundschema/Segment$Number$Type") (X1a : Exa Z h0 t1 "com/example/sound_schema/soundschema/Segment$Number$Type") (X2a : Exa Z h0 d "com/example/sound_schema/soundschema/Segment$Number$Type") (S0a : Sta Z h0 "com/example/sound_schema/soundschema/Segment$Number$Type" "INT32" "Lcom/example/sound_schema/soundschema/Segment$Number$Type;" (.ref t0)) (S1a : Sta Z h0 "com/example/sound_schema/soundschema/Segment$Number$Type" "INT64" "Lcom/example/sound_schema/soundschema/Segment$Number$Type;" (.ref t1)) (S2a : Sta Z h0 "com/example/sound_schema/soundschema/Segment$Number$Type" "DESC64" "Lcom/example/sound_schema/soundschema/Segment$Number$Type;" (.ref d)) (n02 : t0 ≠ d) (n12 : t1 ≠ d) :
    MetFree l x (head1 (Jvm.Cond.code x code maxLocals ret :: ws) room_1) (fun a U => a = #[(.long p1), (.long p2), (.int p3), (.int p4)] ∧ Z.Warmed39 U.vm ∧ U.heap = h0) (fun _ _ _ _ _ => True) (fun _ U o U' => ∃ v L, o = .returned v ∧ Q_rm0 Z p1 p2 p3 p4 t0 t1 d h0 n0 v U'.heap L ∧ FrameEnd U o U' L 1 11) := by
  refine MetFree.of_bodySF (plainFor_of_name pn_rm0) hisR ?_
  intro p e s m args below meth c s₁ Bd hml0 hP hK
  obtain ⟨rfl, hZ, hh⟩ := hP
  have hx := Bd.exec
  have hby := Bd.bytes
  have hml : c.maxLocals = 12 := hml0
  have hown : s.vm.findClass "com/example/sound_schema/soundschema/TypeReadPinLaw" = some m.cls := findClass_of_methodNamed Bd.named
  have hnm := (name_of_methodNamed Bd.named Bd.method).1
  have X0 : Stand p l e room_1 s m #[(.long p1), (.long p2), (.int p3), (.int p4)] below meth c s₁ [] 0 0 := Stand.of_body Bd
  have e0 : s₁.heap = h0 := by rw [← hh, Bd.state]; rfl
  have N0 := Fr.nil n0
  have pre0 : Steps p.tables e below (s₁.setTop (entryFrame m #[(.long p1), (.long p2), (.int p3), (.int p4)] maxLocals)) (s₁.setTop (mkF m 0 #[.val (.long p1), .second, .val (.long p2), .second, .val (.int p3), .val (.int p4), .unset, .unset, .unset, .unset, .unset, .unset] [])) := castTop (ef_rm0 m p1 p2 p3 p4) (Steps.refl _)
  have e00 : (0 : Int32).toInt = 0 := rfl
  have e1111 : (11 : Int32).toInt = 11 := rfl
  have pre1 : Steps p.tables e below _ (s₁.setTop (mkF m 9 #[.val (.long p1), .second, .val (.long p2), .second, .val (.int p3), .val (.int p4), .val (.int ((p4 &&& (2147483647 : Int32)) % (3 : Int32))), .unset, .unset, .unset, .unset, .unset] [])) := pre0.trans (by
    show Steps p.tables e below (s₁.setTop (mkF m 0 #[.val (.long p1), .second, .val (.long p2), .second, .val (.int p3), .val (.int p4), .unset, .unset, .unset, .unset, .unset, .unset] [])) _
    refine XS.iload X0.here hx rfl (hb hby at_0) rfl ?_
    show Steps p.tables e below (s₁.setTop (mkF m 2 #[.val (.long p1), .second, .val (.long p2), .second, .val (.int p3), .val (.int p4), .unset, .unset, .unset, .unset, .unset, .unset] [(.int p4)])) _
    refine X0.ldcInt hx hown (mvT hZ (hw _ (List.mem_of_getElem? (i := 0) rfl))) (g := (mkF m 2 #[.val (.long p1), .second, .val (.long p2), .second, .val (.int p3), .val (.int p4), .unset, .unset, .unset, .unset, .unset, .unset] [(.int p4)])) rfl (hb hby at_2) _ ?_
    show Steps p.tables e below (s₁.setTop (mkF m 4 #[.val (.long p1), .second, .val (.long p2), .second, .val (.int p3), .val (.int p4), .unset, .unset, .unset, .unset, .unset, .unset] [(.int (2147483647 : Int32)), (.int p4)])) _
    refine XS.iand X0.here hx rfl (hb hby at_4) rfl ?_
    show Steps p.tables e below (s₁.setTop (mkF m 5 #[.val (.long p1), .second, .val (.long p2), .second, .val (.int p3), .val (.int p4), .unset, .unset, .unset, .unset, .unset, .unset] [(.int (p4 &&& (2147483647 : Int32)))])) _
    refine XS.iconst X0.here hx rfl (hb hby at_5) ?_
    show Steps p.tables e below (s₁.setTop (mkF m 6 #[.val (.long p1), .second, .val (.long p2), .second, .val (.int p3), .val (.int p4), .unset, .unset, .unset, .unset, .unset, .unset] [(.int (3 : Int32)), (.int (p4 &&& (2147483647 : Int32)))])) _
    refine iremM X0 hx rfl (hb hby at_6) rfl (by decide) ?_
    show Steps p.tables e below (s₁.setTop (mkF m 7 #[.val (.long p1), .second, .val (.long p2), .second, .val (.int p3), .val (.int p4), .unset, .unset, .unset, .unset, .unset, .unset] [(.int ((p4 &&& (2147483647 : Int32)) % (3 : Int32)))])) _
    refine XS.istore X0.here hx rfl (hb hby at_7) rfl (l' := #[.val (.long p1), .second, .val (.long p2), .second, .val (.int p3), .val (.int p4), .val (.int ((p4 &&& (2147483647 : Int32)) % (3 : Int32))), .unset, .unset, .unset, .unset, .unset]) rfl ?_
    exact Steps.refl _)
  obtain ⟨kk, h_kk⟩ : ∃ z, z = ((p4 &&& (2147483647 : Int32)) % (3 : Int32)) := ⟨_, rfl⟩
  rw [← h_kk] at pre1
  have pre2 : Steps p.tables e below _ (s₁.setTop (mkF m 11 #[.val (.long p1), .second, .val (.long p2), .second, .val (.int p3), .val (.int p4), .val (.int kk), .unset, .unset, .unset, .unset, .unset] [(.int kk)])) := pre1.trans (by
    show Steps p.tables e below (s₁.setTop (mkF m 9 #[.val (.long p1), .second, .val (.long p2), .second, .val (.int p3), .val (.int p4), .val (.int kk), .unset, .unset, .unset, .unset, .unset] [])) _
    refine XS.iload X0.here hx rfl (hb hby at_9) rfl ?_
    exact Steps.refl _)
  obtain ⟨TA, ty, wd, XA, eA, GA, XaA, hcase, preA⟩ : ∃ (T' : State) (ty : Addr) (wd : Int32), Stand p l e room_1 s m #[(.long p1), (.long p2), (.int p3), (.int p4)] below meth c T' [] 0 0 ∧ T'.heap = h0 ∧ Fld Z h0 ty "com/example/sound_schema/soundschema/Segment$Number$Type" "width" "I" (.int wd) ∧ Exa Z h0 ty "com/example/sound_schema/soundschema/Segment$Number$Type" ∧ ((kk = 0 ∧ wd = 4 ∧ ty ≠ d) ∨ (kk ≠ 0 ∧ kk = 1 ∧ wd = 8 ∧ ty ≠ d) ∨ (kk ≠ 0 ∧ kk ≠ 1 ∧ wd = 8 ∧ ty = d)) ∧ Steps p.tables e below (s₁.setTop (entryFrame m #[(.long p1), (.long p2), (.int p3), (.int p4)] maxLocals)) (T'.setTop (mkF m 35 #[.val (.long p1), .second, .val (.long p2), .second, .val (.int p3), .val (.int p4), .val (.int kk), .unset, .unset, .unset, .unset, .unset] [(.ref ty)])) := by
    rcases Decidable.em (kk = (0 : Int32)) with h | h
    · have h11 := h
      have pre3 : Steps p.tables e below _ (s₁.setTop (mkF m 14 #[.val (.long p1), .second, .val (.long p2), .second, .val (.int p3), .val (.int p4), .val (.int kk), .unset, .unset, .unset, .unset, .unset] [])) := pre2.trans (by
        show Steps p.tables e below (s₁.setTop (mkF m 11 #[.val (.long p1), .second, .val (.long p2), .second, .val (.int p3), .val (.int p4), .val (.int kk), .unset, .unset, .unset, .unset, .unset] [(.int kk)])) _
        refine XS.ifNo X0.here hx rfl (hb hby at_11) rfl ((if0 _ _).trans (teq h11).2) ?_
        exact Steps.refl _)
      obtain ⟨T4, X4, e4, st4⟩ := getS (host := "") X0 hx hZ hown (hw _ (List.mem_of_getElem? (i := 1) rfl)) Via.refl e0 S0a (g := (mkF m 14 #[.val (.long p1), .second, .val (.long p2), .second, .val (.int p3), .val (.int p4), .val (.int kk), .unset, .unset, .unset, .unset, .unset] [])) rfl (hb hby at_14)
      have pre4 : Steps p.tables e below _ (T4.setTop (mkF m 17 #[.val (.long p1), .second, .val (.long p2), .second, .val (.int p3), .val (.int p4), .val (.int kk), .unset, .unset, .unset, .unset, .unset] [(.ref t0)])) := pre3.trans (st4 _ (Steps.refl _))
      have pre5 : Steps p.tables e below _ (T4.setTop (mkF m 35 #[.val (.long p1), .second, .val (.long p2), .second, .val (.int p3), .val (.int p4), .val (.int kk), .unset, .unset, .unset, .unset, .unset] [(.ref t0)])) := pre4.trans (by
        show Steps p.tables e below (T4.setTop (mkF m 17 #[.val (.long p1), .second, .val (.long p2), .second, .val (.int p3), .val (.int p4), .val (.int kk), .unset, .unset, .unset, .unset, .unset] [(.ref t0)])) _
        refine XS.goto X4.here hx rfl (pc0 := 17) (pc' := 35) rfl (hb hby at_17) (by decide) (by decide) ?_
        exact Steps.refl _)
      exact ⟨T4, t0, 4, X4, e4, G0, X0a, Or.inl ⟨h11, rfl, n02⟩, pre5⟩
    · have h11 := h
      rcases Decidable.em (kk = (1 : Int32)) with h | h
      · have h23 := h
        have pre6 : Steps p.tables e below _ (s₁.setTop (mkF m 26 #[.val (.long p1), .second, .val (.long p2), .second, .val (.int p3), .val (.int p4), .val (.int kk), .unset, .unset, .unset, .unset, .unset] [])) := pre2.trans (by
          show Steps p.tables e below (s₁.setTop (mkF m 11 #[.val (.long p1), .second, .val (.long p2), .second, .val (.int p3), .val (.int p4), .val (.int kk), .unset, .unset, .unset, .unset, .unset] [(.int kk)])) _
          refine XS.ifYes X0.here hx rfl (pc0 := 11) (pc' := 20) rfl (hb hby at_11) rfl ((if0 _ _).trans (feq h11).2) (by decide) (by decide) ?_
          show Steps p.tables e below (s₁.setTop (mkF m 20 #[.val (.long p1), .second, .val (.long p2), .second, .val (.int p3), .val (.int p4), .val (.int kk), .unset, .unset, .unset, .unset, .unset] [])) _
          refine XS.iload X0.here hx rfl (hb hby at_20) rfl ?_
          show Steps p.tables e below (s₁.setTop (mkF m 22 #[.val (.long p1), .second, .val (.long p2), .second, .val (.int p3), .val (.int p4), .val (.int kk), .unset, .unset, .unset, .unset, .unset] [(.int kk)])) _
          refine XS.iconst X0.here hx rfl (hb hby at_22) ?_
          show Steps p.tables e below (s₁.setTop (mkF m 23 #[.val (.long p1), .second, .val (.long p2), .second, .val (.int p3), .val (.int p4), .val (.int kk), .unset, .unset, .unset, .unset, .unset] [(.int (1 : Int32)), (.int kk)])) _
          refine XS.icmpNo X0.here hx rfl (hb hby at_23) rfl (teq h23).2 ?_
          exact Steps.refl _)
        obtain ⟨T7, X7, e7, st7⟩ := getS (host := "") X0 hx hZ hown (hw _ (List.mem_of_getElem? (i := 17) rfl)) Via.refl e0 S1a (g := (mkF m 26 #[.val (.long p1), .second, .val (.long p2), .second, .val (.int p3), .val (.int p4), .val (.int kk), .unset, .unset, .unset, .unset, .unset] [])) rfl (hb hby at_26)
        have pre7 : Steps p.tables e below _ (T7.setTop (mkF m 29 #[.val (.long p1), .second, .val (.long p2), .second, .val (.int p3), .val (.int p4), .val (.int kk), .unset, .unset, .unset, .unset, .unset] [(.ref t1)])) := pre6.trans (st7 _ (Steps.refl _))
        have pre8 : Steps p.tables e below _ (T7.setTop (mkF m 35 #[.val (.long p1), .second, .val (.long p2), .second, .val (.int p3), .val (.int p4), .val (.int kk), .unset, .unset, .unset, .unset, .unset] [(.ref t1)])) := pre7.trans (by
          show Steps p.tables e below (T7.setTop (mkF m 29 #[.val (.long p1), .second, .val (.long p2), .second, .val (.int p3), .val (.int p4), .val (.int kk), .unset, .unset, .unset, .unset, .unset] [(.ref t1)])) _
          refine XS.goto X7.here hx rfl (pc0 := 29) (pc' := 35) rfl (hb hby at_29) (by decide) (by decide) ?_
          exact Steps.refl _)
        exact ⟨T7, t1, 8, X7, e7, G1, X1a, Or.inr (Or.inl ⟨h11, h23, rfl, n12⟩), pre8⟩
      · have h23 := h
        have pre9 : Steps p.tables e below _ (s₁.setTop (mkF m 32 #[.val (.long p1), .second, .val (.long p2), .second, .val (.int p3), .val (.int p4), .val (.int kk), .unset, .unset, .unset, .unset, .unset] [])) := pre2.trans (by
          show Steps p.tables e below (s₁.setTop (mkF m 11 #[.val (.long p1), .second, .val (.long p2), .second, .val (.int p3), .val (.int p4), .val (.int kk), .unset, .unset, .unset, .unset, .unset] [(.int kk)])) _
          refine XS.ifYes X0.here hx rfl (pc0 := 11) (pc' := 20) rfl (hb hby at_11) rfl ((if0 _ _).trans (feq h11).2) (by decide) (by decide) ?_
          show Steps p.tables e below (s₁.setTop (mkF m 20 #[.val (.long p1), .second, .val (.long p2), .second, .val (.int p3), .val (.int p4), .val (.int kk), .unset, .unset, .unset, .unset, .unset] [])) _
          refine XS.iload X0.here hx rfl (hb hby at_20) rfl ?_
          show Steps p.tables e below (s₁.setTop (mkF m 22 #[.val (.long p1), .second, .val (.long p2), .second, .val (.int p3), .val (.int p4), .val (.int kk), .unset, .unset, .unset, .unset, .unset] [(.int kk)])) _
          refine XS.iconst X0.here hx rfl (hb hby at_22) ?_
          show Steps p.tables e below (s₁.setTop (mkF m 23 #[.val (.long p1), .second, .val (.long p2), .second, .val (.int p3), .val (.int p4), .val (.int kk), .unset, .unset, .unset, .unset, .unset] [(.int (1 : Int32)), (.int kk)])) _
          refine XS.icmpYes X0.here hx rfl (pc0 := 23) (pc' := 32) rfl (hb hby at_23) rfl (feq h23).2 (by decide) (by decide) ?_
          exact Steps.refl _)
        obtain ⟨T10, X10, e10, st10⟩ := getS (host := "") X0 hx hZ hown (hw _ (List.mem_of_getElem? (i := 14) rfl)) Via.refl e0 S2a (g := (mkF m 32 #[.val (.long p1), .second, .val (.long p2), .second, .val (.int p3), .val (.int p4), .val (.int kk), .unset, .unset, .unset, .unset, .unset] [])) rfl (hb hby at_32)
        have pre10 : Steps p.tables e below _ (T10.setTop (mkF m 35 #[.val (.long p1), .second, .val (.long p2), .second, .val (.int p3), .val (.int p4), .val (.int kk), .unset, .unset, .unset, .unset, .unset] [(.ref d)])) := pre9.trans (st10 _ (Steps.refl _))
        exact ⟨T10, d, 8, X10, e10, G2, X2a, Or.inr (Or.inr ⟨h11, h23, rfl, rfl⟩), pre10⟩
  have pre51 : Steps p.tables e below _ (TA.setTop (mkF m 43 #[.val (.long p1), .second, .val (.long p2), .second, .val (.int p3), .val (.int p4), .val (.int kk), .val (.ref ty), .val (.int (p3 &&& (3 : Int32))), .unset, .unset, .unset] [])) := preA.trans (by
    show Steps p.tables e below (TA.setTop (mkF m 35 #[.val (.long p1), .second, .val (.long p2), .second, .val (.int p3), .val (.int p4), .val (.int kk), .unset, .unset, .unset, .unset, .unset] [(.ref ty)])) _
    refine XS.astore XA.here hx rfl (hb hby at_35) rfl rfl (l' := #[.val (.long p1), .second, .val (.long p2), .second, .val (.int p3), .val (.int p4), .val (.int kk), .val (.ref ty), .unset, .unset, .unset, .unset]) rfl ?_
    show Steps p.tables e below (TA.setTop (mkF m 37 #[.val (.long p1), .second, .val (.long p2), .second, .val (.int p3), .val (.int p4), .val (.int kk), .val (.ref ty), .unset, .unset, .unset, .unset] [])) _
    refine XS.iload XA.here hx rfl (hb hby at_37) rfl ?_
    show Steps p.tables e below (TA.setTop (mkF m 39 #[.val (.long p1), .second, .val (.long p2), .second, .val (.int p3), .val (.int p4), .val (.int kk), .val (.ref ty), .unset, .unset, .unset, .unset] [(.int p3)])) _
    refine XS.iconst XA.here hx rfl (hb hby at_39) ?_
    show Steps p.tables e below (TA.setTop (mkF m 40 #[.val (.long p1), .second, .val (.long p2), .second, .val (.int p3), .val (.int p4), .val (.int kk), .val (.ref ty), .unset, .unset, .unset, .unset] [(.int (3 : Int32)), (.int p3)])) _
    refine XS.iand XA.here hx rfl (hb hby at_40) rfl ?_
    show Steps p.tables e below (TA.setTop (mkF m 41 #[.val (.long p1), .second, .val (.long p2), .second, .val (.int p3), .val (.int p4), .val (.int kk), .val (.ref ty), .unset, .unset, .unset, .unset] [(.int (p3 &&& (3 : Int32)))])) _
    refine XS.istore XA.here hx rfl (hb hby at_41) rfl (l' := #[.val (.long p1), .second, .val (.long p2), .second, .val (.int p3), .val (.int p4), .val (.int kk), .val (.ref ty), .val (.int (p3 &&& (3 : Int32))), .unset, .unset, .unset]) rfl ?_
    exact Steps.refl _)
  obtain ⟨at_, h_at_⟩ : ∃ z, z = (p3 &&& (3 : Int32)) := ⟨_, rfl⟩
  rw [← h_at_] at pre51
  have ba : 0 ≤ at_.toInt ∧ at_.toInt ≤ 3 := by have q : (p3 &&& (3 : Int32)).toInt = p3.toInt % 4 := c_mask p3 3 2 (by decide) (by decide); rw [← h_at_] at q; omega
  have wa := own_nat at_ ba.1
  have wj0 : at_.toNatClampNeg = at_.toNatClampNeg + 0 := rfl
  have lh0 : ¬ at_ < 0 ∧ at_ < (11 : Int32) := own_lh0 at_ ba.1 ba.2
  have wj1 : ((at_ + (1 : Int32))).toNatClampNeg = at_.toNatClampNeg + 1 := own_wj at_ (1 : Int32) 1 rfl ba.1 ba.2 (by decide)
  have lh1 : ¬ (at_ + (1 : Int32)) < 0 ∧ (at_ + (1 : Int32)) < (11 : Int32) := own_lh at_ (1 : Int32) 1 rfl ba.1 ba.2 (by decide)
  have wj2 : ((at_ + (2 : Int32))).toNatClampNeg = at_.toNatClampNeg + 2 := own_wj at_ (2 : Int32) 2 rfl ba.1 ba.2 (by decide)
  have lh2 : ¬ (at_ + (2 : Int32)) < 0 ∧ (at_ + (2 : Int32)) < (11 : Int32) := own_lh at_ (2 : Int32) 2 rfl ba.1 ba.2 (by decide)
  have wj3 : ((at_ + (3 : Int32))).toNatClampNeg = at_.toNatClampNeg + 3 := own_wj at_ (3 : Int32) 3 rfl ba.1 ba.2 (by decide)
  have lh3 : ¬ (at_ + (3 : Int32)) < 0 ∧ (at_ + (3 : Int32)) < (11 : Int32) := own_lh at_ (3 : Int32) 3 rfl ba.1 ba.2 (by decide)
  have wj4 : ((at_ + (4 : Int32))).toNatClampNeg = at_.toNatClampNeg + 4 := own_wj at_ (4 : Int32) 4 rfl ba.1 ba.2 (by decide)
  have lh4 : ¬ (at_ + (4 : Int32)) < 0 ∧ (at_ + (4 : Int32)) < (11 : Int32) := own_lh at_ (4 : Int32) 4 rfl ba.1 ba.2 (by decide)
  have wj5 : ((at_ + (5 : Int32))).toNatClampNeg = at_.toNatClampNeg + 5 := own_wj at_ (5 : Int32) 5 rfl ba.1 ba.2 (by decide)
  have lh5 : ¬ (at_ + (5 : Int32)) < 0 ∧ (at_ + (5 : Int32)) < (11 : Int32) := own_lh at_ (5 : Int32) 5 rfl ba.1 ba.2 (by decide)
  have wj6 : ((at_ + (6 : Int32))).toNatClampNeg = at_.toNatClampNeg + 6 := own_wj at_ (6 : Int32) 6 rfl ba.1 ba.2 (by decide)
  have lh6 : ¬ (at_ + (6 : Int32)) < 0 ∧ (at_ + (6 : Int32)) < (11 : Int32) := own_lh at_ (6 : Int32) 6 rfl ba.1 ba.2 (by decide)
  have wj7 : ((at_ + (7 : Int32))).toNatClampNeg = at_.toNatClampNeg + 7 := own_wj at_ (7 : Int32) 7 rfl ba.1 ba.2 (by decide)
  have lh7 : ¬ (at_ + (7 : Int32)) < 0 ∧ (at_ + (7 : Int32)) < (11 : Int32) := own_lh at_ (7 : Int32) 7 rfl ba.1 ba.2 (by decide)
  have pre52 : Steps p.tables e below _ (TA.setTop (mkF m 45 #[.val (.long p1), .second, .val (.long p2), .second, .val (.int p3), .val (.int p4), .val (.int kk), .val (.ref ty), .val (.int at_), .unset, .unset, .unset] [(.int (11 : Int32))])) := pre51.trans (by
    show Steps p.tables e below (TA.setTop (mkF m 43 #[.val (.long p1), .second, .val (.long p2), .second, .val (.int p3), .val (.int p4), .val (.int kk), .val (.ref ty), .val (.int at_), .unset, .unset, .unset] [])) _
    refine XS.bipush XA.here hx rfl (hb hby at_43) ?_
    exact Steps.refl _)
  obtain ⟨T53, h53, k53, X53, e53, E53, A53, st53⟩ := newP XA hx hZ (hw _ (List.mem_of_getElem? (i := 4) rfl)) eA (g := (mkF m 45 #[.val (.long p1), .second, .val (.long p2), .second, .val (.int p3), .val (.int p4), .val (.int kk), .val (.ref ty), .val (.int at_), .unset, .unset, .unset] [(.int (11 : Int32))])) rfl (hb hby at_45) rfl (by decide) (cap := 11) (by decide) (by decide) (by decide) (by decide)
  obtain ⟨kb, g53⟩ : ∃ z, z = h0.size := ⟨_, rfl⟩
  rw [← g53] at A53 st53
  have g_kb : n0 ≤ kb := Nat.le_trans Z0 (Nat.le_of_eq g53.symm)
  have lt_kb : kb < h53.size := A53.lt
  have F53 : Far Z h53 kb .byte (11 : Int32) (fun _ => 0) := Far.new A53 (by decide) rfl
  have Z53 : n0 ≤ h53.size := Nat.le_trans Z0 E53.1
  have pre53 : Steps p.tables e below _ (T53.setTop (mkF m 47 #[.val (.long p1), .second, .val (.long p2), .second, .val (.int p3), .val (.int p4), .val (.int kk), .val (.ref ty), .val (.int at_), .unset, .unset, .unset] [(.ref kb)])) := pre52.trans (st53 _ (Steps.refl _))
  have pre54 : Steps p.tables e below _ (T53.setTop (mkF m 55 #[.val (.long p1), .second, .val (.long p2), .second, .val (.int p3), .val (.int p4), .val (.int kk), .val (.ref ty), .val (.int at_), .val (.ref kb), .unset, .unset] [(.int ((p2.toInt32).toInt8.toInt32)), (.int (0 : Int32)), (.ref kb)])) := pre53.trans (by
    show Steps p.tables e below (T53.setTop (mkF m 47 #[.val (.long p1), .second, .val (.long p2), .second, .val (.int p3), .val (.int p4), .val (.int kk), .val (.ref ty), .val (.int at_), .unset, .unset, .unset] [(.ref kb)])) _
    refine XS.astore X53.here hx rfl (hb hby at_47) rfl rfl (l' := #[.val (.long p1), .second, .val (.long p2), .second, .val (.int p3), .val (.int p4), .val (.int kk), .val (.ref ty), .val (.int at_), .val (.ref kb), .unset, .unset]) rfl ?_
    show Steps p.tables e below (T53.setTop (mkF m 49 #[.val (.long p1), .second, .val (.long p2), .second, .val (.int p3), .val (.int p4), .val (.int kk), .val (.ref ty), .val (.int at_), .val (.ref kb), .unset, .unset] [])) _
    refine XS.aload X53.here hx rfl (hb hby at_49) rfl rfl ?_
    show Steps p.tables e below (T53.setTop (mkF m 51 #[.val (.long p1), .second, .val (.long p2), .second, .val (.int p3), .val (.int p4), .val (.int kk), .val (.ref ty), .val (.int at_), .val (.ref kb), .unset, .unset] [(.ref kb)])) _
    refine XS.iconst X53.here hx rfl (hb hby at_51) ?_
    show Steps p.tables e below (T53.setTop (mkF m 52 #[.val (.long p1), .second, .val (.long p2), .second, .val (.int p3), .val (.int p4), .val (.int kk), .val (.ref ty), .val (.int at_), .val (.ref kb), .unset, .unset] [(.int (0 : Int32)), (.ref kb)])) _
    refine XS.lloadN X53.here hx rfl (hb hby at_52) rfl ?_
    show Steps p.tables e below (T53.setTop (mkF m 53 #[.val (.long p1), .second, .val (.long p2), .second, .val (.int p3), .val (.int p4), .val (.int kk), .val (.ref ty), .val (.int at_), .val (.ref kb), .unset, .unset] [(.long p2), (.int (0 : Int32)), (.ref kb)])) _
    refine XS.l2i X53.here hx rfl (hb hby at_53) rfl ?_
    show Steps p.tables e below (T53.setTop (mkF m 54 #[.val (.long p1), .second, .val (.long p2), .second, .val (.int p3), .val (.int p4), .val (.int kk), .val (.ref ty), .val (.int at_), .val (.ref kb), .unset, .unset] [(.int (p2.toInt32)), (.int (0 : Int32)), (.ref kb)])) _
    refine XS.i2b X53.here hx rfl (hb hby at_54) rfl ?_
    exact Steps.refl _)
  obtain ⟨cl55, Ar55, S55, M55, H55⟩ := id F53
  have hin55 : ¬ ((0 : Int32) < 0 ∨ cl55.slots.size ≤ ((0 : Int32)).toNatClampNeg) := inb_of S55 ⟨by decide, by decide⟩
  obtain ⟨T55, h55, X55, e55, W55, st55⟩ := stB X53 hx hZ e53 Ar55 (j := (0 : Int32)) hin55 (g := (mkF m 55 #[.val (.long p1), .second, .val (.long p2), .second, .val (.int p3), .val (.int p4), .val (.int kk), .val (.ref ty), .val (.int at_), .val (.ref kb), .unset, .unset] [(.int ((p2.toInt32).toInt8.toInt32)), (.int (0 : Int32)), (.ref kb)])) rfl rfl (hb hby at_55)
  have F55 := Far.set Ar55 S55 M55 H55 W55
  have N55 := Fr.snoc X55 N0 g_kb
  have Z55 : n0 ≤ h55.size := Nat.le_trans Z53 (Keep.of_wr W55).1
  have pre55 : Steps p.tables e below _ (T55.setTop (mkF m 56 #[.val (.long p1), .second, .val (.long p2), .second, .val (.int p3), .val (.int p4), .val (.int kk), .val (.ref ty), .val (.int at_), .val (.ref kb), .unset, .unset] [])) := pre54.trans (st55 _ (Steps.refl _))
  have pre56 : Steps p.tables e below _ (T55.setTop (mkF m 65 #[.val (.long p1), .second, .val (.long p2), .second, .val (.int p3), .val (.int p4), .val (.int kk), .val (.ref ty), .val (.int at_), .val (.ref kb), .unset, .unset] [(.int ((((p2.toUInt64 >>> ((8 : Int32) &&& 0x3f).toInt64.toUInt64).toInt64).toInt32).toInt8.toInt32)), (.int (1 : Int32)), (.ref kb)])) := pre55.trans (by
    show Steps p.tables e below (T55.setTop (mkF m 56 #[.val (.long p1), .second, .val (.long p2), .second, .val (.int p3), .val (.int p4), .val (.int kk), .val (.ref ty), .val (.int at_), .val (.ref kb), .unset, .unset] [])) _
    refine XS.aload X55.here hx rfl (hb hby at_56) rfl rfl ?_
    show Steps p.tables e below (T55.setTop (mkF m 58 #[.val (.long p1), .second, .val (.long p2), .second, .val (.int p3), .val (.int p4), .val (.int kk), .val (.ref ty), .val (.int at_), .val (.ref kb), .unset, .unset] [(.ref kb)])) _
    refine XS.iconst X55.here hx rfl (hb hby at_58) ?_
    show Steps p.tables e below (T55.setTop (mkF m 59 #[.val (.long p1), .second, .val (.long p2), .second, .val (.int p3), .val (.int p4), .val (.int kk), .val (.ref ty), .val (.int at_), .val (.ref kb), .unset, .unset] [(.int (1 : Int32)), (.ref kb)])) _
    refine XS.lloadN X55.here hx rfl (hb hby at_59) rfl ?_
    show Steps p.tables e below (T55.setTop (mkF m 60 #[.val (.long p1), .second, .val (.long p2), .second, .val (.int p3), .val (.int p4), .val (.int kk), .val (.ref ty), .val (.int at_), .val (.ref kb), .unset, .unset] [(.long p2), (.int (1 : Int32)), (.ref kb)])) _
    refine XS.bipush X55.here hx rfl (hb hby at_60) ?_
    show Steps p.tables e below (T55.setTop (mkF m 62 #[.val (.long p1), .second, .val (.long p2), .second, .val (.int p3), .val (.int p4), .val (.int kk), .val (.ref ty), .val (.int at_), .val (.ref kb), .unset, .unset] [(.int (8 : Int32)), (.long p2), (.int (1 : Int32)), (.ref kb)])) _
    refine XS.lushr X55.here hx rfl (hb hby at_62) rfl ?_
    show Steps p.tables e below (T55.setTop (mkF m 63 #[.val (.long p1), .second, .val (.long p2), .second, .val (.int p3), .val (.int p4), .val (.int kk), .val (.ref ty), .val (.int at_), .val (.ref kb), .unset, .unset] [(.long ((p2.toUInt64 >>> ((8 : Int32) &&& 0x3f).toInt64.toUInt64).toInt64)), (.int (1 : Int32)), (.ref kb)])) _
    refine XS.l2i X55.here hx rfl (hb hby at_63) rfl ?_
    show Steps p.tables e below (T55.setTop (mkF m 64 #[.val (.long p1), .second, .val (.long p2), .second, .val (.int p3), .val (.int p4), .val (.int kk), .val (.ref ty), .val (.int at_), .val (.ref kb), .unset, .unset] [(.int (((p2.toUInt64 >>> ((8 : Int32) &&& 0x3f).toInt64.toUInt64).toInt64).toInt32)), (.int (1 : Int32)), (.ref kb)])) _
    refine XS.i2b X55.here hx rfl (hb hby at_64) rfl ?_
    exact Steps.refl _)
  obtain ⟨cl57, Ar57, S57, M57, H57⟩ := id F55
  have hin57 : ¬ ((1 : Int32) < 0 ∨ cl57.slots.size ≤ ((1 : Int32)).toNatClampNeg) := inb_of S57 ⟨by decide, by decide⟩
  obtain ⟨T57, h57, X57, e57, W57, st57⟩ := stB X55 hx hZ e55 Ar57 (j := (1 : Int32)) hin57 (g := (mkF m 65 #[.val (.long p1), .second, .val (.long p2), .second, .val (.int p3), .val (.int p4), .val (.int kk), .val (.ref ty), .val (.int at_), .val (.ref kb), .unset, .unset] [(.int ((((p2.toUInt64 >>> ((8 : Int32) &&& 0x3f).toInt64.toUInt64).toInt64).toInt32).toInt8.toInt32)), (.int (1 : Int32)), (.ref kb)])) rfl rfl (hb hby at_65)
  have F57 := Far.set Ar57 S57 M57 H57 W57
  have N57 := Fr.snoc X57 N55 g_kb
  have Z57 : n0 ≤ h57.size := Nat.le_trans Z55 (Keep.of_wr W57).1
  have pre57 : Steps p.tables e below _ (T57.setTop (mkF m 66 #[.val (.long p1), .second, .val (.long p2), .second, .val (.int p3), .val (.int p4), .val (.int kk), .val (.ref ty), .val (.int at_), .val (.ref kb), .unset, .unset] [])) := pre56.trans (st57 _ (Steps.refl _))
  have pre58 : Steps p.tables e below _ (T57.setTop (mkF m 75 #[.val (.long p1), .second, .val (.long p2), .second, .val (.int p3), .val (.int p4), .val (.int kk), .val (.ref ty), .val (.int at_), .val (.ref kb), .unset, .unset] [(.int ((((p2.toUInt64 >>> ((16 : Int32) &&& 0x3f).toInt64.toUInt64).toInt64).toInt32).toInt8.toInt32)), (.int (2 : Int32)), (.ref kb)])) := pre57.trans (by
    show Steps p.tables e below (T57.setTop (mkF m 66 #[.val (.long p1), .second, .val (.long p2), .second, .val (.int p3), .val (.int p4), .val (.int kk), .val (.ref ty), .val (.int at_), .val (.ref kb), .unset, .unset] [])) _
    refine XS.aload X57.here hx rfl (hb hby at_66) rfl rfl ?_
    show Steps p.tables e below (T57.setTop (mkF m 68 #[.val (.long p1), .second, .val (.long p2), .second, .val (.int p3), .val (.int p4), .val (.int kk), .val (.ref ty), .val (.int at_), .val (.ref kb), .unset, .unset] [(.ref kb)])) _
    refine XS.iconst X57.here hx rfl (hb hby at_68) ?_
    show Steps p.tables e below (T57.setTop (mkF m 69 #[.val (.long p1), .second, .val (.long p2), .second, .val (.int p3), .val (.int p4), .val (.int kk), .val (.ref ty), .val (.int at_), .val (.ref kb), .unset, .unset] [(.int (2 : Int32)), (.ref kb)])) _
    refine XS.lloadN X57.here hx rfl (hb hby at_69) rfl ?_
    show Steps p.tables e below (T57.setTop (mkF m 70 #[.val (.long p1), .second, .val (.long p2), .second, .val (.int p3), .val (.int p4), .val (.int kk), .val (.ref ty), .val (.int at_), .val (.ref kb), .unset, .unset] [(.long p2), (.int (2 : Int32)), (.ref kb)])) _
    refine XS.bipush X57.here hx rfl (hb hby at_70) ?_
    show Steps p.tables e below (T57.setTop (mkF m 72 #[.val (.long p1), .second, .val (.long p2), .second, .val (.int p3), .val (.int p4), .val (.int kk), .val (.ref ty), .val (.int at_), .val (.ref kb), .unset, .unset] [(.int (16 : Int32)), (.long p2), (.int (2 : Int32)), (.ref kb)])) _
    refine XS.lushr X57.here hx rfl (hb hby at_72) rfl ?_
    show Steps p.tables e below (T57.setTop (mkF m 73 #[.val (.long p1), .second, .val (.long p2), .second, .val (.int p3), .val (.int p4), .val (.int kk), .val (.ref ty), .val (.int at_), .val (.ref kb), .unset, .unset] [(.long ((p2.toUInt64 >>> ((16 : Int32) &&& 0x3f).toInt64.toUInt64).toInt64)), (.int (2 : Int32)), (.ref kb)])) _
    refine XS.l2i X57.here hx rfl (hb hby at_73) rfl ?_
    show Steps p.tables e below (T57.setTop (mkF m 74 #[.val (.long p1), .second, .val (.long p2), .second, .val (.int p3), .val (.int p4), .val (.int kk), .val (.ref ty), .val (.int at_), .val (.ref kb), .unset, .unset] [(.int (((p2.toUInt64 >>> ((16 : Int32) &&& 0x3f).toInt64.toUInt64).toInt64).toInt32)), (.int (2 : Int32)), (.ref kb)])) _
    refine XS.i2b X57.here hx rfl (hb hby at_74) rfl ?_
    exact Steps.refl _)
  obtain ⟨cl59, Ar59, S59, M59, H59⟩ := id F57
  have hin59 : ¬ ((2 : Int32) < 0 ∨ cl59.slots.size ≤ ((2 : Int32)).toNatClampNeg) := inb_of S59 ⟨by decide, by decide⟩
  obtain ⟨T59, h59, X59, e59, W59, st59⟩ := stB X57 hx hZ e57 Ar59 (j := (2 : Int32)) hin59 (g := (mkF m 75 #[.val (.long p1), .second, .val (.long p2), .second, .val (.int p3), .val (.int p4), .val (.int kk), .val (.ref ty), .val (.int at_), .val (.ref kb), .unset, .unset] [(.int ((((p2.toUInt64 >>> ((16 : Int32) &&& 0x3f).toInt64.toUInt64).toInt64).toInt32).toInt8.toInt32)), (.int (2 : Int32)), (.ref kb)])) rfl rfl (hb hby at_75)
  have F59 := Far.set Ar59 S59 M59 H59 W59
  have N59 := Fr.snoc X59 N57 g_kb
  have Z59 : n0 ≤ h59.size := Nat.le_trans Z57 (Keep.of_wr W59).1
  have pre59 : Steps p.tables e below _ (T59.setTop (mkF m 76 #[.val (.long p1), .second, .val (.long p2), .second, .val (.int p3), .val (.int p4), .val (.int kk), .val (.ref ty), .val (.int at_), .val (.ref kb), .unset, .unset] [])) := pre58.trans (st59 _ (Steps.refl _))
  have pre60 : Steps p.tables e below _ (T59.setTop (mkF m 85 #[.val (.long p1), .second, .val (.long p2), .second, .val (.int p3), .val (.int p4), .val (.int kk), .val (.ref ty), .val (.int at_), .val (.ref kb), .unset, .unset] [(.int ((((p2.toUInt64 >>> ((24 : Int32) &&& 0x3f).toInt64.toUInt64).toInt64).toInt32).toInt8.toInt32)), (.int (3 : Int32)), (.ref kb)])) := pre59.trans (by
    show Steps p.tables e below (T59.setTop (mkF m 76 #[.val (.long p1), .second, .val (.long p2), .second, .val (.int p3), .val (.int p4), .val (.int kk), .val (.ref ty), .val (.int at_), .val (.ref kb), .unset, .unset] [])) _
    refine XS.aload X59.here hx rfl (hb hby at_76) rfl rfl ?_
    show Steps p.tables e below (T59.setTop (mkF m 78 #[.val (.long p1), .second, .val (.long p2), .second, .val (.int p3), .val (.int p4), .val (.int kk), .val (.ref ty), .val (.int at_), .val (.ref kb), .unset, .unset] [(.ref kb)])) _
    refine XS.iconst X59.here hx rfl (hb hby at_78) ?_
    show Steps p.tables e below (T59.setTop (mkF m 79 #[.val (.long p1), .second, .val (.long p2), .second, .val (.int p3), .val (.int p4), .val (.int kk), .val (.ref ty), .val (.int at_), .val (.ref kb), .unset, .unset] [(.int (3 : Int32)), (.ref kb)])) _
    refine XS.lloadN X59.here hx rfl (hb hby at_79) rfl ?_
    show Steps p.tables e below (T59.setTop (mkF m 80 #[.val (.long p1), .second, .val (.long p2), .second, .val (.int p3), .val (.int p4), .val (.int kk), .val (.ref ty), .val (.int at_), .val (.ref kb), .unset, .unset] [(.long p2), (.int (3 : Int32)), (.ref kb)])) _
    refine XS.bipush X59.here hx rfl (hb hby at_80) ?_
    show Steps p.tables e below (T59.setTop (mkF m 82 #[.val (.long p1), .second, .val (.long p2), .second, .val (.int p3), .val (.int p4), .val (.int kk), .val (.ref ty), .val (.int at_), .val (.ref kb), .unset, .unset] [(.int (24 : Int32)), (.long p2), (.int (3 : Int32)), (.ref kb)])) _
    refine XS.lushr X59.here hx rfl (hb hby at_82) rfl ?_
    show Steps p.tables e below (T59.setTop (mkF m 83 #[.val (.long p1), .second, .val (.long p2), .second, .val (.int p3), .val (.int p4), .val (.int kk), .val (.ref ty), .val (.int at_), .val (.ref kb), .unset, .unset] [(.long ((p2.toUInt64 >>> ((24 : Int32) &&& 0x3f).toInt64.toUInt64).toInt64)), (.int (3 : Int32)), (.ref kb)])) _
    refine XS.l2i X59.here hx rfl (hb hby at_83) rfl ?_
    show Steps p.tables e below (T59.setTop (mkF m 84 #[.val (.long p1), .second, .val (.long p2), .second, .val (.int p3), .val (.int p4), .val (.int kk), .val (.ref ty), .val (.int at_), .val (.ref kb), .unset, .unset] [(.int (((p2.toUInt64 >>> ((24 : Int32) &&& 0x3f).toInt64.toUInt64).toInt64).toInt32)), (.int (3 : Int32)), (.ref kb)])) _
    refine XS.i2b X59.here hx rfl (hb hby at_84) rfl ?_
    exact Steps.refl _)
  obtain ⟨cl61, Ar61, S61, M61, H61⟩ := id F59
  have hin61 : ¬ ((3 : Int32) < 0 ∨ cl61.slots.size ≤ ((3 : Int32)).toNatClampNeg) := inb_of S61 ⟨by decide, by decide⟩
  obtain ⟨T61, h61, X61, e61, W61, st61⟩ := stB X59 hx hZ e59 Ar61 (j := (3 : Int32)) hin61 (g := (mkF m 85 #[.val (.long p1), .second, .val (.long p2), .second, .val (.int p3), .val (.int p4), .val (.int kk), .val (.ref ty), .val (.int at_), .val (.ref kb), .unset, .unset] [(.int ((((p2.toUInt64 >>> ((24 : Int32) &&& 0x3f).toInt64.toUInt64).toInt64).toInt32).toInt8.toInt32)), (.int (3 : Int32)), (.ref kb)])) rfl rfl (hb hby at_85)
  have F61 := Far.set Ar61 S61 M61 H61 W61
  have N61 := Fr.snoc X61 N59 g_kb
  have Z61 : n0 ≤ h61.size := Nat.le_trans Z59 (Keep.of_wr W61).1
  have pre61 : Steps p.tables e below _ (T61.setTop (mkF m 86 #[.val (.long p1), .second, .val (.long p2), .second, .val (.int p3), .val (.int p4), .val (.int kk), .val (.ref ty), .val (.int at_), .val (.ref kb), .unset, .unset] [])) := pre60.trans (st61 _ (Steps.refl _))
  have pre62 : Steps p.tables e below _ (T61.setTop (mkF m 95 #[.val (.long p1), .second, .val (.long p2), .second, .val (.int p3), .val (.int p4), .val (.int kk), .val (.ref ty), .val (.int at_), .val (.ref kb), .unset, .unset] [(.int ((((p2.toUInt64 >>> ((32 : Int32) &&& 0x3f).toInt64.toUInt64).toInt64).toInt32).toInt8.toInt32)), (.int (4 : Int32)), (.ref kb)])) := pre61.trans (by
    show Steps p.tables e below (T61.setTop (mkF m 86 #[.val (.long p1), .second, .val (.long p2), .second, .val (.int p3), .val (.int p4), .val (.int kk), .val (.ref ty), .val (.int at_), .val (.ref kb), .unset, .unset] [])) _
    refine XS.aload X61.here hx rfl (hb hby at_86) rfl rfl ?_
    show Steps p.tables e below (T61.setTop (mkF m 88 #[.val (.long p1), .second, .val (.long p2), .second, .val (.int p3), .val (.int p4), .val (.int kk), .val (.ref ty), .val (.int at_), .val (.ref kb), .unset, .unset] [(.ref kb)])) _
    refine XS.iconst X61.here hx rfl (hb hby at_88) ?_
    show Steps p.tables e below (T61.setTop (mkF m 89 #[.val (.long p1), .second, .val (.long p2), .second, .val (.int p3), .val (.int p4), .val (.int kk), .val (.ref ty), .val (.int at_), .val (.ref kb), .unset, .unset] [(.int (4 : Int32)), (.ref kb)])) _
    refine XS.lloadN X61.here hx rfl (hb hby at_89) rfl ?_
    show Steps p.tables e below (T61.setTop (mkF m 90 #[.val (.long p1), .second, .val (.long p2), .second, .val (.int p3), .val (.int p4), .val (.int kk), .val (.ref ty), .val (.int at_), .val (.ref kb), .unset, .unset] [(.long p2), (.int (4 : Int32)), (.ref kb)])) _
    refine XS.bipush X61.here hx rfl (hb hby at_90) ?_
    show Steps p.tables e below (T61.setTop (mkF m 92 #[.val (.long p1), .second, .val (.long p2), .second, .val (.int p3), .val (.int p4), .val (.int kk), .val (.ref ty), .val (.int at_), .val (.ref kb), .unset, .unset] [(.int (32 : Int32)), (.long p2), (.int (4 : Int32)), (.ref kb)])) _
    refine XS.lushr X61.here hx rfl (hb hby at_92) rfl ?_
    show Steps p.tables e below (T61.setTop (mkF m 93 #[.val (.long p1), .second, .val (.long p2), .second, .val (.int p3), .val (.int p4), .val (.int kk), .val (.ref ty), .val (.int at_), .val (.ref kb), .unset, .unset] [(.long ((p2.toUInt64 >>> ((32 : Int32) &&& 0x3f).toInt64.toUInt64).toInt64)), (.int (4 : Int32)), (.ref kb)])) _
    refine XS.l2i X61.here hx rfl (hb hby at_93) rfl ?_
    show Steps p.tables e below (T61.setTop (mkF m 94 #[.val (.long p1), .second, .val (.long p2), .second, .val (.int p3), .val (.int p4), .val (.int kk), .val (.ref ty), .val (.int at_), .val (.ref kb), .unset, .unset] [(.int (((p2.toUInt64 >>> ((32 : Int32) &&& 0x3f).toInt64.toUInt64).toInt64).toInt32)), (.int (4 : Int32)), (.ref kb)])) _
    refine XS.i2b X61.here hx rfl (hb hby at_94) rfl ?_
    exact Steps.refl _)
  obtain ⟨cl63, Ar63, S63, M63, H63⟩ := id F61
  have hin63 : ¬ ((4 : Int32) < 0 ∨ cl63.slots.size ≤ ((4 : Int32)).toNatClampNeg) := inb_of S63 ⟨by decide, by decide⟩
  obtain ⟨T63, h63, X63, e63, W63, st63⟩ := stB X61 hx hZ e61 Ar63 (j := (4 : Int32)) hin63 (g := (mkF m 95 #[.val (.long p1), .second, .val (.long p2), .second, .val (.int p3), .val (.int p4), .val (.int kk), .val (.ref ty), .val (.int at_), .val (.ref kb), .unset, .unset] [(.int ((((p2.toUInt64 >>> ((32 : Int32) &&& 0x3f).toInt64.toUInt64).toInt64).toInt32).toInt8.toInt32)), (.int (4 : Int32)), (.ref kb)])) rfl rfl (hb hby at_95)
  have F63 := Far.set Ar63 S63 M63 H63 W63
  have N63 := Fr.snoc X63 N61 g_kb
  have Z63 : n0 ≤ h63.size := Nat.le_trans Z61 (Keep.of_wr W63).1
  have pre63 : Steps p.tables e below _ (T63.setTop (mkF m 96 #[.val (.long p1), .second, .val (.long p2), .second, .val (.int p3), .val (.int p4), .val (.int kk), .val (.ref ty), .val (.int at_), .val (.ref kb), .unset, .unset] [])) := pre62.trans (st63 _ (Steps.refl _))
  obtain ⟨lc64, X64, N64⟩ : ∃ lc : List Loc, Stand p l e room_1 s m #[(.long p1), (.long p2), (.int p3), (.int p4)] below meth c T63 lc 1 11 ∧ Fr n0 lc := ⟨_, X63, N63⟩
  have pre65 : Steps p.tables e below _ (T63.setTop (mkF m 105 #[.val (.long p1), .second, .val (.long p2), .second, .val (.int p3), .val (.int p4), .val (.int kk), .val (.ref ty), .val (.int at_), .val (.ref kb), .unset, .unset] [(.int ((((p2.toUInt64 >>> ((40 : Int32) &&& 0x3f).toInt64.toUInt64).toInt64).toInt32).toInt8.toInt32)), (.int (5 : Int32)), (.ref kb)])) := pre63.trans (by
    show Steps p.tables e below (T63.setTop (mkF m 96 #[.val (.long p1), .second, .val (.long p2), .second, .val (.int p3), .val (.int p4), .val (.int kk), .val (.ref ty), .val (.int at_), .val (.ref kb), .unset, .unset] [])) _
    refine XS.aload X64.here hx rfl (hb hby at_96) rfl rfl ?_
    show Steps p.tables e below (T63.setTop (mkF m 98 #[.val (.long p1), .second, .val (.long p2), .second, .val (.int p3), .val (.int p4), .val (.int kk), .val (.ref ty), .val (.int at_), .val (.ref kb), .unset, .unset] [(.ref kb)])) _
    refine XS.iconst X64.here hx rfl (hb hby at_98) ?_
    show Steps p.tables e below (T63.setTop (mkF m 99 #[.val (.long p1), .second, .val (.long p2), .second, .val (.int p3), .val (.int p4), .val (.int kk), .val (.ref ty), .val (.int at_), .val (.ref kb), .unset, .unset] [(.int (5 : Int32)), (.ref kb)])) _
    refine XS.lloadN X64.here hx rfl (hb hby at_99) rfl ?_
    show Steps p.tables e below (T63.setTop (mkF m 100 #[.val (.long p1), .second, .val (.long p2), .second, .val (.int p3), .val (.int p4), .val (.int kk), .val (.ref ty), .val (.int at_), .val (.ref kb), .unset, .unset] [(.long p2), (.int (5 : Int32)), (.ref kb)])) _
    refine XS.bipush X64.here hx rfl (hb hby at_100) ?_
    show Steps p.tables e below (T63.setTop (mkF m 102 #[.val (.long p1), .second, .val (.long p2), .second, .val (.int p3), .val (.int p4), .val (.int kk), .val (.ref ty), .val (.int at_), .val (.ref kb), .unset, .unset] [(.int (40 : Int32)), (.long p2), (.int (5 : Int32)), (.ref kb)])) _
    refine XS.lushr X64.here hx rfl (hb hby at_102) rfl ?_
    show Steps p.tables e below (T63.setTop (mkF m 103 #[.val (.long p1), .second, .val (.long p2), .second, .val (.int p3), .val (.int p4), .val (.int kk), .val (.ref ty), .val (.int at_), .val (.ref kb), .unset, .unset] [(.long ((p2.toUInt64 >>> ((40 : Int32) &&& 0x3f).toInt64.toUInt64).toInt64)), (.int (5 : Int32)), (.ref kb)])) _
    refine XS.l2i X64.here hx rfl (hb hby at_103) rfl ?_
    show Steps p.tables e below (T63.setTop (mkF m 104 #[.val (.long p1), .second, .val (.long p2), .second, .val (.int p3), .val (.int p4), .val (.int kk), .val (.ref ty), .val (.int at_), .val (.ref kb), .unset, .unset] [(.int (((p2.toUInt64 >>> ((40 : Int32) &&& 0x3f).toInt64.toUInt64).toInt64).toInt32)), (.int (5 : Int32)), (.ref kb)])) _
    refine XS.i2b X64.here hx rfl (hb hby at_104) rfl ?_
    exact Steps.refl _)
  obtain ⟨cl66, Ar66, S66, M66, H66⟩ := id F63
  have hin66 : ¬ ((5 : Int32) < 0 ∨ cl66.slots.size ≤ ((5 : Int32)).toNatClampNeg) := inb_of S66 ⟨by decide, by decide⟩
  obtain ⟨T66, h66, X66, e66, W66, st66⟩ := stB X64 hx hZ e63 Ar66 (j := (5 : Int32)) hin66 (g := (mkF m 105 #[.val (.long p1), .second, .val (.long p2), .second, .val (.int p3), .val (.int p4), .val (.int kk), .val (.ref ty), .val (.int at_), .val (.ref kb), .unset, .unset] [(.int ((((p2.toUInt64 >>> ((40 : Int32) &&& 0x3f).toInt64.toUInt64).toInt64).toInt32).toInt8.toInt32)), (.int (5 : Int32)), (.ref kb)])) rfl rfl (hb hby at_105)
  have F66 := Far.set Ar66 S66 M66 H66 W66
  have N66 := Fr.snoc X66 N64 g_kb
  have Z66 : n0 ≤ h66.size := Nat.le_trans Z63 (Keep.of_wr W66).1
  have pre66 : Steps p.tables e below _ (T66.setTop (mkF m 106 #[.val (.long p1), .second, .val (.long p2), .second, .val (.int p3), .val (.int p4), .val (.int kk), .val (.ref ty), .val (.int at_), .val (.ref kb), .unset, .unset] [])) := pre65.trans (st66 _ (Steps.refl _))
  have pre67 : Steps p.tables e below _ (T66.setTop (mkF m 116 #[.val (.long p1), .second, .val (.long p2), .second, .val (.int p3), .val (.int p4), .val (.int kk), .val (.ref ty), .val (.int at_), .val (.ref kb), .unset, .unset] [(.int ((((p2.toUInt64 >>> ((48 : Int32) &&& 0x3f).toInt64.toUInt64).toInt64).toInt32).toInt8.toInt32)), (.int (6 : Int32)), (.ref kb)])) := pre66.trans (by
    show Steps p.tables e below (T66.setTop (mkF m 106 #[.val (.long p1), .second, .val (.long p2), .second, .val (.int p3), .val (.int p4), .val (.int kk), .val (.ref ty), .val (.int at_), .val (.ref kb), .unset, .unset] [])) _
    refine XS.aload X66.here hx rfl (hb hby at_106) rfl rfl ?_
    show Steps p.tables e below (T66.setTop (mkF m 108 #[.val (.long p1), .second, .val (.long p2), .second, .val (.int p3), .val (.int p4), .val (.int kk), .val (.ref ty), .val (.int at_), .val (.ref kb), .unset, .unset] [(.ref kb)])) _
    refine XS.bipush X66.here hx rfl (hb hby at_108) ?_
    show Steps p.tables e below (T66.setTop (mkF m 110 #[.val (.long p1), .second, .val (.long p2), .second, .val (.int p3), .val (.int p4), .val (.int kk), .val (.ref ty), .val (.int at_), .val (.ref kb), .unset, .unset] [(.int (6 : Int32)), (.ref kb)])) _
    refine XS.lloadN X66.here hx rfl (hb hby at_110) rfl ?_
    show Steps p.tables e below (T66.setTop (mkF m 111 #[.val (.long p1), .second, .val (.long p2), .second, .val (.int p3), .val (.int p4), .val (.int kk), .val (.ref ty), .val (.int at_), .val (.ref kb), .unset, .unset] [(.long p2), (.int (6 : Int32)), (.ref kb)])) _
    refine XS.bipush X66.here hx rfl (hb hby at_111) ?_
    show Steps p.tables e below (T66.setTop (mkF m 113 #[.val (.long p1), .second, .val (.long p2), .second, .val (.int p3), .val (.int p4), .val (.int kk), .val (.ref ty), .val (.int at_), .val (.ref kb), .unset, .unset] [(.int (48 : Int32)), (.long p2), (.int (6 : Int32)), (.ref kb)])) _
    refine XS.lushr X66.here hx rfl (hb hby at_113) rfl ?_
    show Steps p.tables e below (T66.setTop (mkF m 114 #[.val (.long p1), .second, .val (.long p2), .second, .val (.int p3), .val (.int p4), .val (.int kk), .val (.ref ty), .val (.int at_), .val (.ref kb), .unset, .unset] [(.long ((p2.toUInt64 >>> ((48 : Int32) &&& 0x3f).toInt64.toUInt64).toInt64)), (.int (6 : Int32)), (.ref kb)])) _
    refine XS.l2i X66.here hx rfl (hb hby at_114) rfl ?_
    show Steps p.tables e below (T66.setTop (mkF m 115 #[.val (.long p1), .second, .val (.long p2), .second, .val (.int p3), .val (.int p4), .val (.int kk), .val (.ref ty), .val (.int at_), .val (.ref kb), .unset, .unset] [(.int (((p2.toUInt64 >>> ((48 : Int32) &&& 0x3f).toInt64.toUInt64).toInt64).toInt32)), (.int (6 : Int32)), (.ref kb)])) _
    refine XS.i2b X66.here hx rfl (hb hby at_115) rfl ?_
    exact Steps.refl _)
  obtain ⟨cl68, Ar68, S68, M68, H68⟩ := id F66
  have hin68 : ¬ ((6 : Int32) < 0 ∨ cl68.slots.size ≤ ((6 : Int32)).toNatClampNeg) := inb_of S68 ⟨by decide, by decide⟩
  obtain ⟨T68, h68, X68, e68, W68, st68⟩ := stB X66 hx hZ e66 Ar68 (j := (6 : Int32)) hin68 (g := (mkF m 116 #[.val (.long p1), .second, .val (.long p2), .second, .val (.int p3), .val (.int p4), .val (.int kk), .val (.ref ty), .val (.int at_), .val (.ref kb), .unset, .unset] [(.int ((((p2.toUInt64 >>> ((48 : Int32) &&& 0x3f).toInt64.toUInt64).toInt64).toInt32).toInt8.toInt32)), (.int (6 : Int32)), (.ref kb)])) rfl rfl (hb hby at_116)
  have F68 := Far.set Ar68 S68 M68 H68 W68
  have N68 := Fr.snoc X68 N66 g_kb
  have Z68 : n0 ≤ h68.size := Nat.le_trans Z66 (Keep.of_wr W68).1
  have pre68 : Steps p.tables e below _ (T68.setTop (mkF m 117 #[.val (.long p1), .second, .val (.long p2), .second, .val (.int p3), .val (.int p4), .val (.int kk), .val (.ref ty), .val (.int at_), .val (.ref kb), .unset, .unset] [])) := pre67.trans (st68 _ (Steps.refl _))
  have pre69 : Steps p.tables e below _ (T68.setTop (mkF m 127 #[.val (.long p1), .second, .val (.long p2), .second, .val (.int p3), .val (.int p4), .val (.int kk), .val (.ref ty), .val (.int at_), .val (.ref kb), .unset, .unset] [(.int ((((p2.toUInt64 >>> ((56 : Int32) &&& 0x3f).toInt64.toUInt64).toInt64).toInt32).toInt8.toInt32)), (.int (7 : Int32)), (.ref kb)])) := pre68.trans (by
    show Steps p.tables e below (T68.setTop (mkF m 117 #[.val (.long p1), .second, .val (.long p2), .second, .val (.int p3), .val (.int p4), .val (.int kk), .val (.ref ty), .val (.int at_), .val (.ref kb), .unset, .unset] [])) _
    refine XS.aload X68.here hx rfl (hb hby at_117) rfl rfl ?_
    show Steps p.tables e below (T68.setTop (mkF m 119 #[.val (.long p1), .second, .val (.long p2), .second, .val (.int p3), .val (.int p4), .val (.int kk), .val (.ref ty), .val (.int at_), .val (.ref kb), .unset, .unset] [(.ref kb)])) _
    refine XS.bipush X68.here hx rfl (hb hby at_119) ?_
    show Steps p.tables e below (T68.setTop (mkF m 121 #[.val (.long p1), .second, .val (.long p2), .second, .val (.int p3), .val (.int p4), .val (.int kk), .val (.ref ty), .val (.int at_), .val (.ref kb), .unset, .unset] [(.int (7 : Int32)), (.ref kb)])) _
    refine XS.lloadN X68.here hx rfl (hb hby at_121) rfl ?_
    show Steps p.tables e below (T68.setTop (mkF m 122 #[.val (.long p1), .second, .val (.long p2), .second, .val (.int p3), .val (.int p4), .val (.int kk), .val (.ref ty), .val (.int at_), .val (.ref kb), .unset, .unset] [(.long p2), (.int (7 : Int32)), (.ref kb)])) _
    refine XS.bipush X68.here hx rfl (hb hby at_122) ?_
    show Steps p.tables e below (T68.setTop (mkF m 124 #[.val (.long p1), .second, .val (.long p2), .second, .val (.int p3), .val (.int p4), .val (.int kk), .val (.ref ty), .val (.int at_), .val (.ref kb), .unset, .unset] [(.int (56 : Int32)), (.long p2), (.int (7 : Int32)), (.ref kb)])) _
    refine XS.lushr X68.here hx rfl (hb hby at_124) rfl ?_
    show Steps p.tables e below (T68.setTop (mkF m 125 #[.val (.long p1), .second, .val (.long p2), .second, .val (.int p3), .val (.int p4), .val (.int kk), .val (.ref ty), .val (.int at_), .val (.ref kb), .unset, .unset] [(.long ((p2.toUInt64 >>> ((56 : Int32) &&& 0x3f).toInt64.toUInt64).toInt64)), (.int (7 : Int32)), (.ref kb)])) _
    refine XS.l2i X68.here hx rfl (hb hby at_125) rfl ?_
    show Steps p.tables e below (T68.setTop (mkF m 126 #[.val (.long p1), .second, .val (.long p2), .second, .val (.int p3), .val (.int p4), .val (.int kk), .val (.ref ty), .val (.int at_), .val (.ref kb), .unset, .unset] [(.int (((p2.toUInt64 >>> ((56 : Int32) &&& 0x3f).toInt64.toUInt64).toInt64).toInt32)), (.int (7 : Int32)), (.ref kb)])) _
    refine XS.i2b X68.here hx rfl (hb hby at_126) rfl ?_
    exact Steps.refl _)
  obtain ⟨cl70, Ar70, S70, M70, H70⟩ := id F68
  have hin70 : ¬ ((7 : Int32) < 0 ∨ cl70.slots.size ≤ ((7 : Int32)).toNatClampNeg) := inb_of S70 ⟨by decide, by decide⟩
  obtain ⟨T70, h70, X70, e70, W70, st70⟩ := stB X68 hx hZ e68 Ar70 (j := (7 : Int32)) hin70 (g := (mkF m 127 #[.val (.long p1), .second, .val (.long p2), .second, .val (.int p3), .val (.int p4), .val (.int kk), .val (.ref ty), .val (.int at_), .val (.ref kb), .unset, .unset] [(.int ((((p2.toUInt64 >>> ((56 : Int32) &&& 0x3f).toInt64.toUInt64).toInt64).toInt32).toInt8.toInt32)), (.int (7 : Int32)), (.ref kb)])) rfl rfl (hb hby at_127)
  have F70 := Far.set Ar70 S70 M70 H70 W70
  have N70 := Fr.snoc X70 N68 g_kb
  have Z70 : n0 ≤ h70.size := Nat.le_trans Z68 (Keep.of_wr W70).1
  have pre70 : Steps p.tables e below _ (T70.setTop (mkF m 128 #[.val (.long p1), .second, .val (.long p2), .second, .val (.int p3), .val (.int p4), .val (.int kk), .val (.ref ty), .val (.int at_), .val (.ref kb), .unset, .unset] [])) := pre69.trans (st70 _ (Steps.refl _))
  have pre71 : Steps p.tables e below _ (T70.setTop (mkF m 137 #[.val (.long p1), .second, .val (.long p2), .second, .val (.int p3), .val (.int p4), .val (.int kk), .val (.ref ty), .val (.int at_), .val (.ref kb), .unset, .unset] [(.int ((((p2.toUInt64 >>> ((4 : Int32) &&& 0x3f).toInt64.toUInt64).toInt64).toInt32).toInt8.toInt32)), (.int (8 : Int32)), (.ref kb)])) := pre70.trans (by
    show Steps p.tables e below (T70.setTop (mkF m 128 #[.val (.long p1), .second, .val (.long p2), .second, .val (.int p3), .val (.int p4), .val (.int kk), .val (.ref ty), .val (.int at_), .val (.ref kb), .unset, .unset] [])) _
    refine XS.aload X70.here hx rfl (hb hby at_128) rfl rfl ?_
    show Steps p.tables e below (T70.setTop (mkF m 130 #[.val (.long p1), .second, .val (.long p2), .second, .val (.int p3), .val (.int p4), .val (.int kk), .val (.ref ty), .val (.int at_), .val (.ref kb), .unset, .unset] [(.ref kb)])) _
    refine XS.bipush X70.here hx rfl (hb hby at_130) ?_
    show Steps p.tables e below (T70.setTop (mkF m 132 #[.val (.long p1), .second, .val (.long p2), .second, .val (.int p3), .val (.int p4), .val (.int kk), .val (.ref ty), .val (.int at_), .val (.ref kb), .unset, .unset] [(.int (8 : Int32)), (.ref kb)])) _
    refine XS.lloadN X70.here hx rfl (hb hby at_132) rfl ?_
    show Steps p.tables e below (T70.setTop (mkF m 133 #[.val (.long p1), .second, .val (.long p2), .second, .val (.int p3), .val (.int p4), .val (.int kk), .val (.ref ty), .val (.int at_), .val (.ref kb), .unset, .unset] [(.long p2), (.int (8 : Int32)), (.ref kb)])) _
    refine XS.iconst X70.here hx rfl (hb hby at_133) ?_
    show Steps p.tables e below (T70.setTop (mkF m 134 #[.val (.long p1), .second, .val (.long p2), .second, .val (.int p3), .val (.int p4), .val (.int kk), .val (.ref ty), .val (.int at_), .val (.ref kb), .unset, .unset] [(.int (4 : Int32)), (.long p2), (.int (8 : Int32)), (.ref kb)])) _
    refine XS.lushr X70.here hx rfl (hb hby at_134) rfl ?_
    show Steps p.tables e below (T70.setTop (mkF m 135 #[.val (.long p1), .second, .val (.long p2), .second, .val (.int p3), .val (.int p4), .val (.int kk), .val (.ref ty), .val (.int at_), .val (.ref kb), .unset, .unset] [(.long ((p2.toUInt64 >>> ((4 : Int32) &&& 0x3f).toInt64.toUInt64).toInt64)), (.int (8 : Int32)), (.ref kb)])) _
    refine XS.l2i X70.here hx rfl (hb hby at_135) rfl ?_
    show Steps p.tables e below (T70.setTop (mkF m 136 #[.val (.long p1), .second, .val (.long p2), .second, .val (.int p3), .val (.int p4), .val (.int kk), .val (.ref ty), .val (.int at_), .val (.ref kb), .unset, .unset] [(.int (((p2.toUInt64 >>> ((4 : Int32) &&& 0x3f).toInt64.toUInt64).toInt64).toInt32)), (.int (8 : Int32)), (.ref kb)])) _
    refine XS.i2b X70.here hx rfl (hb hby at_136) rfl ?_
    exact Steps.refl _)
  obtain ⟨cl72, Ar72, S72, M72, H72⟩ := id F70
  have hin72 : ¬ ((8 : Int32) < 0 ∨ cl72.slots.size ≤ ((8 : Int32)).toNatClampNeg) := inb_of S72 ⟨by decide, by decide⟩
  obtain ⟨T72, h72, X72, e72, W72, st72⟩ := stB X70 hx hZ e70 Ar72 (j := (8 : Int32)) hin72 (g := (mkF m 137 #[.val (.long p1), .second, .val (.long p2), .second, .val (.int p3), .val (.int p4), .val (.int kk), .val (.ref ty), .val (.int at_), .val (.ref kb), .unset, .unset] [(.int ((((p2.toUInt64 >>> ((4 : Int32) &&& 0x3f).toInt64.toUInt64).toInt64).toInt32).toInt8.toInt32)), (.int (8 : Int32)), (.ref kb)])) rfl rfl (hb hby at_137)
  have F72 := Far.set Ar72 S72 M72 H72 W72
  have N72 := Fr.snoc X72 N70 g_kb
  have Z72 : n0 ≤ h72.size := Nat.le_trans Z70 (Keep.of_wr W72).1
  have pre72 : Steps p.tables e below _ (T72.setTop (mkF m 138 #[.val (.long p1), .second, .val (.long p2), .second, .val (.int p3), .val (.int p4), .val (.int kk), .val (.ref ty), .val (.int at_), .val (.ref kb), .unset, .unset] [])) := pre71.trans (st72 _ (Steps.refl _))
  have pre73 : Steps p.tables e below _ (T72.setTop (mkF m 148 #[.val (.long p1), .second, .val (.long p2), .second, .val (.int p3), .val (.int p4), .val (.int kk), .val (.ref ty), .val (.int at_), .val (.ref kb), .unset, .unset] [(.int ((((p2.toUInt64 >>> ((12 : Int32) &&& 0x3f).toInt64.toUInt64).toInt64).toInt32).toInt8.toInt32)), (.int (9 : Int32)), (.ref kb)])) := pre72.trans (by
    show Steps p.tables e below (T72.setTop (mkF m 138 #[.val (.long p1), .second, .val (.long p2), .second, .val (.int p3), .val (.int p4), .val (.int kk), .val (.ref ty), .val (.int at_), .val (.ref kb), .unset, .unset] [])) _
    refine XS.aload X72.here hx rfl (hb hby at_138) rfl rfl ?_
    show Steps p.tables e below (T72.setTop (mkF m 140 #[.val (.long p1), .second, .val (.long p2), .second, .val (.int p3), .val (.int p4), .val (.int kk), .val (.ref ty), .val (.int at_), .val (.ref kb), .unset, .unset] [(.ref kb)])) _
    refine XS.bipush X72.here hx rfl (hb hby at_140) ?_
    show Steps p.tables e below (T72.setTop (mkF m 142 #[.val (.long p1), .second, .val (.long p2), .second, .val (.int p3), .val (.int p4), .val (.int kk), .val (.ref ty), .val (.int at_), .val (.ref kb), .unset, .unset] [(.int (9 : Int32)), (.ref kb)])) _
    refine XS.lloadN X72.here hx rfl (hb hby at_142) rfl ?_
    show Steps p.tables e below (T72.setTop (mkF m 143 #[.val (.long p1), .second, .val (.long p2), .second, .val (.int p3), .val (.int p4), .val (.int kk), .val (.ref ty), .val (.int at_), .val (.ref kb), .unset, .unset] [(.long p2), (.int (9 : Int32)), (.ref kb)])) _
    refine XS.bipush X72.here hx rfl (hb hby at_143) ?_
    show Steps p.tables e below (T72.setTop (mkF m 145 #[.val (.long p1), .second, .val (.long p2), .second, .val (.int p3), .val (.int p4), .val (.int kk), .val (.ref ty), .val (.int at_), .val (.ref kb), .unset, .unset] [(.int (12 : Int32)), (.long p2), (.int (9 : Int32)), (.ref kb)])) _
    refine XS.lushr X72.here hx rfl (hb hby at_145) rfl ?_
    show Steps p.tables e below (T72.setTop (mkF m 146 #[.val (.long p1), .second, .val (.long p2), .second, .val (.int p3), .val (.int p4), .val (.int kk), .val (.ref ty), .val (.int at_), .val (.ref kb), .unset, .unset] [(.long ((p2.toUInt64 >>> ((12 : Int32) &&& 0x3f).toInt64.toUInt64).toInt64)), (.int (9 : Int32)), (.ref kb)])) _
    refine XS.l2i X72.here hx rfl (hb hby at_146) rfl ?_
    show Steps p.tables e below (T72.setTop (mkF m 147 #[.val (.long p1), .second, .val (.long p2), .second, .val (.int p3), .val (.int p4), .val (.int kk), .val (.ref ty), .val (.int at_), .val (.ref kb), .unset, .unset] [(.int (((p2.toUInt64 >>> ((12 : Int32) &&& 0x3f).toInt64.toUInt64).toInt64).toInt32)), (.int (9 : Int32)), (.ref kb)])) _
    refine XS.i2b X72.here hx rfl (hb hby at_147) rfl ?_
    exact Steps.refl _)
  obtain ⟨cl74, Ar74, S74, M74, H74⟩ := id F72
  have hin74 : ¬ ((9 : Int32) < 0 ∨ cl74.slots.size ≤ ((9 : Int32)).toNatClampNeg) := inb_of S74 ⟨by decide, by decide⟩
  obtain ⟨T74, h74, X74, e74, W74, st74⟩ := stB X72 hx hZ e72 Ar74 (j := (9 : Int32)) hin74 (g := (mkF m 148 #[.val (.long p1), .second, .val (.long p2), .second, .val (.int p3), .val (.int p4), .val (.int kk), .val (.ref ty), .val (.int at_), .val (.ref kb), .unset, .unset] [(.int ((((p2.toUInt64 >>> ((12 : Int32) &&& 0x3f).toInt64.toUInt64).toInt64).toInt32).toInt8.toInt32)), (.int (9 : Int32)), (.ref kb)])) rfl rfl (hb hby at_148)
  have F74 := Far.set Ar74 S74 M74 H74 W74
  have N74 := Fr.snoc X74 N72 g_kb
  have Z74 : n0 ≤ h74.size := Nat.le_trans Z72 (Keep.of_wr W74).1
  have pre74 : Steps p.tables e below _ (T74.setTop (mkF m 149 #[.val (.long p1), .second, .val (.long p2), .second, .val (.int p3), .val (.int p4), .val (.int kk), .val (.ref ty), .val (.int at_), .val (.ref kb), .unset, .unset] [])) := pre73.trans (st74 _ (Steps.refl _))
  obtain ⟨lc75, X75, N75⟩ : ∃ lc : List Loc, Stand p l e room_1 s m #[(.long p1), (.long p2), (.int p3), (.int p4)] below meth c T74 lc 1 11 ∧ Fr n0 lc := ⟨_, X74, N74⟩
  have pre76 : Steps p.tables e below _ (T74.setTop (mkF m 159 #[.val (.long p1), .second, .val (.long p2), .second, .val (.int p3), .val (.int p4), .val (.int kk), .val (.ref ty), .val (.int at_), .val (.ref kb), .unset, .unset] [(.int ((((p2.toUInt64 >>> ((20 : Int32) &&& 0x3f).toInt64.toUInt64).toInt64).toInt32).toInt8.toInt32)), (.int (10 : Int32)), (.ref kb)])) := pre74.trans (by
    show Steps p.tables e below (T74.setTop (mkF m 149 #[.val (.long p1), .second, .val (.long p2), .second, .val (.int p3), .val (.int p4), .val (.int kk), .val (.ref ty), .val (.int at_), .val (.ref kb), .unset, .unset] [])) _
    refine XS.aload X75.here hx rfl (hb hby at_149) rfl rfl ?_
    show Steps p.tables e below (T74.setTop (mkF m 151 #[.val (.long p1), .second, .val (.long p2), .second, .val (.int p3), .val (.int p4), .val (.int kk), .val (.ref ty), .val (.int at_), .val (.ref kb), .unset, .unset] [(.ref kb)])) _
    refine XS.bipush X75.here hx rfl (hb hby at_151) ?_
    show Steps p.tables e below (T74.setTop (mkF m 153 #[.val (.long p1), .second, .val (.long p2), .second, .val (.int p3), .val (.int p4), .val (.int kk), .val (.ref ty), .val (.int at_), .val (.ref kb), .unset, .unset] [(.int (10 : Int32)), (.ref kb)])) _
    refine XS.lloadN X75.here hx rfl (hb hby at_153) rfl ?_
    show Steps p.tables e below (T74.setTop (mkF m 154 #[.val (.long p1), .second, .val (.long p2), .second, .val (.int p3), .val (.int p4), .val (.int kk), .val (.ref ty), .val (.int at_), .val (.ref kb), .unset, .unset] [(.long p2), (.int (10 : Int32)), (.ref kb)])) _
    refine XS.bipush X75.here hx rfl (hb hby at_154) ?_
    show Steps p.tables e below (T74.setTop (mkF m 156 #[.val (.long p1), .second, .val (.long p2), .second, .val (.int p3), .val (.int p4), .val (.int kk), .val (.ref ty), .val (.int at_), .val (.ref kb), .unset, .unset] [(.int (20 : Int32)), (.long p2), (.int (10 : Int32)), (.ref kb)])) _
    refine XS.lushr X75.here hx rfl (hb hby at_156) rfl ?_
    show Steps p.tables e below (T74.setTop (mkF m 157 #[.val (.long p1), .second, .val (.long p2), .second, .val (.int p3), .val (.int p4), .val (.int kk), .val (.ref ty), .val (.int at_), .val (.ref kb), .unset, .unset] [(.long ((p2.toUInt64 >>> ((20 : Int32) &&& 0x3f).toInt64.toUInt64).toInt64)), (.int (10 : Int32)), (.ref kb)])) _
    refine XS.l2i X75.here hx rfl (hb hby at_157) rfl ?_
    show Steps p.tables e below (T74.setTop (mkF m 158 #[.val (.long p1), .second, .val (.long p2), .second, .val (.int p3), .val (.int p4), .val (.int kk), .val (.ref ty), .val (.int at_), .val (.ref kb), .unset, .unset] [(.int (((p2.toUInt64 >>> ((20 : Int32) &&& 0x3f).toInt64.toUInt64).toInt64).toInt32)), (.int (10 : Int32)), (.ref kb)])) _
    refine XS.i2b X75.here hx rfl (hb hby at_158) rfl ?_
    exact Steps.refl _)
  obtain ⟨cl77, Ar77, S77, M77, H77⟩ := id F74
  have hin77 : ¬ ((10 : Int32) < 0 ∨ cl77.slots.size ≤ ((10 : Int32)).toNatClampNeg) := inb_of S77 ⟨by decide, by decide⟩
  obtain ⟨T77, h77, X77, e77, W77, st77⟩ := stB X75 hx hZ e74 Ar77 (j := (10 : Int32)) hin77 (g := (mkF m 159 #[.val (.long p1), .second, .val (.long p2), .second, .val (.int p3), .val (.int p4), .val (.int kk), .val (.ref ty), .val (.int at_), .val (.ref kb), .unset, .unset] [(.int ((((p2.toUInt64 >>> ((20 : Int32) &&& 0x3f).toInt64.toUInt64).toInt64).toInt32).toInt8.toInt32)), (.int (10 : Int32)), (.ref kb)])) rfl rfl (hb hby at_159)
  have F77 := Far.set Ar77 S77 M77 H77 W77
  have N77 := Fr.snoc X77 N75 g_kb
  have Z77 : n0 ≤ h77.size := Nat.le_trans Z74 (Keep.of_wr W77).1
  have pre77 : Steps p.tables e below _ (T77.setTop (mkF m 160 #[.val (.long p1), .second, .val (.long p2), .second, .val (.int p3), .val (.int p4), .val (.int kk), .val (.ref ty), .val (.int at_), .val (.ref kb), .unset, .unset] [])) := pre76.trans (st77 _ (Steps.refl _))
  obtain ⟨g0, FG⟩ : ∃ g, Far Z h77 kb .byte (11 : Int32) g := ⟨_, F77⟩
  have pre78 : Steps p.tables e below _ (T77.setTop (mkF m 170 #[.val (.long p1), .second, .val (.long p2), .second, .val (.int p3), .val (.int p4), .val (.int kk), .val (.ref ty), .val (.int at_), .val (.ref kb), .unset, .unset] [(.int ((((p1.toUInt64 >>> ((56 : Int32) &&& 0x3f).toInt64.toUInt64).toInt64).toInt32).toInt8.toInt32)), (.int at_), (.ref kb)])) := pre77.trans (by
    show Steps p.tables e below (T77.setTop (mkF m 160 #[.val (.long p1), .second, .val (.long p2), .second, .val (.int p3), .val (.int p4), .val (.int kk), .val (.ref ty), .val (.int at_), .val (.ref kb), .unset, .unset] [])) _
    refine XS.aload X77.here hx rfl (hb hby at_160) rfl rfl ?_
    show Steps p.tables e below (T77.setTop (mkF m 162 #[.val (.long p1), .second, .val (.long p2), .second, .val (.int p3), .val (.int p4), .val (.int kk), .val (.ref ty), .val (.int at_), .val (.ref kb), .unset, .unset] [(.ref kb)])) _
    refine XS.iload X77.here hx rfl (hb hby at_162) rfl ?_
    show Steps p.tables e below (T77.setTop (mkF m 164 #[.val (.long p1), .second, .val (.long p2), .second, .val (.int p3), .val (.int p4), .val (.int kk), .val (.ref ty), .val (.int at_), .val (.ref kb), .unset, .unset] [(.int at_), (.ref kb)])) _
    refine XS.lloadN X77.here hx rfl (hb hby at_164) rfl ?_
    show Steps p.tables e below (T77.setTop (mkF m 165 #[.val (.long p1), .second, .val (.long p2), .second, .val (.int p3), .val (.int p4), .val (.int kk), .val (.ref ty), .val (.int at_), .val (.ref kb), .unset, .unset] [(.long p1), (.int at_), (.ref kb)])) _
    refine XS.bipush X77.here hx rfl (hb hby at_165) ?_
    show Steps p.tables e below (T77.setTop (mkF m 167 #[.val (.long p1), .second, .val (.long p2), .second, .val (.int p3), .val (.int p4), .val (.int kk), .val (.ref ty), .val (.int at_), .val (.ref kb), .unset, .unset] [(.int (56 : Int32)), (.long p1), (.int at_), (.ref kb)])) _
    refine XS.lushr X77.here hx rfl (hb hby at_167) rfl ?_
    show Steps p.tables e below (T77.setTop (mkF m 168 #[.val (.long p1), .second, .val (.long p2), .second, .val (.int p3), .val (.int p4), .val (.int kk), .val (.ref ty), .val (.int at_), .val (.ref kb), .unset, .unset] [(.long ((p1.toUInt64 >>> ((56 : Int32) &&& 0x3f).toInt64.toUInt64).toInt64)), (.int at_), (.ref kb)])) _
    refine XS.l2i X77.here hx rfl (hb hby at_168) rfl ?_
    show Steps p.tables e below (T77.setTop (mkF m 169 #[.val (.long p1), .second, .val (.long p2), .second, .val (.int p3), .val (.int p4), .val (.int kk), .val (.ref ty), .val (.int at_), .val (.ref kb), .unset, .unset] [(.int (((p1.toUInt64 >>> ((56 : Int32) &&& 0x3f).toInt64.toUInt64).toInt64).toInt32)), (.int at_), (.ref kb)])) _
    refine XS.i2b X77.here hx rfl (hb hby at_169) rfl ?_
    exact Steps.refl _)
  have xv0 : ((((p1.toUInt64 >>> ((56 : Int32) &&& 0x3f).toInt64.toUInt64).toInt64).toInt32).toInt8.toInt32) = own_b (own_up p1 56) := rfl
  rw [xv0] at pre78
  obtain ⟨cl79, Ar79, S79, M79, H79⟩ := id FG
  have hin79 : ¬ (at_ < 0 ∨ cl79.slots.size ≤ (at_).toNatClampNeg) := inb_of S79 lh0
  obtain ⟨T79, h79, X79, e79, W79, st79⟩ := stB X77 hx hZ e77 Ar79 (j := at_) hin79 (g := (mkF m 170 #[.val (.long p1), .second, .val (.long p2), .second, .val (.int p3), .val (.int p4), .val (.int kk), .val (.ref ty), .val (.int at_), .val (.ref kb), .unset, .unset] [(.int (own_b (own_up p1 56))), (.int at_), (.ref kb)])) rfl rfl (hb hby at_170)
  have F79 := Far.set Ar79 S79 M79 H79 W79
  have N79 := Fr.snoc X79 N77 g_kb
  have Z79 : n0 ≤ h79.size := Nat.le_trans Z77 (Keep.of_wr W79).1
  have pre79 : Steps p.tables e below _ (T79.setTop (mkF m 171 #[.val (.long p1), .second, .val (.long p2), .second, .val (.int p3), .val (.int p4), .val (.int kk), .val (.ref ty), .val (.int at_), .val (.ref kb), .unset, .unset] [])) := pre78.trans (st79 _ (Steps.refl _))
  have pre80 : Steps p.tables e below _ (T79.setTop (mkF m 183 #[.val (.long p1), .second, .val (.long p2), .second, .val (.int p3), .val (.int p4), .val (.int kk), .val (.ref ty), .val (.int at_), .val (.ref kb), .unset, .unset] [(.int ((((p1.toUInt64 >>> ((48 : Int32) &&& 0x3f).toInt64.toUInt64).toInt64).toInt32).toInt8.toInt32)), (.int (at_ + (1 : Int32))), (.ref kb)])) := pre79.trans (by
    show Steps p.tables e below (T79.setTop (mkF m 171 #[.val (.long p1), .second, .val (.long p2), .second, .val (.int p3), .val (.int p4), .val (.int kk), .val (.ref ty), .val (.int at_), .val (.ref kb), .unset, .unset] [])) _
    refine XS.aload X79.here hx rfl (hb hby at_171) rfl rfl ?_
    show Steps p.tables e below (T79.setTop (mkF m 173 #[.val (.long p1), .second, .val (.long p2), .second, .val (.int p3), .val (.int p4), .val (.int kk), .val (.ref ty), .val (.int at_), .val (.ref kb), .unset, .unset] [(.ref kb)])) _
    refine XS.iload X79.here hx rfl (hb hby at_173) rfl ?_
    show Steps p.tables e below (T79.setTop (mkF m 175 #[.val (.long p1), .second, .val (.long p2), .second, .val (.int p3), .val (.int p4), .val (.int kk), .val (.ref ty), .val (.int at_), .val (.ref kb), .unset, .unset] [(.int at_), (.ref kb)])) _
    refine XS.iconst X79.here hx rfl (hb hby at_175) ?_
    show Steps p.tables e below (T79.setTop (mkF m 176 #[.val (.long p1), .second, .val (.long p2), .second, .val (.int p3), .val (.int p4), .val (.int kk), .val (.ref ty), .val (.int at_), .val (.ref kb), .unset, .unset] [(.int (1 : Int32)), (.int at_), (.ref kb)])) _
    refine XS.iadd X79.here hx rfl (hb hby at_176) rfl ?_
    show Steps p.tables e below (T79.setTop (mkF m 177 #[.val (.long p1), .second, .val (.long p2), .second, .val (.int p3), .val (.int p4), .val (.int kk), .val (.ref ty), .val (.int at_), .val (.ref kb), .unset, .unset] [(.int (at_ + (1 : Int32))), (.ref kb)])) _
    refine XS.lloadN X79.here hx rfl (hb hby at_177) rfl ?_
    show Steps p.tables e below (T79.setTop (mkF m 178 #[.val (.long p1), .second, .val (.long p2), .second, .val (.int p3), .val (.int p4), .val (.int kk), .val (.ref ty), .val (.int at_), .val (.ref kb), .unset, .unset] [(.long p1), (.int (at_ + (1 : Int32))), (.ref kb)])) _
    refine XS.bipush X79.here hx rfl (hb hby at_178) ?_
    show Steps p.tables e below (T79.setTop (mkF m 180 #[.val (.long p1), .second, .val (.long p2), .second, .val (.int p3), .val (.int p4), .val (.int kk), .val (.ref ty), .val (.int at_), .val (.ref kb), .unset, .unset] [(.int (48 : Int32)), (.long p1), (.int (at_ + (1 : Int32))), (.ref kb)])) _
    refine XS.lushr X79.here hx rfl (hb hby at_180) rfl ?_
    show Steps p.tables e below (T79.setTop (mkF m 181 #[.val (.long p1), .second, .val (.long p2), .second, .val (.int p3), .val (.int p4), .val (.int kk), .val (.ref ty), .val (.int at_), .val (.ref kb), .unset, .unset] [(.long ((p1.toUInt64 >>> ((48 : Int32) &&& 0x3f).toInt64.toUInt64).toInt64)), (.int (at_ + (1 : Int32))), (.ref kb)])) _
    refine XS.l2i X79.here hx rfl (hb hby at_181) rfl ?_
    show Steps p.tables e below (T79.setTop (mkF m 182 #[.val (.long p1), .second, .val (.long p2), .second, .val (.int p3), .val (.int p4), .val (.int kk), .val (.ref ty), .val (.int at_), .val (.ref kb), .unset, .unset] [(.int (((p1.toUInt64 >>> ((48 : Int32) &&& 0x3f).toInt64.toUInt64).toInt64).toInt32)), (.int (at_ + (1 : Int32))), (.ref kb)])) _
    refine XS.i2b X79.here hx rfl (hb hby at_182) rfl ?_
    exact Steps.refl _)
  have xv1 : ((((p1.toUInt64 >>> ((48 : Int32) &&& 0x3f).toInt64.toUInt64).toInt64).toInt32).toInt8.toInt32) = own_b (own_up p1 48) := rfl
  rw [xv1] at pre80
  obtain ⟨cl81, Ar81, S81, M81, H81⟩ := id F79
  have hin81 : ¬ ((at_ + (1 : Int32)) < 0 ∨ cl81.slots.size ≤ ((at_ + (1 : Int32))).toNatClampNeg) := inb_of S81 lh1
  obtain ⟨T81, h81, X81, e81, W81, st81⟩ := stB X79 hx hZ e79 Ar81 (j := (at_ + (1 : Int32))) hin81 (g := (mkF m 183 #[.val (.long p1), .second, .val (.long p2), .second, .val (.int p3), .val (.int p4), .val (.int kk), .val (.ref ty), .val (.int at_), .val (.ref kb), .unset, .unset] [(.int (own_b (own_up p1 48))), (.int (at_ + (1 : Int32))), (.ref kb)])) rfl rfl (hb hby at_183)
  have F81 := Far.set Ar81 S81 M81 H81 W81
  have N81 := Fr.snoc X81 N79 g_kb
  have Z81 : n0 ≤ h81.size := Nat.le_trans Z79 (Keep.of_wr W81).1
  have pre81 : Steps p.tables e below _ (T81.setTop (mkF m 184 #[.val (.long p1), .second, .val (.long p2), .second, .val (.int p3), .val (.int p4), .val (.int kk), .val (.ref ty), .val (.int at_), .val (.ref kb), .unset, .unset] [])) := pre80.trans (st81 _ (Steps.refl _))
  have pre82 : Steps p.tables e below _ (T81.setTop (mkF m 196 #[.val (.long p1), .second, .val (.long p2), .second, .val (.int p3), .val (.int p4), .val (.int kk), .val (.ref ty), .val (.int at_), .val (.ref kb), .unset, .unset] [(.int ((((p1.toUInt64 >>> ((40 : Int32) &&& 0x3f).toInt64.toUInt64).toInt64).toInt32).toInt8.toInt32)), (.int (at_ + (2 : Int32))), (.ref kb)])) := pre81.trans (by
    show Steps p.tables e below (T81.setTop (mkF m 184 #[.val (.long p1), .second, .val (.long p2), .second, .val (.int p3), .val (.int p4), .val (.int kk), .val (.ref ty), .val (.int at_), .val (.ref kb), .unset, .unset] [])) _
    refine XS.aload X81.here hx rfl (hb hby at_184) rfl rfl ?_
    show Steps p.tables e below (T81.setTop (mkF m 186 #[.val (.long p1), .second, .val (.long p2), .second, .val (.int p3), .val (.int p4), .val (.int kk), .val (.ref ty), .val (.int at_), .val (.ref kb), .unset, .unset] [(.ref kb)])) _
    refine XS.iload X81.here hx rfl (hb hby at_186) rfl ?_
    show Steps p.tables e below (T81.setTop (mkF m 188 #[.val (.long p1), .second, .val (.long p2), .second, .val (.int p3), .val (.int p4), .val (.int kk), .val (.ref ty), .val (.int at_), .val (.ref kb), .unset, .unset] [(.int at_), (.ref kb)])) _
    refine XS.iconst X81.here hx rfl (hb hby at_188) ?_
    show Steps p.tables e below (T81.setTop (mkF m 189 #[.val (.long p1), .second, .val (.long p2), .second, .val (.int p3), .val (.int p4), .val (.int kk), .val (.ref ty), .val (.int at_), .val (.ref kb), .unset, .unset] [(.int (2 : Int32)), (.int at_), (.ref kb)])) _
    refine XS.iadd X81.here hx rfl (hb hby at_189) rfl ?_
    show Steps p.tables e below (T81.setTop (mkF m 190 #[.val (.long p1), .second, .val (.long p2), .second, .val (.int p3), .val (.int p4), .val (.int kk), .val (.ref ty), .val (.int at_), .val (.ref kb), .unset, .unset] [(.int (at_ + (2 : Int32))), (.ref kb)])) _
    refine XS.lloadN X81.here hx rfl (hb hby at_190) rfl ?_
    show Steps p.tables e below (T81.setTop (mkF m 191 #[.val (.long p1), .second, .val (.long p2), .second, .val (.int p3), .val (.int p4), .val (.int kk), .val (.ref ty), .val (.int at_), .val (.ref kb), .unset, .unset] [(.long p1), (.int (at_ + (2 : Int32))), (.ref kb)])) _
    refine XS.bipush X81.here hx rfl (hb hby at_191) ?_
    show Steps p.tables e below (T81.setTop (mkF m 193 #[.val (.long p1), .second, .val (.long p2), .second, .val (.int p3), .val (.int p4), .val (.int kk), .val (.ref ty), .val (.int at_), .val (.ref kb), .unset, .unset] [(.int (40 : Int32)), (.long p1), (.int (at_ + (2 : Int32))), (.ref kb)])) _
    refine XS.lushr X81.here hx rfl (hb hby at_193) rfl ?_
    show Steps p.tables e below (T81.setTop (mkF m 194 #[.val (.long p1), .second, .val (.long p2), .second, .val (.int p3), .val (.int p4), .val (.int kk), .val (.ref ty), .val (.int at_), .val (.ref kb), .unset, .unset] [(.long ((p1.toUInt64 >>> ((40 : Int32) &&& 0x3f).toInt64.toUInt64).toInt64)), (.int (at_ + (2 : Int32))), (.ref kb)])) _
    refine XS.l2i X81.here hx rfl (hb hby at_194) rfl ?_
    show Steps p.tables e below (T81.setTop (mkF m 195 #[.val (.long p1), .second, .val (.long p2), .second, .val (.int p3), .val (.int p4), .val (.int kk), .val (.ref ty), .val (.int at_), .val (.ref kb), .unset, .unset] [(.int (((p1.toUInt64 >>> ((40 : Int32) &&& 0x3f).toInt64.toUInt64).toInt64).toInt32)), (.int (at_ + (2 : Int32))), (.ref kb)])) _
    refine XS.i2b X81.here hx rfl (hb hby at_195) rfl ?_
    exact Steps.refl _)
  have xv2 : ((((p1.toUInt64 >>> ((40 : Int32) &&& 0x3f).toInt64.toUInt64).toInt64).toInt32).toInt8.toInt32) = own_b (own_up p1 40) := rfl
  rw [xv2] at pre82
  obtain ⟨cl83, Ar83, S83, M83, H83⟩ := id F81
  have hin83 : ¬ ((at_ + (2 : Int32)) < 0 ∨ cl83.slots.size ≤ ((at_ + (2 : Int32))).toNatClampNeg) := inb_of S83 lh2
  obtain ⟨T83, h83, X83, e83, W83, st83⟩ := stB X81 hx hZ e81 Ar83 (j := (at_ + (2 : Int32))) hin83 (g := (mkF m 196 #[.val (.long p1), .second, .val (.long p2), .second, .val (.int p3), .val (.int p4), .val (.int kk), .val (.ref ty), .val (.int at_), .val (.ref kb), .unset, .unset] [(.int (own_b (own_up p1 40))), (.int (at_ + (2 : Int32))), (.ref kb)])) rfl rfl (hb hby at_196)
  have F83 := Far.set Ar83 S83 M83 H83 W83
  have N83 := Fr.snoc X83 N81 g_kb
  have Z83 : n0 ≤ h83.size := Nat.le_trans Z81 (Keep.of_wr W83).1
  have pre83 : Steps p.tables e below _ (T83.setTop (mkF m 197 #[.val (.long p1), .second, .val (.long p2), .second, .val (.int p3), .val (.int p4), .val (.int kk), .val (.ref ty), .val (.int at_), .val (.ref kb), .unset, .unset] [])) := pre82.trans (st83 _ (Steps.refl _))
  have pre84 : Steps p.tables e below _ (T83.setTop (mkF m 209 #[.val (.long p1), .second, .val (.long p2), .second, .val (.int p3), .val (.int p4), .val (.int kk), .val (.ref ty), .val (.int at_), .val (.ref kb), .unset, .unset] [(.int ((((p1.toUInt64 >>> ((32 : Int32) &&& 0x3f).toInt64.toUInt64).toInt64).toInt32).toInt8.toInt32)), (.int (at_ + (3 : Int32))), (.ref kb)])) := pre83.trans (by
    show Steps p.tables e below (T83.setTop (mkF m 197 #[.val (.long p1), .second, .val (.long p2), .second, .val (.int p3), .val (.int p4), .val (.int kk), .val (.ref ty), .val (.int at_), .val (.ref kb), .unset, .unset] [])) _
    refine XS.aload X83.here hx rfl (hb hby at_197) rfl rfl ?_
    show Steps p.tables e below (T83.setTop (mkF m 199 #[.val (.long p1), .second, .val (.long p2), .second, .val (.int p3), .val (.int p4), .val (.int kk), .val (.ref ty), .val (.int at_), .val (.ref kb), .unset, .unset] [(.ref kb)])) _
    refine XS.iload X83.here hx rfl (hb hby at_199) rfl ?_
    show Steps p.tables e below (T83.setTop (mkF m 201 #[.val (.long p1), .second, .val (.long p2), .second, .val (.int p3), .val (.int p4), .val (.int kk), .val (.ref ty), .val (.int at_), .val (.ref kb), .unset, .unset] [(.int at_), (.ref kb)])) _
    refine XS.iconst X83.here hx rfl (hb hby at_201) ?_
    show Steps p.tables e below (T83.setTop (mkF m 202 #[.val (.long p1), .second, .val (.long p2), .second, .val (.int p3), .val (.int p4), .val (.int kk), .val (.ref ty), .val (.int at_), .val (.ref kb), .unset, .unset] [(.int (3 : Int32)), (.int at_), (.ref kb)])) _
    refine XS.iadd X83.here hx rfl (hb hby at_202) rfl ?_
    show Steps p.tables e below (T83.setTop (mkF m 203 #[.val (.long p1), .second, .val (.long p2), .second, .val (.int p3), .val (.int p4), .val (.int kk), .val (.ref ty), .val (.int at_), .val (.ref kb), .unset, .unset] [(.int (at_ + (3 : Int32))), (.ref kb)])) _
    refine XS.lloadN X83.here hx rfl (hb hby at_203) rfl ?_
    show Steps p.tables e below (T83.setTop (mkF m 204 #[.val (.long p1), .second, .val (.long p2), .second, .val (.int p3), .val (.int p4), .val (.int kk), .val (.ref ty), .val (.int at_), .val (.ref kb), .unset, .unset] [(.long p1), (.int (at_ + (3 : Int32))), (.ref kb)])) _
    refine XS.bipush X83.here hx rfl (hb hby at_204) ?_
    show Steps p.tables e below (T83.setTop (mkF m 206 #[.val (.long p1), .second, .val (.long p2), .second, .val (.int p3), .val (.int p4), .val (.int kk), .val (.ref ty), .val (.int at_), .val (.ref kb), .unset, .unset] [(.int (32 : Int32)), (.long p1), (.int (at_ + (3 : Int32))), (.ref kb)])) _
    refine XS.lushr X83.here hx rfl (hb hby at_206) rfl ?_
    show Steps p.tables e below (T83.setTop (mkF m 207 #[.val (.long p1), .second, .val (.long p2), .second, .val (.int p3), .val (.int p4), .val (.int kk), .val (.ref ty), .val (.int at_), .val (.ref kb), .unset, .unset] [(.long ((p1.toUInt64 >>> ((32 : Int32) &&& 0x3f).toInt64.toUInt64).toInt64)), (.int (at_ + (3 : Int32))), (.ref kb)])) _
    refine XS.l2i X83.here hx rfl (hb hby at_207) rfl ?_
    show Steps p.tables e below (T83.setTop (mkF m 208 #[.val (.long p1), .second, .val (.long p2), .second, .val (.int p3), .val (.int p4), .val (.int kk), .val (.ref ty), .val (.int at_), .val (.ref kb), .unset, .unset] [(.int (((p1.toUInt64 >>> ((32 : Int32) &&& 0x3f).toInt64.toUInt64).toInt64).toInt32)), (.int (at_ + (3 : Int32))), (.ref kb)])) _
    refine XS.i2b X83.here hx rfl (hb hby at_208) rfl ?_
    exact Steps.refl _)
  have xv3 : ((((p1.toUInt64 >>> ((32 : Int32) &&& 0x3f).toInt64.toUInt64).toInt64).toInt32).toInt8.toInt32) = own_b (own_up p1 32) := rfl
  rw [xv3] at pre84
  obtain ⟨cl85, Ar85, S85, M85, H85⟩ := id F83
  have hin85 : ¬ ((at_ + (3 : Int32)) < 0 ∨ cl85.slots.size ≤ ((at_ + (3 : Int32))).toNatClampNeg) := inb_of S85 lh3
  obtain ⟨T85, h85, X85, e85, W85, st85⟩ := stB X83 hx hZ e83 Ar85 (j := (at_ + (3 : Int32))) hin85 (g := (mkF m 209 #[.val (.long p1), .second, .val (.long p2), .second, .val (.int p3), .val (.int p4), .val (.int kk), .val (.ref ty), .val (.int at_), .val (.ref kb), .unset, .unset] [(.int (own_b (own_up p1 32))), (.int (at_ + (3 : Int32))), (.ref kb)])) rfl rfl (hb hby at_209)
  have F85 := Far.set Ar85 S85 M85 H85 W85
  have N85 := Fr.snoc X85 N83 g_kb
  have Z85 : n0 ≤ h85.size := Nat.le_trans Z83 (Keep.of_wr W85).1
  have pre85 : Steps p.tables e below _ (T85.setTop (mkF m 210 #[.val (.long p1), .second, .val (.long p2), .second, .val (.int p3), .val (.int p4), .val (.int kk), .val (.ref ty), .val (.int at_), .val (.ref kb), .unset, .unset] [])) := pre84.trans (st85 _ (Steps.refl _))
  obtain ⟨lc86, X86, N86⟩ : ∃ lc : List Loc, Stand p l e room_1 s m #[(.long p1), (.long p2), (.int p3), (.int p4)] below meth c T85 lc 1 11 ∧ Fr n0 lc := ⟨_, X85, N85⟩
  have pre87 : Steps p.tables e below _ (T85.setTop (mkF m 222 #[.val (.long p1), .second, .val (.long p2), .second, .val (.int p3), .val (.int p4), .val (.int kk), .val (.ref ty), .val (.int at_), .val (.ref kb), .unset, .unset] [(.int ((((p1.toUInt64 >>> ((24 : Int32) &&& 0x3f).toInt64.toUInt64).toInt64).toInt32).toInt8.toInt32)), (.int (at_ + (4 : Int32))), (.ref kb)])) := pre85.trans (by
    show Steps p.tables e below (T85.setTop (mkF m 210 #[.val (.long p1), .second, .val (.long p2), .second, .val (.int p3), .val (.int p4), .val (.int kk), .val (.ref ty), .val (.int at_), .val (.ref kb), .unset, .unset] [])) _
    refine XS.aload X86.here hx rfl (hb hby at_210) rfl rfl ?_
    show Steps p.tables e below (T85.setTop (mkF m 212 #[.val (.long p1), .second, .val (.long p2), .second, .val (.int p3), .val (.int p4), .val (.int kk), .val (.ref ty), .val (.int at_), .val (.ref kb), .unset, .unset] [(.ref kb)])) _
    refine XS.iload X86.here hx rfl (hb hby at_212) rfl ?_
    show Steps p.tables e below (T85.setTop (mkF m 214 #[.val (.long p1), .second, .val (.long p2), .second, .val (.int p3), .val (.int p4), .val (.int kk), .val (.ref ty), .val (.int at_), .val (.ref kb), .unset, .unset] [(.int at_), (.ref kb)])) _
    refine XS.iconst X86.here hx rfl (hb hby at_214) ?_
    show Steps p.tables e below (T85.setTop (mkF m 215 #[.val (.long p1), .second, .val (.long p2), .second, .val (.int p3), .val (.int p4), .val (.int kk), .val (.ref ty), .val (.int at_), .val (.ref kb), .unset, .unset] [(.int (4 : Int32)), (.int at_), (.ref kb)])) _
    refine XS.iadd X86.here hx rfl (hb hby at_215) rfl ?_
    show Steps p.tables e below (T85.setTop (mkF m 216 #[.val (.long p1), .second, .val (.long p2), .second, .val (.int p3), .val (.int p4), .val (.int kk), .val (.ref ty), .val (.int at_), .val (.ref kb), .unset, .unset] [(.int (at_ + (4 : Int32))), (.ref kb)])) _
    refine XS.lloadN X86.here hx rfl (hb hby at_216) rfl ?_
    show Steps p.tables e below (T85.setTop (mkF m 217 #[.val (.long p1), .second, .val (.long p2), .second, .val (.int p3), .val (.int p4), .val (.int kk), .val (.ref ty), .val (.int at_), .val (.ref kb), .unset, .unset] [(.long p1), (.int (at_ + (4 : Int32))), (.ref kb)])) _
    refine XS.bipush X86.here hx rfl (hb hby at_217) ?_
    show Steps p.tables e below (T85.setTop (mkF m 219 #[.val (.long p1), .second, .val (.long p2), .second, .val (.int p3), .val (.int p4), .val (.int kk), .val (.ref ty), .val (.int at_), .val (.ref kb), .unset, .unset] [(.int (24 : Int32)), (.long p1), (.int (at_ + (4 : Int32))), (.ref kb)])) _
    refine XS.lushr X86.here hx rfl (hb hby at_219) rfl ?_
    show Steps p.tables e below (T85.setTop (mkF m 220 #[.val (.long p1), .second, .val (.long p2), .second, .val (.int p3), .val (.int p4), .val (.int kk), .val (.ref ty), .val (.int at_), .val (.ref kb), .unset, .unset] [(.long ((p1.toUInt64 >>> ((24 : Int32) &&& 0x3f).toInt64.toUInt64).toInt64)), (.int (at_ + (4 : Int32))), (.ref kb)])) _
    refine XS.l2i X86.here hx rfl (hb hby at_220) rfl ?_
    show Steps p.tables e below (T85.setTop (mkF m 221 #[.val (.long p1), .second, .val (.long p2), .second, .val (.int p3), .val (.int p4), .val (.int kk), .val (.ref ty), .val (.int at_), .val (.ref kb), .unset, .unset] [(.int (((p1.toUInt64 >>> ((24 : Int32) &&& 0x3f).toInt64.toUInt64).toInt64).toInt32)), (.int (at_ + (4 : Int32))), (.ref kb)])) _
    refine XS.i2b X86.here hx rfl (hb hby at_221) rfl ?_
    exact Steps.refl _)
  have xv4 : ((((p1.toUInt64 >>> ((24 : Int32) &&& 0x3f).toInt64.toUInt64).toInt64).toInt32).toInt8.toInt32) = own_b (own_up p1 24) := rfl
  rw [xv4] at pre87
  obtain ⟨cl88, Ar88, S88, M88, H88⟩ := id F85
  have hin88 : ¬ ((at_ + (4 : Int32)) < 0 ∨ cl88.slots.size ≤ ((at_ + (4 : Int32))).toNatClampNeg) := inb_of S88 lh4
  obtain ⟨T88, h88, X88, e88, W88, st88⟩ := stB X86 hx hZ e85 Ar88 (j := (at_ + (4 : Int32))) hin88 (g := (mkF m 222 #[.val (.long p1), .second, .val (.long p2), .second, .val (.int p3), .val (.int p4), .val (.int kk), .val (.ref ty), .val (.int at_), .val (.ref kb), .unset, .unset] [(.int (own_b (own_up p1 24))), (.int (at_ + (4 : Int32))), (.ref kb)])) rfl rfl (hb hby at_222)
  have F88 := Far.set Ar88 S88 M88 H88 W88
  have N88 := Fr.snoc X88 N86 g_kb
  have Z88 : n0 ≤ h88.size := Nat.le_trans Z85 (Keep.of_wr W88).1
  have pre88 : Steps p.tables e below _ (T88.setTop (mkF m 223 #[.val (.long p1), .second, .val (.long p2), .second, .val (.int p3), .val (.int p4), .val (.int kk), .val (.ref ty), .val (.int at_), .val (.ref kb), .unset, .unset] [])) := pre87.trans (st88 _ (Steps.refl _))
  have pre89 : Steps p.tables e below _ (T88.setTop (mkF m 235 #[.val (.long p1), .second, .val (.long p2), .second, .val (.int p3), .val (.int p4), .val (.int kk), .val (.ref ty), .val (.int at_), .val (.ref kb), .unset, .unset] [(.int ((((p1.toUInt64 >>> ((16 : Int32) &&& 0x3f).toInt64.toUInt64).toInt64).toInt32).toInt8.toInt32)), (.int (at_ + (5 : Int32))), (.ref kb)])) := pre88.trans (by
    show Steps p.tables e below (T88.setTop (mkF m 223 #[.val (.long p1), .second, .val (.long p2), .second, .val (.int p3), .val (.int p4), .val (.int kk), .val (.ref ty), .val (.int at_), .val (.ref kb), .unset, .unset] [])) _
    refine XS.aload X88.here hx rfl (hb hby at_223) rfl rfl ?_
    show Steps p.tables e below (T88.setTop (mkF m 225 #[.val (.long p1), .second, .val (.long p2), .second, .val (.int p3), .val (.int p4), .val (.int kk), .val (.ref ty), .val (.int at_), .val (.ref kb), .unset, .unset] [(.ref kb)])) _
    refine XS.iload X88.here hx rfl (hb hby at_225) rfl ?_
    show Steps p.tables e below (T88.setTop (mkF m 227 #[.val (.long p1), .second, .val (.long p2), .second, .val (.int p3), .val (.int p4), .val (.int kk), .val (.ref ty), .val (.int at_), .val (.ref kb), .unset, .unset] [(.int at_), (.ref kb)])) _
    refine XS.iconst X88.here hx rfl (hb hby at_227) ?_
    show Steps p.tables e below (T88.setTop (mkF m 228 #[.val (.long p1), .second, .val (.long p2), .second, .val (.int p3), .val (.int p4), .val (.int kk), .val (.ref ty), .val (.int at_), .val (.ref kb), .unset, .unset] [(.int (5 : Int32)), (.int at_), (.ref kb)])) _
    refine XS.iadd X88.here hx rfl (hb hby at_228) rfl ?_
    show Steps p.tables e below (T88.setTop (mkF m 229 #[.val (.long p1), .second, .val (.long p2), .second, .val (.int p3), .val (.int p4), .val (.int kk), .val (.ref ty), .val (.int at_), .val (.ref kb), .unset, .unset] [(.int (at_ + (5 : Int32))), (.ref kb)])) _
    refine XS.lloadN X88.here hx rfl (hb hby at_229) rfl ?_
    show Steps p.tables e below (T88.setTop (mkF m 230 #[.val (.long p1), .second, .val (.long p2), .second, .val (.int p3), .val (.int p4), .val (.int kk), .val (.ref ty), .val (.int at_), .val (.ref kb), .unset, .unset] [(.long p1), (.int (at_ + (5 : Int32))), (.ref kb)])) _
    refine XS.bipush X88.here hx rfl (hb hby at_230) ?_
    show Steps p.tables e below (T88.setTop (mkF m 232 #[.val (.long p1), .second, .val (.long p2), .second, .val (.int p3), .val (.int p4), .val (.int kk), .val (.ref ty), .val (.int at_), .val (.ref kb), .unset, .unset] [(.int (16 : Int32)), (.long p1), (.int (at_ + (5 : Int32))), (.ref kb)])) _
    refine XS.lushr X88.here hx rfl (hb hby at_232) rfl ?_
    show Steps p.tables e below (T88.setTop (mkF m 233 #[.val (.long p1), .second, .val (.long p2), .second, .val (.int p3), .val (.int p4), .val (.int kk), .val (.ref ty), .val (.int at_), .val (.ref kb), .unset, .unset] [(.long ((p1.toUInt64 >>> ((16 : Int32) &&& 0x3f).toInt64.toUInt64).toInt64)), (.int (at_ + (5 : Int32))), (.ref kb)])) _
    refine XS.l2i X88.here hx rfl (hb hby at_233) rfl ?_
    show Steps p.tables e below (T88.setTop (mkF m 234 #[.val (.long p1), .second, .val (.long p2), .second, .val (.int p3), .val (.int p4), .val (.int kk), .val (.ref ty), .val (.int at_), .val (.ref kb), .unset, .unset] [(.int (((p1.toUInt64 >>> ((16 : Int32) &&& 0x3f).toInt64.toUInt64).toInt64).toInt32)), (.int (at_ + (5 : Int32))), (.ref kb)])) _
    refine XS.i2b X88.here hx rfl (hb hby at_234) rfl ?_
    exact Steps.refl _)
  have xv5 : ((((p1.toUInt64 >>> ((16 : Int32) &&& 0x3f).toInt64.toUInt64).toInt64).toInt32).toInt8.toInt32) = own_b (own_up p1 16) := rfl
  rw [xv5] at pre89
  obtain ⟨cl90, Ar90, S90, M90, H90⟩ := id F88
  have hin90 : ¬ ((at_ + (5 : Int32)) < 0 ∨ cl90.slots.size ≤ ((at_ + (5 : Int32))).toNatClampNeg) := inb_of S90 lh5
  obtain ⟨T90, h90, X90, e90, W90, st90⟩ := stB X88 hx hZ e88 Ar90 (j := (at_ + (5 : Int32))) hin90 (g := (mkF m 235 #[.val (.long p1), .second, .val (.long p2), .second, .val (.int p3), .val (.int p4), .val (.int kk), .val (.ref ty), .val (.int at_), .val (.ref kb), .unset, .unset] [(.int (own_b (own_up p1 16))), (.int (at_ + (5 : Int32))), (.ref kb)])) rfl rfl (hb hby at_235)
  have F90 := Far.set Ar90 S90 M90 H90 W90
  have N90 := Fr.snoc X90 N88 g_kb
  have Z90 : n0 ≤ h90.size := Nat.le_trans Z88 (Keep.of_wr W90).1
  have pre90 : Steps p.tables e below _ (T90.setTop (mkF m 236 #[.val (.long p1), .second, .val (.long p2), .second, .val (.int p3), .val (.int p4), .val (.int kk), .val (.ref ty), .val (.int at_), .val (.ref kb), .unset, .unset] [])) := pre89.trans (st90 _ (Steps.refl _))
  have pre91 : Steps p.tables e below _ (T90.setTop (mkF m 249 #[.val (.long p1), .second, .val (.long p2), .second, .val (.int p3), .val (.int p4), .val (.int kk), .val (.ref ty), .val (.int at_), .val (.ref kb), .unset, .unset] [(.int ((((p1.toUInt64 >>> ((8 : Int32) &&& 0x3f).toInt64.toUInt64).toInt64).toInt32).toInt8.toInt32)), (.int (at_ + (6 : Int32))), (.ref kb)])) := pre90.trans (by
    show Steps p.tables e below (T90.setTop (mkF m 236 #[.val (.long p1), .second, .val (.long p2), .second, .val (.int p3), .val (.int p4), .val (.int kk), .val (.ref ty), .val (.int at_), .val (.ref kb), .unset, .unset] [])) _
    refine XS.aload X90.here hx rfl (hb hby at_236) rfl rfl ?_
    show Steps p.tables e below (T90.setTop (mkF m 238 #[.val (.long p1), .second, .val (.long p2), .second, .val (.int p3), .val (.int p4), .val (.int kk), .val (.ref ty), .val (.int at_), .val (.ref kb), .unset, .unset] [(.ref kb)])) _
    refine XS.iload X90.here hx rfl (hb hby at_238) rfl ?_
    show Steps p.tables e below (T90.setTop (mkF m 240 #[.val (.long p1), .second, .val (.long p2), .second, .val (.int p3), .val (.int p4), .val (.int kk), .val (.ref ty), .val (.int at_), .val (.ref kb), .unset, .unset] [(.int at_), (.ref kb)])) _
    refine XS.bipush X90.here hx rfl (hb hby at_240) ?_
    show Steps p.tables e below (T90.setTop (mkF m 242 #[.val (.long p1), .second, .val (.long p2), .second, .val (.int p3), .val (.int p4), .val (.int kk), .val (.ref ty), .val (.int at_), .val (.ref kb), .unset, .unset] [(.int (6 : Int32)), (.int at_), (.ref kb)])) _
    refine XS.iadd X90.here hx rfl (hb hby at_242) rfl ?_
    show Steps p.tables e below (T90.setTop (mkF m 243 #[.val (.long p1), .second, .val (.long p2), .second, .val (.int p3), .val (.int p4), .val (.int kk), .val (.ref ty), .val (.int at_), .val (.ref kb), .unset, .unset] [(.int (at_ + (6 : Int32))), (.ref kb)])) _
    refine XS.lloadN X90.here hx rfl (hb hby at_243) rfl ?_
    show Steps p.tables e below (T90.setTop (mkF m 244 #[.val (.long p1), .second, .val (.long p2), .second, .val (.int p3), .val (.int p4), .val (.int kk), .val (.ref ty), .val (.int at_), .val (.ref kb), .unset, .unset] [(.long p1), (.int (at_ + (6 : Int32))), (.ref kb)])) _
    refine XS.bipush X90.here hx rfl (hb hby at_244) ?_
    show Steps p.tables e below (T90.setTop (mkF m 246 #[.val (.long p1), .second, .val (.long p2), .second, .val (.int p3), .val (.int p4), .val (.int kk), .val (.ref ty), .val (.int at_), .val (.ref kb), .unset, .unset] [(.int (8 : Int32)), (.long p1), (.int (at_ + (6 : Int32))), (.ref kb)])) _
    refine XS.lushr X90.here hx rfl (hb hby at_246) rfl ?_
    show Steps p.tables e below (T90.setTop (mkF m 247 #[.val (.long p1), .second, .val (.long p2), .second, .val (.int p3), .val (.int p4), .val (.int kk), .val (.ref ty), .val (.int at_), .val (.ref kb), .unset, .unset] [(.long ((p1.toUInt64 >>> ((8 : Int32) &&& 0x3f).toInt64.toUInt64).toInt64)), (.int (at_ + (6 : Int32))), (.ref kb)])) _
    refine XS.l2i X90.here hx rfl (hb hby at_247) rfl ?_
    show Steps p.tables e below (T90.setTop (mkF m 248 #[.val (.long p1), .second, .val (.long p2), .second, .val (.int p3), .val (.int p4), .val (.int kk), .val (.ref ty), .val (.int at_), .val (.ref kb), .unset, .unset] [(.int (((p1.toUInt64 >>> ((8 : Int32) &&& 0x3f).toInt64.toUInt64).toInt64).toInt32)), (.int (at_ + (6 : Int32))), (.ref kb)])) _
    refine XS.i2b X90.here hx rfl (hb hby at_248) rfl ?_
    exact Steps.refl _)
  have xv6 : ((((p1.toUInt64 >>> ((8 : Int32) &&& 0x3f).toInt64.toUInt64).toInt64).toInt32).toInt8.toInt32) = own_b (own_up p1 8) := rfl
  rw [xv6] at pre91
  obtain ⟨cl92, Ar92, S92, M92, H92⟩ := id F90
  have hin92 : ¬ ((at_ + (6 : Int32)) < 0 ∨ cl92.slots.size ≤ ((at_ + (6 : Int32))).toNatClampNeg) := inb_of S92 lh6
  obtain ⟨T92, h92, X92, e92, W92, st92⟩ := stB X90 hx hZ e90 Ar92 (j := (at_ + (6 : Int32))) hin92 (g := (mkF m 249 #[.val (.long p1), .second, .val (.long p2), .second, .val (.int p3), .val (.int p4), .val (.int kk), .val (.ref ty), .val (.int at_), .val (.ref kb), .unset, .unset] [(.int (own_b (own_up p1 8))), (.int (at_ + (6 : Int32))), (.ref kb)])) rfl rfl (hb hby at_249)
  have F92 := Far.set Ar92 S92 M92 H92 W92
  have N92 := Fr.snoc X92 N90 g_kb
  have Z92 : n0 ≤ h92.size := Nat.le_trans Z90 (Keep.of_wr W92).1
  have pre92 : Steps p.tables e below _ (T92.setTop (mkF m 250 #[.val (.long p1), .second, .val (.long p2), .second, .val (.int p3), .val (.int p4), .val (.int kk), .val (.ref ty), .val (.int at_), .val (.ref kb), .unset, .unset] [])) := pre91.trans (st92 _ (Steps.refl _))
  have pre93 : Steps p.tables e below _ (T92.setTop (mkF m 260 #[.val (.long p1), .second, .val (.long p2), .second, .val (.int p3), .val (.int p4), .val (.int kk), .val (.ref ty), .val (.int at_), .val (.ref kb), .unset, .unset] [(.int ((p1.toInt32).toInt8.toInt32)), (.int (at_ + (7 : Int32))), (.ref kb)])) := pre92.trans (by
    show Steps p.tables e below (T92.setTop (mkF m 250 #[.val (.long p1), .second, .val (.long p2), .second, .val (.int p3), .val (.int p4), .val (.int kk), .val (.ref ty), .val (.int at_), .val (.ref kb), .unset, .unset] [])) _
    refine XS.aload X92.here hx rfl (hb hby at_250) rfl rfl ?_
    show Steps p.tables e below (T92.setTop (mkF m 252 #[.val (.long p1), .second, .val (.long p2), .second, .val (.int p3), .val (.int p4), .val (.int kk), .val (.ref ty), .val (.int at_), .val (.ref kb), .unset, .unset] [(.ref kb)])) _
    refine XS.iload X92.here hx rfl (hb hby at_252) rfl ?_
    show Steps p.tables e below (T92.setTop (mkF m 254 #[.val (.long p1), .second, .val (.long p2), .second, .val (.int p3), .val (.int p4), .val (.int kk), .val (.ref ty), .val (.int at_), .val (.ref kb), .unset, .unset] [(.int at_), (.ref kb)])) _
    refine XS.bipush X92.here hx rfl (hb hby at_254) ?_
    show Steps p.tables e below (T92.setTop (mkF m 256 #[.val (.long p1), .second, .val (.long p2), .second, .val (.int p3), .val (.int p4), .val (.int kk), .val (.ref ty), .val (.int at_), .val (.ref kb), .unset, .unset] [(.int (7 : Int32)), (.int at_), (.ref kb)])) _
    refine XS.iadd X92.here hx rfl (hb hby at_256) rfl ?_
    show Steps p.tables e below (T92.setTop (mkF m 257 #[.val (.long p1), .second, .val (.long p2), .second, .val (.int p3), .val (.int p4), .val (.int kk), .val (.ref ty), .val (.int at_), .val (.ref kb), .unset, .unset] [(.int (at_ + (7 : Int32))), (.ref kb)])) _
    refine XS.lloadN X92.here hx rfl (hb hby at_257) rfl ?_
    show Steps p.tables e below (T92.setTop (mkF m 258 #[.val (.long p1), .second, .val (.long p2), .second, .val (.int p3), .val (.int p4), .val (.int kk), .val (.ref ty), .val (.int at_), .val (.ref kb), .unset, .unset] [(.long p1), (.int (at_ + (7 : Int32))), (.ref kb)])) _
    refine XS.l2i X92.here hx rfl (hb hby at_258) rfl ?_
    show Steps p.tables e below (T92.setTop (mkF m 259 #[.val (.long p1), .second, .val (.long p2), .second, .val (.int p3), .val (.int p4), .val (.int kk), .val (.ref ty), .val (.int at_), .val (.ref kb), .unset, .unset] [(.int (p1.toInt32)), (.int (at_ + (7 : Int32))), (.ref kb)])) _
    refine XS.i2b X92.here hx rfl (hb hby at_259) rfl ?_
    exact Steps.refl _)
  have xv7 : ((p1.toInt32).toInt8.toInt32) = own_b (own_up p1 0) := by rw [own_up_0]; rfl
  rw [xv7] at pre93
  obtain ⟨cl94, Ar94, S94, M94, H94⟩ := id F92
  have hin94 : ¬ ((at_ + (7 : Int32)) < 0 ∨ cl94.slots.size ≤ ((at_ + (7 : Int32))).toNatClampNeg) := inb_of S94 lh7
  obtain ⟨T94, h94, X94, e94, W94, st94⟩ := stB X92 hx hZ e92 Ar94 (j := (at_ + (7 : Int32))) hin94 (g := (mkF m 260 #[.val (.long p1), .second, .val (.long p2), .second, .val (.int p3), .val (.int p4), .val (.int kk), .val (.ref ty), .val (.int at_), .val (.ref kb), .unset, .unset] [(.int (own_b (own_up p1 0))), (.int (at_ + (7 : Int32))), (.ref kb)])) rfl rfl (hb hby at_260)
  have F94 := Far.set Ar94 S94 M94 H94 W94
  have N94 := Fr.snoc X94 N92 g_kb
  have Z94 : n0 ≤ h94.size := Nat.le_trans Z92 (Keep.of_wr W94).1
  have pre94 : Steps p.tables e below _ (T94.setTop (mkF m 261 #[.val (.long p1), .second, .val (.long p2), .second, .val (.int p3), .val (.int p4), .val (.int kk), .val (.ref ty), .val (.int at_), .val (.ref kb), .unset, .unset] [])) := pre93.trans (st94 _ (Steps.refl _))
  obtain ⟨lc95, X95, N95⟩ : ∃ lc : List Loc, Stand p l e room_1 s m #[(.long p1), (.long p2), (.int p3), (.int p4)] below meth c T94 lc 1 11 ∧ Fr n0 lc := ⟨_, X94, N94⟩
  have KM : Keep h0 h94 [kb] := (((((((((((((((((((((Keep.refl h0 [kb]).ext E53).wr W55 (Or.inl (List.mem_singleton.mpr rfl))).wr W57 (Or.inl (List.mem_singleton.mpr rfl))).wr W59 (Or.inl (List.mem_singleton.mpr rfl))).wr W61 (Or.inl (List.mem_singleton.mpr rfl))).wr W63 (Or.inl (List.mem_singleton.mpr rfl))).wr W66 (Or.inl (List.mem_singleton.mpr rfl))).wr W68 (Or.inl (List.mem_singleton.mpr rfl))).wr W70 (Or.inl (List.mem_singleton.mpr rfl))).wr W72 (Or.inl (List.mem_singleton.mpr rfl))).wr W74 (Or.inl (List.mem_singleton.mpr rfl))).wr W77 (Or.inl (List.mem_singleton.mpr rfl))).wr W79 (Or.inl (List.mem_singleton.mpr rfl))).wr W81 (Or.inl (List.mem_singleton.mpr rfl))).wr W83 (Or.inl (List.mem_singleton.mpr rfl))).wr W85 (Or.inl (List.mem_singleton.mpr rfl))).wr W88 (Or.inl (List.mem_singleton.mpr rfl))).wr W90 (Or.inl (List.mem_singleton.mpr rfl))).wr W92 (Or.inl (List.mem_singleton.mpr rfl))).wr W94 (Or.inl (List.mem_singleton.mpr rfl)))
  have nty : ty ∉ [kb] := fun q => absurd (List.mem_singleton.mp q) (by rw [g53]; exact Nat.ne_of_lt GA.lt)
  have GM := GA.keep KM nty
  have XM := XaA.keep KM
  have SM : Sta Z h94 "com/example/sound_schema/soundschema/Segment$Number$Type" "DESC64" "Lcom/example/sound_schema/soundschema/Segment$Number$Type;" (.ref d) := ((((((((((((((((((((S2a.ext E53).wr W55).wr W57).wr W59).wr W61).wr W63).wr W66).wr W68).wr W70).wr W72).wr W74).wr W77).wr W79).wr W81).wr W83).wr W85).wr W88).wr W90).wr W92).wr W94)
  obtain ⟨fk, h_fk, FK⟩ : ∃ fk : Nat → Int32, (∀ i : Nat, i < 8 → fk (at_.toNatClampNeg + i) = own_b (own_up p1 (56 - 8 * i))) ∧ Far Z h94 kb .byte (11 : Int32) fk := by
    refine ⟨_, fun i hi => ?_, F94⟩
    show (if at_.toNatClampNeg + i = ((at_ + (7 : Int32))).toNatClampNeg then nar .byte (own_b (own_up p1 0)) else (if at_.toNatClampNeg + i = ((at_ + (6 : Int32))).toNatClampNeg then nar .byte (own_b (own_up p1 8)) else (if at_.toNatClampNeg + i = ((at_ + (5 : Int32))).toNatClampNeg then nar .byte (own_b (own_up p1 16)) else (if at_.toNatClampNeg + i = ((at_ + (4 : Int32))).toNatClampNeg then nar .byte (own_b (own_up p1 24)) else (if at_.toNatClampNeg + i = ((at_ + (3 : Int32))).toNatClampNeg then nar .byte (own_b (own_up p1 32)) else (if at_.toNatClampNeg + i = ((at_ + (2 : Int32))).toNatClampNeg then nar .byte (own_b (own_up p1 40)) else (if at_.toNatClampNeg + i = ((at_ + (1 : Int32))).toNatClampNeg then nar .byte (own_b (own_up p1 48)) else (if at_.toNatClampNeg + i = (at_).toNatClampNeg then nar .byte (own_b (own_up p1 56)) else g0 (at_.toNatClampNeg + i))))))))) = _
    simp only [own_nar]
    rw [wj1, wj2, wj3, wj4, wj5, wj6, wj7]
    have h8 : i = 0 ∨ i = 1 ∨ i = 2 ∨ i = 3 ∨ i = 4 ∨ i = 5 ∨ i = 6 ∨ i = 7 := own_8 i hi
    rcases h8 with rfl | rfl | rfl | rfl | rfl | rfl | rfl | rfl
    · rw [if_neg (own_ne _ 0 7 (by decide)), if_neg (own_ne _ 0 6 (by decide)), if_neg (own_ne _ 0 5 (by decide)), if_neg (own_ne _ 0 4 (by decide)), if_neg (own_ne _ 0 3 (by decide)), if_neg (own_ne _ 0 2 (by decide)), if_neg (own_ne _ 0 1 (by decide)), if_pos (Nat.add_zero _)]
    · rw [if_neg (own_ne _ 1 7 (by decide)), if_neg (own_ne _ 1 6 (by decide)), if_neg (own_ne _ 1 5 (by decide)), if_neg (own_ne _ 1 4 (by decide)), if_neg (own_ne _ 1 3 (by decide)), if_neg (own_ne _ 1 2 (by decide)), if_pos rfl]
    · rw [if_neg (own_ne _ 2 7 (by decide)), if_neg (own_ne _ 2 6 (by decide)), if_neg (own_ne _ 2 5 (by decide)), if_neg (own_ne _ 2 4 (by decide)), if_neg (own_ne _ 2 3 (by decide)), if_pos rfl]
    · rw [if_neg (own_ne _ 3 7 (by decide)), if_neg (own_ne _ 3 6 (by decide)), if_neg (own_ne _ 3 5 (by decide)), if_neg (own_ne _ 3 4 (by decide)), if_pos rfl]
    · rw [if_neg (own_ne _ 4 7 (by decide)), if_neg (own_ne _ 4 6 (by decide)), if_neg (own_ne _ 4 5 (by decide)), if_pos rfl]
    · rw [if_neg (own_ne _ 5 7 (by decide)), if_neg (own_ne _ 5 6 (by decide)), if_pos rfl]
    · rw [if_neg (own_ne _ 6 7 (by decide)), if_pos rfl]
    · rw [if_pos rfl]
  obtain ⟨ev, h_ev⟩ : ∃ z, z = own_ex_0_5 kk p1 := ⟨_, rfl⟩
  have Bex_1 (hv0 : ev = own_ex_0_1 kk p1) : Steps p.tables e below (T94.setTop (mkF m 289 #[.val (.long p1), .second, .val (.long p2), .second, .val (.int p3), .val (.int p4), .val (.int kk), .val (.ref ty), .val (.int at_), .val (.ref kb), .unset, .unset] [])) (T94.setTop (mkF m 296 #[.val (.long p1), .second, .val (.long p2), .second, .val (.int p3), .val (.int p4), .val (.int kk), .val (.ref ty), .val (.int at_), .val (.ref kb), .val (.long ev), .second] [])) := by
    have hw0 : ev = ((9223372036854775807 : Int64) - p1) := hv0
    rw [hw0]
    show Steps p.tables e below (T94.setTop (mkF m 289 #[.val (.long p1), .second, .val (.long p2), .second, .val (.int p3), .val (.int p4), .val (.int kk), .val (.ref ty), .val (.int at_), .val (.ref kb), .unset, .unset] [])) _
    refine X95.ldc2Long hx hown (mvT hZ (hw _ (List.mem_of_getElem? (i := 15) rfl))) (g := (mkF m 289 #[.val (.long p1), .second, .val (.long p2), .second, .val (.int p3), .val (.int p4), .val (.int kk), .val (.ref ty), .val (.int at_), .val (.ref kb), .unset, .unset] [])) rfl (hb hby at_289) _ ?_
    show Steps p.tables e below (T94.setTop (mkF m 292 #[.val (.long p1), .second, .val (.long p2), .second, .val (.int p3), .val (.int p4), .val (.int kk), .val (.ref ty), .val (.int at_), .val (.ref kb), .unset, .unset] [(.long (9223372036854775807 : Int64))])) _
    refine XS.lloadN X95.here hx rfl (hb hby at_292) rfl ?_
    show Steps p.tables e below (T94.setTop (mkF m 293 #[.val (.long p1), .second, .val (.long p2), .second, .val (.int p3), .val (.int p4), .val (.int kk), .val (.ref ty), .val (.int at_), .val (.ref kb), .unset, .unset] [(.long p1), (.long (9223372036854775807 : Int64))])) _
    refine XS.lsub X95.here hx rfl (hb hby at_293) rfl ?_
    show Steps p.tables e below (T94.setTop (mkF m 294 #[.val (.long p1), .second, .val (.long p2), .second, .val (.int p3), .val (.int p4), .val (.int kk), .val (.ref ty), .val (.int at_), .val (.ref kb), .unset, .unset] [(.long ((9223372036854775807 : Int64) - p1))])) _
    refine XS.lstore X95.here hx rfl (hb hby at_294) rfl (l' := #[.val (.long p1), .second, .val (.long p2), .second, .val (.int p3), .val (.int p4), .val (.int kk), .val (.ref ty), .val (.int at_), .val (.ref kb), .val (.long ((9223372036854775807 : Int64) - p1)), .second]) rfl ?_
    exact Steps.refl _
  have Bex_2 (hv0 : ev = own_ex_0_2 kk p1) : Steps p.tables e below (T94.setTop (mkF m 283 #[.val (.long p1), .second, .val (.long p2), .second, .val (.int p3), .val (.int p4), .val (.int kk), .val (.ref ty), .val (.int at_), .val (.ref kb), .unset, .unset] [])) (T94.setTop (mkF m 296 #[.val (.long p1), .second, .val (.long p2), .second, .val (.int p3), .val (.int p4), .val (.int kk), .val (.ref ty), .val (.int at_), .val (.ref kb), .val (.long ev), .second] [])) := by
    have hw0 : ev = p1 := hv0
    rw [hw0]
    show Steps p.tables e below (T94.setTop (mkF m 283 #[.val (.long p1), .second, .val (.long p2), .second, .val (.int p3), .val (.int p4), .val (.int kk), .val (.ref ty), .val (.int at_), .val (.ref kb), .unset, .unset] [])) _
    refine XS.lloadN X95.here hx rfl (hb hby at_283) rfl ?_
    show Steps p.tables e below (T94.setTop (mkF m 284 #[.val (.long p1), .second, .val (.long p2), .second, .val (.int p3), .val (.int p4), .val (.int kk), .val (.ref ty), .val (.int at_), .val (.ref kb), .unset, .unset] [(.long p1)])) _
    refine XS.lstore X95.here hx rfl (hb hby at_284) rfl (l' := #[.val (.long p1), .second, .val (.long p2), .second, .val (.int p3), .val (.int p4), .val (.int kk), .val (.ref ty), .val (.int at_), .val (.ref kb), .val (.long p1), .second]) rfl ?_
    show Steps p.tables e below (T94.setTop (mkF m 286 #[.val (.long p1), .second, .val (.long p2), .second, .val (.int p3), .val (.int p4), .val (.int kk), .val (.ref ty), .val (.int at_), .val (.ref kb), .val (.long p1), .second] [])) _
    refine XS.goto X95.here hx rfl (pc0 := 286) (pc' := 296) rfl (hb hby at_286) (by decide) (by decide) ?_
    exact Steps.refl _
  have Bex_3 (hv0 : ev = own_ex_0_3 kk p1) : Steps p.tables e below (T94.setTop (mkF m 277 #[.val (.long p1), .second, .val (.long p2), .second, .val (.int p3), .val (.int p4), .val (.int kk), .val (.ref ty), .val (.int at_), .val (.ref kb), .unset, .unset] [])) (T94.setTop (mkF m 296 #[.val (.long p1), .second, .val (.long p2), .second, .val (.int p3), .val (.int p4), .val (.int kk), .val (.ref ty), .val (.int at_), .val (.ref kb), .val (.long ev), .second] [])) := by
    show Steps p.tables e below (T94.setTop (mkF m 277 #[.val (.long p1), .second, .val (.long p2), .second, .val (.int p3), .val (.int p4), .val (.int kk), .val (.ref ty), .val (.int at_), .val (.ref kb), .unset, .unset] [])) _
    refine XS.iload X95.here hx rfl (hb hby at_277) rfl ?_
    show Steps p.tables e below (T94.setTop (mkF m 279 #[.val (.long p1), .second, .val (.long p2), .second, .val (.int p3), .val (.int p4), .val (.int kk), .val (.ref ty), .val (.int at_), .val (.ref kb), .unset, .unset] [(.int kk)])) _
    refine XS.iconst X95.here hx rfl (hb hby at_279) ?_
    show Steps p.tables e below (T94.setTop (mkF m 280 #[.val (.long p1), .second, .val (.long p2), .second, .val (.int p3), .val (.int p4), .val (.int kk), .val (.ref ty), .val (.int at_), .val (.ref kb), .unset, .unset] [(.int (1 : Int32)), (.int kk)])) _
    by_cases h280 : kk = (1 : Int32)
    · refine XS.icmpNo X95.here hx rfl (hb hby at_280) rfl (teq h280).2 ?_
      exact Bex_2 (hv0.trans (if_pos h280))
    · refine XS.icmpYes X95.here hx rfl (pc0 := 280) (pc' := 289) rfl (hb hby at_280) rfl (feq h280).2 (by decide) (by decide) ?_
      exact Bex_1 (hv0.trans (if_neg h280))
  have Bex_4 (hv0 : ev = own_ex_0_4 kk p1) : Steps p.tables e below (T94.setTop (mkF m 266 #[.val (.long p1), .second, .val (.long p2), .second, .val (.int p3), .val (.int p4), .val (.int kk), .val (.ref ty), .val (.int at_), .val (.ref kb), .unset, .unset] [])) (T94.setTop (mkF m 296 #[.val (.long p1), .second, .val (.long p2), .second, .val (.int p3), .val (.int p4), .val (.int kk), .val (.ref ty), .val (.int at_), .val (.ref kb), .val (.long ev), .second] [])) := by
    have hw0 : ev = ((((p1.toUInt64 >>> ((32 : Int32) &&& 0x3f).toInt64.toUInt64).toInt64).toInt32).toInt64) := hv0
    rw [hw0]
    show Steps p.tables e below (T94.setTop (mkF m 266 #[.val (.long p1), .second, .val (.long p2), .second, .val (.int p3), .val (.int p4), .val (.int kk), .val (.ref ty), .val (.int at_), .val (.ref kb), .unset, .unset] [])) _
    refine XS.lloadN X95.here hx rfl (hb hby at_266) rfl ?_
    show Steps p.tables e below (T94.setTop (mkF m 267 #[.val (.long p1), .second, .val (.long p2), .second, .val (.int p3), .val (.int p4), .val (.int kk), .val (.ref ty), .val (.int at_), .val (.ref kb), .unset, .unset] [(.long p1)])) _
    refine XS.bipush X95.here hx rfl (hb hby at_267) ?_
    show Steps p.tables e below (T94.setTop (mkF m 269 #[.val (.long p1), .second, .val (.long p2), .second, .val (.int p3), .val (.int p4), .val (.int kk), .val (.ref ty), .val (.int at_), .val (.ref kb), .unset, .unset] [(.int (32 : Int32)), (.long p1)])) _
    refine XS.lushr X95.here hx rfl (hb hby at_269) rfl ?_
    show Steps p.tables e below (T94.setTop (mkF m 270 #[.val (.long p1), .second, .val (.long p2), .second, .val (.int p3), .val (.int p4), .val (.int kk), .val (.ref ty), .val (.int at_), .val (.ref kb), .unset, .unset] [(.long ((p1.toUInt64 >>> ((32 : Int32) &&& 0x3f).toInt64.toUInt64).toInt64))])) _
    refine XS.l2i X95.here hx rfl (hb hby at_270) rfl ?_
    show Steps p.tables e below (T94.setTop (mkF m 271 #[.val (.long p1), .second, .val (.long p2), .second, .val (.int p3), .val (.int p4), .val (.int kk), .val (.ref ty), .val (.int at_), .val (.ref kb), .unset, .unset] [(.int (((p1.toUInt64 >>> ((32 : Int32) &&& 0x3f).toInt64.toUInt64).toInt64).toInt32))])) _
    refine XS.i2l X95.here hx rfl (hb hby at_271) rfl ?_
    show Steps p.tables e below (T94.setTop (mkF m 272 #[.val (.long p1), .second, .val (.long p2), .second, .val (.int p3), .val (.int p4), .val (.int kk), .val (.ref ty), .val (.int at_), .val (.ref kb), .unset, .unset] [(.long ((((p1.toUInt64 >>> ((32 : Int32) &&& 0x3f).toInt64.toUInt64).toInt64).toInt32).toInt64))])) _
    refine XS.lstore X95.here hx rfl (hb hby at_272) rfl (l' := #[.val (.long p1), .second, .val (.long p2), .second, .val (.int p3), .val (.int p4), .val (.int kk), .val (.ref ty), .val (.int at_), .val (.ref kb), .val (.long ((((p1.toUInt64 >>> ((32 : Int32) &&& 0x3f).toInt64.toUInt64).toInt64).toInt32).toInt64)), .second]) rfl ?_
    show Steps p.tables e below (T94.setTop (mkF m 274 #[.val (.long p1), .second, .val (.long p2), .second, .val (.int p3), .val (.int p4), .val (.int kk), .val (.ref ty), .val (.int at_), .val (.ref kb), .val (.long ((((p1.toUInt64 >>> ((32 : Int32) &&& 0x3f).toInt64.toUInt64).toInt64).toInt32).toInt64)), .second] [])) _
    refine XS.goto X95.here hx rfl (pc0 := 274) (pc' := 296) rfl (hb hby at_274) (by decide) (by decide) ?_
    exact Steps.refl _
  have Bex_5 (hv0 : ev = own_ex_0_5 kk p1) : Steps p.tables e below (T94.setTop (mkF m 261 #[.val (.long p1), .second, .val (.long p2), .second, .val (.int p3), .val (.int p4), .val (.int kk), .val (.ref ty), .val (.int at_), .val (.ref kb), .unset, .unset] [])) (T94.setTop (mkF m 296 #[.val (.long p1), .second, .val (.long p2), .second, .val (.int p3), .val (.int p4), .val (.int kk), .val (.ref ty), .val (.int at_), .val (.ref kb), .val (.long ev), .second] [])) := by
    show Steps p.tables e below (T94.setTop (mkF m 261 #[.val (.long p1), .second, .val (.long p2), .second, .val (.int p3), .val (.int p4), .val (.int kk), .val (.ref ty), .val (.int at_), .val (.ref kb), .unset, .unset] [])) _
    refine XS.iload X95.here hx rfl (hb hby at_261) rfl ?_
    show Steps p.tables e below (T94.setTop (mkF m 263 #[.val (.long p1), .second, .val (.long p2), .second, .val (.int p3), .val (.int p4), .val (.int kk), .val (.ref ty), .val (.int at_), .val (.ref kb), .unset, .unset] [(.int kk)])) _
    by_cases h263 : kk = (0 : Int32)
    · refine XS.ifNo X95.here hx rfl (hb hby at_263) rfl ((if0 _ _).trans (teq h263).2) ?_
      exact Bex_4 (hv0.trans (if_pos h263))
    · refine XS.ifYes X95.here hx rfl (pc0 := 263) (pc' := 277) rfl (hb hby at_263) rfl ((if0 _ _).trans (feq h263).2) (by decide) (by decide) ?_
      exact Bex_3 (hv0.trans (if_neg h263))
  have pre96 : Steps p.tables e below _ (T94.setTop (mkF m 296 #[.val (.long p1), .second, .val (.long p2), .second, .val (.int p3), .val (.int p4), .val (.int kk), .val (.ref ty), .val (.int at_), .val (.ref kb), .val (.long ev), .second] [])) := pre94.trans (Bex_5 h_ev)
  obtain ⟨R, hRd, hRe⟩ : ∃ R : Int64, ((wd = 4 ∧ ty ≠ d ∧ R = ((own_up p1 32).toInt32).toInt64) ∨ (wd = 8 ∧ ty ≠ d ∧ R = p1) ∨ (wd = 8 ∧ ty = d ∧ R = (9223372036854775807 : Int64) - p1)) ∧ R = ev := by
    rcases hcase with ⟨q1, q2, q3⟩ | ⟨q1, q2, q3, q4⟩ | ⟨q1, q2, q3, q4⟩
    · exact ⟨_, Or.inl ⟨q2, q3, rfl⟩, by rw [h_ev]; exact (if_pos q1).symm⟩
    · exact ⟨_, Or.inr (Or.inl ⟨q3, q4, rfl⟩), by rw [h_ev]; exact ((if_neg q1).trans (if_pos q2)).symm⟩
    · exact ⟨_, Or.inr (Or.inr ⟨q3, q4, rfl⟩), by rw [h_ev]; exact ((if_neg q1).trans (if_neg q2)).symm⟩
  have pre97 : Steps p.tables e below _ (T94.setTop (mkF m 302 #[.val (.long p1), .second, .val (.long p2), .second, .val (.int p3), .val (.int p4), .val (.int kk), .val (.ref ty), .val (.int at_), .val (.ref kb), .val (.long ev), .second] [(.int at_), (.ref kb), (.ref ty)])) := pre96.trans (by
    show Steps p.tables e below (T94.setTop (mkF m 296 #[.val (.long p1), .second, .val (.long p2), .second, .val (.int p3), .val (.int p4), .val (.int kk), .val (.ref ty), .val (.int at_), .val (.ref kb), .val (.long ev), .second] [])) _
    refine XS.aload X95.here hx rfl (hb hby at_296) rfl rfl ?_
    show Steps p.tables e below (T94.setTop (mkF m 298 #[.val (.long p1), .second, .val (.long p2), .second, .val (.int p3), .val (.int p4), .val (.int kk), .val (.ref ty), .val (.int at_), .val (.ref kb), .val (.long ev), .second] [(.ref ty)])) _
    refine XS.aload X95.here hx rfl (hb hby at_298) rfl rfl ?_
    show Steps p.tables e below (T94.setTop (mkF m 300 #[.val (.long p1), .second, .val (.long p2), .second, .val (.int p3), .val (.int p4), .val (.int kk), .val (.ref ty), .val (.int at_), .val (.ref kb), .val (.long ev), .second] [(.ref kb), (.ref ty)])) _
    refine XS.iload X95.here hx rfl (hb hby at_300) rfl ?_
    exact Steps.refl _)
  obtain ⟨cq98, kq98, q98a, q98b, q98c⟩ := isOf hZ e94 XM
  obtain ⟨_, _, ⟨T98, L98, k98, n98⟩, -, X98, ⟨Lc98, hQ98, l98, y98, z98⟩, st98⟩ := X95.virtualBack hx (y := (⟨"com/example/sound_schema/soundschema/Segment$Number$Type", "read", "([BI)J"⟩ : MethodName)) (z := (⟨"com/example/sound_schema/soundschema/Segment$Number$Type", "read", "([BI)J"⟩ : MethodName)) hown (mvT hZ (hw _ (List.mem_of_getElem? (i := 5) rfl))) (mvT hZ (hw _ (List.mem_of_getElem? (i := 6) rfl))) (notFace_of_selects (args := #[]) (mvT hZ (hw _ (List.mem_of_getElem? (i := 8) rfl)))) (mvT hZ (hw _ (List.mem_of_getElem? (i := 8) rfl))) (mvT hZ (hw _ (List.mem_of_getElem? (i := 7) rfl))) (by decide) (backOf (W := 0) (rmR l Z a0 hw [] ty kb at_ wd fk d p1 R h94 n0 Z94 GM SM FK ba h_fk hRd) hZ (hw _ (List.mem_of_getElem? (i := 9) rfl)) (hw _ (List.mem_of_getElem? (i := 2) rfl)) (by decide) (by decide)) q98a q98c (g := (mkF m 302 #[.val (.long p1), .second, .val (.long p2), .second, .val (.int p3), .val (.int p4), .val (.int kk), .val (.ref ty), .val (.int at_), .val (.ref kb), .val (.long ev), .second] [(.int at_), (.ref kb), (.ref ty)])) rfl (by rw [hml]; rfl) (Steps.refl _) (argsL := [(.ref kb), (.int at_)]) (rest := []) (lenOf pd_rm0_0 rfl) rfl (by show 2 * 0 + _ ≤ _; exact Nat.le_of_eq rfl) (hb hby at_302) (fun _ _ => ⟨rfl, e94, (by decide : 1 + 0 ≤ _), (by decide : 11 + 0 ≤ _)⟩)
  dsimp only [Pt.U, Pt.locs, Pt.cells, Pt.slots] at X98 l98 y98 z98 st98 hQ98
  subst l98 y98 z98
  obtain ⟨rfl, N98q, hh98⟩ := hQ98
  have N98 := Fr.app N95 N98q
  have pre98 : Steps p.tables e below _ (T98.setTop (mkF m 305 #[.val (.long p1), .second, .val (.long p2), .second, .val (.int p3), .val (.int p4), .val (.int kk), .val (.ref ty), .val (.int at_), .val (.ref kb), .val (.long ev), .second] [(.long R)])) := pre97.trans (st98)
  have hlc : lcmpW R ev = (0 : Int32) := (lw_eq R ev).mpr hRe
  have pre99 : Steps p.tables e below _ (T98.setTop (mkF m 316 #[.val (.long p1), .second, .val (.long p2), .second, .val (.int p3), .val (.int p4), .val (.int kk), .val (.ref ty), .val (.int at_), .val (.ref kb), .val (.long ev), .second] [(.int (1 : Int32))])) := pre98.trans (by
    show Steps p.tables e below (T98.setTop (mkF m 305 #[.val (.long p1), .second, .val (.long p2), .second, .val (.int p3), .val (.int p4), .val (.int kk), .val (.ref ty), .val (.int at_), .val (.ref kb), .val (.long ev), .second] [(.long R)])) _
    refine XS.lload X98.here hx rfl (hb hby at_305) rfl ?_
    show Steps p.tables e below (T98.setTop (mkF m 307 #[.val (.long p1), .second, .val (.long p2), .second, .val (.int p3), .val (.int p4), .val (.int kk), .val (.ref ty), .val (.int at_), .val (.ref kb), .val (.long ev), .second] [(.long ev), (.long R)])) _
    refine XS.lcmp X98.here hx rfl (hb hby at_307) rfl ?_
    show Steps p.tables e below (T98.setTop (mkF m 308 #[.val (.long p1), .second, .val (.long p2), .second, .val (.int p3), .val (.int p4), .val (.int kk), .val (.ref ty), .val (.int at_), .val (.ref kb), .val (.long ev), .second] [(.int (lcmpW R ev))])) _
    refine XS.ifNo X98.here hx rfl (hb hby at_308) rfl ((if0 _ _).trans (teq hlc).2) ?_
    show Steps p.tables e below (T98.setTop (mkF m 311 #[.val (.long p1), .second, .val (.long p2), .second, .val (.int p3), .val (.int p4), .val (.int kk), .val (.ref ty), .val (.int at_), .val (.ref kb), .val (.long ev), .second] [])) _
    refine XS.iconst X98.here hx rfl (hb hby at_311) ?_
    show Steps p.tables e below (T98.setTop (mkF m 312 #[.val (.long p1), .second, .val (.long p2), .second, .val (.int p3), .val (.int p4), .val (.int kk), .val (.ref ty), .val (.int at_), .val (.ref kb), .val (.long ev), .second] [(.int (1 : Int32))])) _
    refine XS.goto X98.here hx rfl (pc0 := 312) (pc' := 316) rfl (hb hby at_312) (by decide) (by decide) ?_
    exact Steps.refl _)
  obtain ⟨fs, hr, hrun, hended, hW, hsame⟩ := X98.leave (v := some (.int (1 : Int32))) (fun h => by rw [Bd.returns] at h; cases h)
  refine ⟨_, _, pre99.trans ?_, hrun, hended, _, _, rfl, ?_, ⟨_, rfl⟩, hW, hsame.mono (by decide) (by decide)⟩
  · exact retN X98 hx (t := .boolean) Bd.returns (by simp) (hb hby at_316) hr
  · exact ⟨rfl, N98⟩
set_option maxRecDepth 65536 in
set_option maxHeartbeats 40000000 in
theorem comes_1 {Post : Tables → Env → Array Value → State → Outcome → State → Prop} (hpost : ∀ tb e args s v u, (limb_1_1.after args s (.returned v) u = true ∧ limb_1_2.after args s (.returned v) u = true ∧ True) → FrameEnd s (.returned v) u (Jvm.fieldLocs frame_1_writes args s ++ Jvm.arrayLocs frame_1_arrays args s ++ Jvm.staticLocs frame_1_statics s) 16 128 → Post tb e args s (.returned v) u) :
    ArmFor flags0 classFile x code maxLocals ret World_1 tables_1 room_1 Calls_1 rest_1 Pre_1 Post := by
  intro l hfl _ _ p e ha hc hk s m args below hf hA hF happ hP
  obtain ⟨hcalls, hrest, hpre⟩ := hP
  obtain ⟨-, -, -, hnamed, -, -, -, hat⟩ := (Spec.applies_iff hf).mp happ
  obtain ⟨hg, hn⟩ := and_e (Cond.before_iff.mp (show (Jvm.Cond.and given_1 narrow_1).before args s = true from hpre))
  obtain ⟨g0, r0⟩ := and_e hg
  obtain ⟨w0, w1, w2, w3, rfl⟩ : ∃ w0 w1 w2 w3 : Value, args = #[w0, w1, w2, w3] := by
    have hs : args.size = 4 := by simpa [Cond.value, given_1] using g0
    obtain ⟨L⟩ := args
    match L, hs with
    | [w0, w1, w2, w3], _ => exact ⟨w0, w1, w2, w3, rfl⟩
  have hw := fun d (hd : d ∈ tables_1) => atoms_spec (ws := Jvm.Cond.code x code maxLocals ret :: tables_1) hat d (List.mem_cons_of_mem _ hd)
  have hfit : Fit s := fun {y c} hc i hi => by
    obtain ⟨ha, rfl⟩ := Array.getElem?_eq_some_iff.mp hc
    have q := List.all_eq_true.mp ((Array.all_eq_true_iff_forall_mem.mp hF) _ (Array.getElem_mem ha)) i (List.mem_range.mpr hi)
    simpa [Array.getElem?_eq_getElem hi] using q
  obtain ⟨g1, r1⟩ := and_e r0
  obtain ⟨i0, ei0⟩ := isL_v g1
  obtain rfl : w0 = (.long i0) := Option.some.inj ei0
  obtain ⟨g2, r2⟩ := and_e r1
  obtain ⟨i1, ei1⟩ := isL_v g2
  obtain rfl : w1 = (.long i1) := Option.some.inj ei1
  obtain ⟨g3, r3⟩ := and_e r2
  obtain ⟨i2, ei2⟩ := is_v g3
  obtain rfl : w2 = (.int i2) := Option.some.inj ei2
  obtain ⟨i3, ei3⟩ := is_v r3
  obtain rfl : w3 = (.int i3) := Option.some.inj ei3
  obtain ⟨m1, hn⟩ := and_e hn
  obtain ⟨m2, hn⟩ := and_e hn
  obtain ⟨m3, hn⟩ := and_e hn
  obtain ⟨m4, hn⟩ := and_e hn
  obtain ⟨m5, hn⟩ := and_e hn
  obtain ⟨m6, hn⟩ := and_e hn
  obtain ⟨m7, hn⟩ := and_e hn
  obtain ⟨m8, m9⟩ := and_e hn
  obtain ⟨t0, v0⟩ := exa_v m1
  obtain ⟨td, vd⟩ := exa_v m3
  obtain ⟨t1, v1⟩ := exa_v m7
  have x0 := Exa.start v0 m1
  have xd := Exa.start vd m3
  have x1 := Exa.start v1 m7
  have f0 := own_fld m2 v0
  have o0 := own_fld m4 v0
  have od := own_fld m5 vd
  have fd := own_fld m6 vd
  have f1 := own_fld m8 v1
  have o1 := own_fld m9 v1
  have s0 := Sta.start v0 (Or.inr ⟨(hw _ (List.mem_of_getElem? (i := 2) rfl)), (hw _ (List.mem_of_getElem? (i := 3) rfl))⟩)
  have s1 := Sta.start v1 (Or.inr ⟨(hw _ (List.mem_of_getElem? (i := 2) rfl)), (hw _ (List.mem_of_getElem? (i := 18) rfl))⟩)
  have sd := Sta.start vd (Or.inr ⟨(hw _ (List.mem_of_getElem? (i := 2) rfl)), (hw _ (List.mem_of_getElem? (i := 13) rfl))⟩)
  have n0d : t0 ≠ td := Fld.ne o0 od (by decide)
  have n1d : t1 ≠ td := Fld.ne o1 od (by decide)
  obtain ⟨n, o, h1, h2, h3, _, L, rfl, ⟨rfl, N⟩, hq⟩ := rm0 l s _ hw tables_1 i0 i1 i2 i3 t0 t1 td s.heap s.heap.size (Nat.le_refl _) f0 f1 fd x0 x1 xd s0 s1 sd n0d n1d p e ha hc hk s m _ below hf ((Spec.applies_iff_loose hf).mp happ).1 ⟨rfl, State.Warmed39.refl s, rfl⟩ trivial
  refine ⟨n, _, h1, h2, h3, hpost _ _ _ _ _ _ ⟨Cond.after_iff.mpr rfl, Cond.after_iff.mpr (eq_i res_at (Term.int_eval (1)) rfl), trivial⟩ ⟨hq.1, hq.2.1, (hq.2.2.sift fun y hy => Or.inr (N y hy)).mono (by decide) (by decide)⟩⟩
theorem main_1_1 : Claimed_1_1 := comes_1 fun _ _ _ _ _ _ h hF => ⟨h.1, hF⟩
theorem main_1_2 : Claimed_1_2 := comes_1 fun _ _ _ _ _ _ h hF => ⟨h.2.1, hF⟩
end Jvm.Pilot.@@N@@
namespace Jvm.Pilot.@@N@@
open Jvm Jvm.ClassFile Sem Op Lib Jvm.Free Jvm.Stand Jvm.Pilot.@@N@@.Jvm.D
/-! MADE BY PROGRAM (witnessworld.py) out of the Statement's table words and the real class files: 12 classes; the members and pool entries that the words name. The judged class is class 1, her method 1. -/
namespace start1
open Jvm.ClassFile
def u (s : String) : CpInfo := .utf8 (stringToUtf16 s)
/-- a pool by its gaps: so many unusable entries, then the entry; so many at the end -/
def gap : Nat → List CpInfo → List CpInfo
  | 0, r => r
  | n + 1, r => .unusable :: gap n r
def poolList (es : List (Nat × CpInfo)) (last : Nat) : List CpInfo := es.foldr (fun e r => gap e.1 (e.2 :: r)) (gap last [])
def pool (es : List (Nat × CpInfo)) (last : Nat) : Array CpInfo := ⟨poolList es last⟩
def fileOf (pool : Array CpInfo) (this : Nat) (attrs : Array Attribute := #[]) (ms : Array MethodInfo := #[]) (fl : Nat := 33) (sup : Nat := 0) (ifs : Array Nat := #[]) (fds : Array FieldInfo := #[]) : ClassFile where
  minorVersion := 0
  majorVersion := 65
  constantPool := pool
  accessFlags := fl
  thisClass := this
  superClass := sup
  interfaces := ifs
  fields := fds
  methods := ms
  attributes := attrs
def plain (name : String) (sup : Option ClassId) : Class where
  name := name
  kind := .ordinary
  loader := none
  accessFlags := 33
  super := sup
  interfaces := #[]
  cf := none
  fields := #[]
  methods := #[]
  instanceTypes := #[]
  staticTypes := #[]
  resolved := #[]
  callSites := []
  init := .initialized
  statics := none
  mirror := none

def pool0 : Array CpInfo := pool [(5, u "<init>"), (0, u "()V"), (1, .class_ 10), (1, u "java/lang/Object")] 113

def k0m0 : Method := { name := "<init>", desc := "()V", sig := { parameters := [], returnType := none }, accessFlags := 1, code := none }
/-- java/lang/Object -/
def k0 : Class := { plain "java/lang/Object" none with
  accessFlags := 33
  interfaces := #[]
  cf := some (fileOf pool0 8 #[] #[{ accessFlags := 1, nameIndex := 5, descriptorIndex := 6, attributes := #[] }] 33 0 #[] #[])
  fields := #[]
  methods := #[k0m0]
  instanceTypes := #[]
  staticTypes := #[]
  resolved := Array.replicate 124 none
  statics := none }

def pool1 : Array CpInfo := pool [(2, .class_ 4), (1, u "java/lang/Object"), (0, u "<init>"), (0, u "()V"), (0, .integer 2147483647), (0, .fieldref 9 10), (0, .class_ 11), (0, .nameAndType 12 13), (0, u "com/example/sound_schema/soundschema/Segment$Number$Type"), (0, u "INT32"), (0, u "Lcom/example/sound_schema/soundschema/Segment$Number$Type;"), (0, .fieldref 9 15), (0, .nameAndType 16 13), (0, u "INT64"), (0, .fieldref 9 18), (0, .nameAndType 19 13), (0, u "DESC64"), (2, .long 9223372036854775807), (1, .methodref 9 25), (0, .nameAndType 26 27), (0, u "read"), (0, u "([BI)J"), (0, .class_ 29), (0, u "com/example/sound_schema/soundschema/TypeReadPinLaw"), (2, u "law"), (0, u "(JJII)Z")] 12

def k1m0 : Method := { name := "<init>", desc := "()V", sig := { parameters := [], returnType := none }, accessFlags := 1, code := none }
def k1c1 : Code := { maxStack := 5, maxLocals := 12, code := code, exceptionTable := #[], attributes := #[] }
def k1m1 : Method := { name := "law", desc := "(JJII)Z", sig := { parameters := [.long, .long, .int, .int], returnType := some .boolean }, accessFlags := 9, code := some k1c1 }
/-- com/example/sound_schema/soundschema/TypeReadPinLaw -/
def k1 : Class := { plain "com/example/sound_schema/soundschema/TypeReadPinLaw" (some 0) with
  accessFlags := 49
  interfaces := #[]
  cf := some (fileOf pool1 28 #[] #[{ accessFlags := 1, nameIndex := 5, descriptorIndex := 6, attributes := #[] }, { accessFlags := 9, nameIndex := 32, descriptorIndex := 33, attributes := #[] }] 49 2 #[] #[])
  fields := #[]
  methods := #[k1m0, k1m1]
  instanceTypes := #[]
  staticTypes := #[]
  resolved := Array.replicate 46 none
  statics := none }

def pool2 : Array CpInfo := pool [(1, .class_ 2), (0, u "java/lang/constant/Constable"), (0, .class_ 4), (0, u "java/lang/Object")] 6

/-- java/lang/constant/Constable -/
def k2 : Class := { plain "java/lang/constant/Constable" (some 0) with
  accessFlags := 1537
  interfaces := #[]
  cf := some (fileOf pool2 1 #[] #[] 1537 3 #[] #[])
  fields := #[]
  methods := #[]
  instanceTypes := #[]
  staticTypes := #[]
  resolved := Array.replicate 11 none
  statics := none }

def pool3 : Array CpInfo := pool [(1, .class_ 2), (0, u "java/lang/Comparable"), (0, .class_ 4), (0, u "java/lang/Object")] 7

/-- java/lang/Comparable -/
def k3 : Class := { plain "java/lang/Comparable" (some 0) with
  accessFlags := 1537
  interfaces := #[]
  cf := some (fileOf pool3 1 #[] #[] 1537 3 #[] #[])
  fields := #[]
  methods := #[]
  instanceTypes := #[]
  staticTypes := #[]
  resolved := Array.replicate 12 none
  statics := none }

def pool4 : Array CpInfo := pool [(1, .class_ 2), (0, u "java/io/Serializable"), (0, .class_ 4), (0, u "java/lang/Object")] 2

/-- java/io/Serializable -/
def k4 : Class := { plain "java/io/Serializable" (some 0) with
  accessFlags := 1537
  interfaces := #[]
  cf := some (fileOf pool4 1 #[] #[] 1537 3 #[] #[])
  fields := #[]
  methods := #[]
  instanceTypes := #[]
  staticTypes := #[]
  resolved := Array.replicate 7 none
  statics := none }

def pool5 : Array CpInfo := pool [(2, .class_ 4), (1, u "java/lang/Enum"), (0, u "name"), (0, u "Ljava/lang/String;"), (2, u "ordinal"), (0, u "I"), (1, .class_ 14), (1, u "java/lang/Object"), (4, u "hash"), (86, .class_ 108), (1, u "java/lang/Enum$EnumDesc"), (2, .class_ 112), (0, u "java/lang/constant/Constable"), (0, .class_ 114), (0, u "java/lang/Comparable"), (0, .class_ 116), (0, u "java/io/Serializable")] 87

/-- java/lang/Enum -/
def k5 : Class := { plain "java/lang/Enum" (some 0) with
  accessFlags := 1057
  interfaces := #[2, 3, 4]
  cf := some (fileOf pool5 2 #[.nestMembers #[106]] #[] 1057 12 #[111, 113, 115] #[{ accessFlags := 18, nameIndex := 5, descriptorIndex := 6, attributes := #[] }, { accessFlags := 18, nameIndex := 9, descriptorIndex := 10, attributes := #[] }, { accessFlags := 2, nameIndex := 19, descriptorIndex := 10, attributes := #[] }])
  fields := #[{ name := "name", type := (.object "java/lang/String"), accessFlags := 18, slot := 0, constantValue := 0 }, { name := "ordinal", type := .int, accessFlags := 18, slot := 1, constantValue := 0 }, { name := "hash", type := .int, accessFlags := 2, slot := 2, constantValue := 0 }]
  methods := #[]
  instanceTypes := #[(.object "java/lang/String"), .int, .int]
  staticTypes := #[]
  resolved := Array.replicate 204 none
  statics := none }

def pool6 : Array CpInfo := pool [(1, .class_ 2), (0, u "com/example/sound_schema/soundschema/Segment$Number$Type"), (2, u "INT32"), (0, u "Lcom/example/sound_schema/soundschema/Segment$Number$Type;"), (2, u "INT64"), (0, .fieldref 1 11), (0, .nameAndType 12 6), (0, u "DESC64"), (2, u "$VALUES"), (0, u "[Lcom/example/sound_schema/soundschema/Segment$Number$Type;"), (6, .class_ 25), (1, u "java/lang/Enum"), (8, u "keyword"), (0, u "Ljava/lang/String;"), (0, .fieldref 1 37), (0, .nameAndType 38 39), (0, u "width"), (0, u "I"), (2, u "min"), (0, u "J"), (2, u "max"), (61, .class_ 110), (1, u "com/example/sound_schema/soundschema/Segment"), (2, .long 9223372036854775807), (46, u "read"), (0, u "([BI)J")] 28

def k6c0 : Code := { maxStack := 5, maxLocals := 6, code := prog_65_method_16_code, exceptionTable := #[], attributes := #[] }
def k6m0 : Method := { name := "read", desc := "([BI)J", sig := { parameters := [(.array .byte), .int], returnType := some .long }, accessFlags := 0, code := some k6c0 }
/-- com/example/sound_schema/soundschema/Segment$Number$Type -/
def k6 : Class := { plain "com/example/sound_schema/soundschema/Segment$Number$Type" (some 5) with
  accessFlags := 16432
  interfaces := #[]
  cf := some (fileOf pool6 1 #[.nestHost 108] #[{ accessFlags := 0, nameIndex := 160, descriptorIndex := 161, attributes := #[] }] 16432 23 #[] #[{ accessFlags := 16409, nameIndex := 5, descriptorIndex := 6, attributes := #[] }, { accessFlags := 16409, nameIndex := 9, descriptorIndex := 6, attributes := #[] }, { accessFlags := 16409, nameIndex := 12, descriptorIndex := 6, attributes := #[] }, { accessFlags := 18, nameIndex := 34, descriptorIndex := 35, attributes := #[] }, { accessFlags := 18, nameIndex := 38, descriptorIndex := 39, attributes := #[] }, { accessFlags := 18, nameIndex := 42, descriptorIndex := 43, attributes := #[] }, { accessFlags := 18, nameIndex := 46, descriptorIndex := 43, attributes := #[] }, { accessFlags := 4122, nameIndex := 15, descriptorIndex := 16, attributes := #[] }])
  fields := #[{ name := "INT32", type := (.object "com/example/sound_schema/soundschema/Segment$Number$Type"), accessFlags := 16409, slot := 0, constantValue := 0 }, { name := "INT64", type := (.object "com/example/sound_schema/soundschema/Segment$Number$Type"), accessFlags := 16409, slot := 1, constantValue := 0 }, { name := "DESC64", type := (.object "com/example/sound_schema/soundschema/Segment$Number$Type"), accessFlags := 16409, slot := 2, constantValue := 0 }, { name := "keyword", type := (.object "java/lang/String"), accessFlags := 18, slot := 3, constantValue := 0 }, { name := "width", type := .int, accessFlags := 18, slot := 4, constantValue := 0 }, { name := "min", type := .long, accessFlags := 18, slot := 5, constantValue := 0 }, { name := "max", type := .long, accessFlags := 18, slot := 6, constantValue := 0 }, { name := "$VALUES", type := (.array (.object "com/example/sound_schema/soundschema/Segment$Number$Type")), accessFlags := 4122, slot := 3, constantValue := 0 }]
  methods := #[k6m0]
  instanceTypes := #[(.object "java/lang/String"), .int, .int, (.object "java/lang/String"), .int, .long, .long]
  staticTypes := #[(.object "com/example/sound_schema/soundschema/Segment$Number$Type"), (.object "com/example/sound_schema/soundschema/Segment$Number$Type"), (.object "com/example/sound_schema/soundschema/Segment$Number$Type"), (.array (.object "com/example/sound_schema/soundschema/Segment$Number$Type"))]
  resolved := Array.replicate 190 none
  statics := some 0 }

def pool7 : Array CpInfo := pool [(1, u "java/lang/Cloneable"), (0, .class_ 1), (0, u "java/lang/Object"), (0, .class_ 3)] 3

/-- java/lang/Cloneable -/
def k7 : Class := { plain "java/lang/Cloneable" (some 0) with
  accessFlags := 1537
  interfaces := #[]
  cf := some (fileOf pool7 2 #[] #[] 1537 4 #[] #[])
  fields := #[]
  methods := #[]
  instanceTypes := #[]
  staticTypes := #[]
  resolved := Array.replicate 8 none
  statics := none }

/-- the primitive byte -/
def k8 : Class := { plain "byte" none with kind := .primitive 'B', accessFlags := 0x411 }
/-- [B -/
def k9 : Class := { plain "[B" (some 0) with kind := .array 8 .byte, interfaces := #[7, 4], accessFlags := 1041 }

/-- the primitive int -/
def k10 : Class := { plain "int" none with kind := .primitive 'I', accessFlags := 0x411 }
/-- [I -/
def k11 : Class := { plain "[I" (some 0) with kind := .array 10 .int, interfaces := #[7, 4], accessFlags := 1041 }

def heap : Heap := #[{ cls := 6, slots := #[.ref 1, .ref 2, .ref 3, .null], vm := .statics 6 },
  { cls := 6, slots := #[.null, .int 0, .int 0, .null, .int 4, .long 0, .long 0], vm := .none },
  { cls := 6, slots := #[.null, .int 1, .int 0, .null, .int 8, .long 0, .long 0], vm := .none },
  { cls := 6, slots := #[.null, .int 2, .int 0, .null, .int 8, .long 0, .long 0], vm := .none }]
def classes : Array Class := #[k0, k1, k2, k3, k4, k5, k6, k7, k8, k9, k10, k11]
def interned : List (Array UInt16 × Addr) := []
def slotsUsed : Nat := 25
def theMethod : MethodId := ⟨1, 1⟩
def args0 : Array Value := #[.long 3, .long 1, .int 0, .int 3]
def aboutOver (below : List Frame) : State where
  vm := { classes := classes, interned := interned.toArray }
  heap := heap
  slotsUsed := slotsUsed
  threads := #[{ frames := .invoking theMethod args0 :: below }]
def below0 : List Frame := [.native { method := ⟨0, 0⟩, args := #[] }]
def about1 : State := aboutOver below0
def p0 : Program := .bare "" "" ""
def e0 : Env := launch0.env 0 0 0
theorem w_frames : about1.frames = Frame.invoking theMethod args0 :: below0 := rfl
set_option maxRecDepth 65536 in
theorem w_args : argsFit about1.vm theMethod args0 = true := by decide +kernel
set_option maxRecDepth 65536 in
theorem w_heap : heapFits about1 = true := by decide +kernel
set_option maxRecDepth 65536 in
theorem w_runnable : about1.curStatus? = some .runnable := by decide +kernel
set_option maxRecDepth 65536 in
theorem w_alone : about1.alone = true := by decide +kernel
set_option maxRecDepth 65536 in
theorem w_named : about1.methodNamed? x = some theMethod := by decide +kernel
set_option maxRecDepth 65536 in
theorem w_hears : about1.hears theMethod below0 = true := by decide +kernel
set_option maxRecDepth 65536 in
theorem w_ripe : about1.ripe theMethod args0 below0 = true := by decide +kernel
theorem w_running : about1.status = .running := rfl
set_option maxRecDepth 65536 in
theorem w_room : about1.hasRoom e0.platform room_1 = true :=
  launch0.hasRoom_least _ room_1 (by decide +kernel) (by decide +kernel) (by decide +kernel) (by decide +kernel) (by decide +kernel) (by decide +kernel)
theorem allAtoms_all (ts : List Jvm.Cond) (a : Array Jvm.Value) (st : Jvm.State) : (allAtoms ts).before a st = ts.all (fun c => c.before a st) := by
  induction ts with
  | nil => rfl
  | cons c t ih =>
    show (Jvm.Cond.and c (allAtoms t)).before a st = _
    rw [Jvm.Cond.before_and, ih, List.all_cons]
def words1 : List Jvm.Cond := Jvm.Cond.code x code maxLocals ret :: tables_1
/-- a 'code' word, met by the world's own term for the bytes: nothing is compared byte by byte -/
theorem code_word {y : MethodName} {bytes : ByteArray} {mx : Nat} {rt : Option FieldType} {a : Array Value} {s : State} {m : MethodId} {meth : Method} {c : Code} (h1 : s.methodNamed? y = some m) (h2 : s.vm.method? m = some meth) (h3 : meth.code = some c) (h4 : c.code = bytes)
    (h5 : (c.maxLocals == mx && c.exceptionTable.isEmpty && decide (c.maxStack ≤ mostOperands) && decide (meth.sig.returnType = rt) && !meth.locks && decide (parseMethodDescriptor y.desc = some meth.sig)) = true) : (Jvm.Cond.code y bytes mx rt).before a s = true := by
  simp only [Bool.and_eq_true, beq_iff_eq, Bool.not_eq_true', decide_eq_true_eq] at h5
  obtain ⟨⟨⟨⟨⟨g1, g2⟩, g3⟩, g4⟩, g5⟩, g6⟩ := h5
  simp [Cond.before, Cond.holds, Cond.value, h1, h2, h3, h4, g1, g2, g3, g4, g5, g6]
def isCode : Jvm.Cond → Bool
  | .code _ _ _ _ => true
  | _ => false
theorem all_split {L : List Jvm.Cond} {P : Jvm.Cond → Bool} (h1 : L.all (fun c => isCode c || P c) = true) (h2 : ∀ c ∈ L.filter isCode, P c = true) : L.all P = true := by
  refine List.all_eq_true.mpr fun c hc => ?_
  have h := List.all_eq_true.mp h1 c hc
  rcases Bool.eq_false_or_eq_true (isCode c) with hi | hi
  · exact h2 c (List.mem_filter.mpr ⟨hc, hi⟩)
  · simpa [hi] using h
set_option maxRecDepth 65536 in
theorem w_c0 : (Jvm.Cond.code x code maxLocals ret).before args0 about1 = true := code_word (m := ⟨1, 1⟩) (meth := k1m1) (c := k1c1) (by decide +kernel) rfl rfl rfl (by decide +kernel)
set_option maxRecDepth 65536 in
theorem w_c1 : (Jvm.Cond.code ({ cls := "com/example/sound_schema/soundschema/Segment$Number$Type", name := "read", desc := "([BI)J" } : Jvm.MethodName) prog_65_method_16_code (6 : Nat) (Option.some Jvm.ClassFile.FieldType.long)).before args0 about1 = true := code_word (m := ⟨6, 0⟩) (meth := k6m0) (c := k6c0) (by decide +kernel) rfl rfl rfl (by decide +kernel)
def codes1 : List Jvm.Cond := [Jvm.Cond.code x code maxLocals ret, Jvm.Cond.code ({ cls := "com/example/sound_schema/soundschema/Segment$Number$Type", name := "read", desc := "([BI)J" } : Jvm.MethodName) prog_65_method_16_code (6 : Nat) (Option.some Jvm.ClassFile.FieldType.long)]
set_option maxRecDepth 65536 in
theorem codes_eq : words1.filter isCode = codes1 := rfl
theorem w_codes : ∀ c ∈ words1.filter isCode, c.before args0 about1 = true := by
  rw [codes_eq]
  intro c hc
  simp only [codes1, List.mem_cons, List.not_mem_nil, or_false] at hc
  rcases hc with rfl | rfl
  · exact w_c0
  · exact w_c1
set_option maxRecDepth 65536 in
theorem w_t1 : words1.all (fun c => isCode c || c.before args0 about1) = true := by decide +kernel
theorem w_tables : (allAtoms (Jvm.Cond.code x code maxLocals ret :: tables_1)).before args0 about1 = true := by
  rw [allAtoms_all]
  show words1.all (fun c => c.before args0 about1) = true
  refine all_split ?_ w_codes
  rw [w_t1]
set_option maxRecDepth 65536 in
theorem w_case : (Jvm.Cond.and given_1 narrow_1).before args0 about1 = true := by decide +kernel
theorem w_applies : (headSpec (Jvm.Cond.code x code maxLocals ret :: tables_1) room_1).applies x e0.platform about1 = true :=
  (Spec.applies_iff w_frames).mpr ⟨w_running, w_runnable, w_alone, w_named, w_hears, w_ripe, w_room, w_tables⟩
theorem atStart : AtStart classFile x code maxLocals ret World_1 tables_1 room_1 Calls_1 rest_1 Pre_1 launch0 p0 e0 about1 theMethod args0 below0 :=
  ⟨lists_1, trivial, launch0.admits_env _ _ _, launch0.least_env, fairChoices_fair.cas, fairChoices_fair.clock, w_frames, w_args, w_heap, w_applies, trivial, trivial, w_case⟩
end start1
theorem witness_1 : WitnessClaimed_1 := ⟨start1.p0, start1.e0, start1.about1, start1.theMethod, start1.args0, start1.below0, start1.atStart⟩
end Jvm.Pilot.@@N@@
