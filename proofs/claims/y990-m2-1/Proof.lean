import JvmDerived
import JvmDerived.Pilot.@@N@@Statement
import JvmDerived.Pilot.@@N@@Code
set_option linter.unusedVariables false
set_option linter.unusedSimpArgs false
namespace Jvm.RoadKit
open Sem ClassFile Op Lib Jvm.Stand Jvm.Free Jvm.LawKit
section New
variable {p : Program} {l : Launch} {e : Env} {R : Room} {s : State} {m : MethodId} {args : Array Value} {below : List Frame} {meth : Method} {c : Code} {T : State} {locs : List Loc} {cells slots : Nat}
theorem retI (X : Stand p l e R s m args below meth c T locs cells slots) (hx : p.tables.exec = Jvm.exec) {pc : Nat} {Ls : Array Slot} {z : Int32} {rest : List Value} (hret : meth.sig.returnType = some .int) (hd : decode c.code pc = .ok (.ireturn, 1)) {fs : List Frame}
    (hl : ∀ (f : JFrame) (acts : List Action), f.method = m → f.locked = none → f.entered = [] → (doReturn e (T.setTop f) acts (some (.int z))).1 = T.setFrames fs) : Steps p.tables e below (T.setTop (mkF m pc Ls (.int z :: rest))) (T.setFrames fs) := by
  have hm' : T.vm.method? m = some meth := X.method'
  have hn : narrow .int (.int z) = .int z := rfl
  show Steps p.tables e below (T.setTop { method := m, pc := pc, locals := Ls, stack := _ :: rest, locked := none }) _
  jvm_step X.here [X.here.top, hx, hd, hm', hret, hn]
  first | (intro acts; rw [hl _ acts rfl rfl rfl]) | rw [hl _ _ rfl rfl rfl]
  exact Steps.refl _
end New
end Jvm.RoadKit
namespace Jvm.Pilot.@@N@@
open Jvm Jvm.ClassFile Sem Op Lib Jvm.Free Jvm.Stand Jvm.LawKit Jvm.RoadKit Bundle Jvm.Pilot.@@N@@.Jvm.D
theorem own_dupX1 {tb : Tables} [Ours tb] {e : Env} {below : List Frame} {T target : State} {m : MethodId} {c : Code} {g : JFrame} (h : At T m c below) (hx : tb.exec = Jvm.exec) (hg : g.method = m) {x y : Value} {rest : List Value} (hd : decode c.code g.pc = .ok (.dup_x1, 1)) (hs : g.stack = x :: y :: rest) (hc : x.category = 1) (hcy : y.category = 1)
    (hr : Steps tb e below (T.setTop { g with pc := g.pc + 1, stack := x :: y :: x :: rest }) target) : Steps tb e below (T.setTop g) target := by
  subst hg
  jvm_step h [h.top, hx, hd, hs, hc, hcy, Op.dup_x1.wp_sem]
  exact hr
theorem own_mvN {own host : String} {y : MethodName} {index : Nat} {Z s : State} {a0 args : Array Value} (hZ : Z.Warmed39 s.vm) (w : (Jvm.Cond.methodLinkNest own index y host).before a0 Z = true) : (Jvm.Cond.methodLinkNest own index y host).before args s = true := (Cond.methodLinkNest_wide hZ w :)
theorem own_lt (a b : Int32) : a < b ↔ a.toInt < b.toInt := Int32.lt_iff_toInt_lt
theorem own_irr (n : Int32) : ¬ n < n := by rw [own_lt]; omega
theorem own_nat (j : Int32) (h : 0 ≤ j.toInt) : (j.toNatClampNeg : Int) = j.toInt := Int.toNat_of_nonneg h
theorem own_inc (i : Int32) (h0 : 0 ≤ i.toInt) (h1 : i.toInt ≤ 2001) : (i + (1 : Int32)).toInt = i.toInt + 1 := by
  have q := c_iadd i 1
  simp only [Int32.reduceToInt] at q
  have := rng32 (i + 1)
  omega
theorem Sta.keepN {Z : State} {h h' : Heap} {C n d : String} {v : Value} {ws : List Addr} (F : Sta Z h C n d v) (K : Keep h h' ws) (hf : ∀ x ∈ ws, ∀ cell : Cell, h[x]? = some cell → cell.vm.isStatics = false) : Sta Z h' C n d v := by
  obtain ⟨cf, i, k, f, st, cell, h1, h2, h3, h4, h5, h6, h7⟩ := F
  exact ⟨cf, i, k, f, st, cell, h1, h2, h3, h4, K.2.1 st cell h5 (fun q => by rw [hf st q cell h5] at h6; cases h6), h6, h7⟩
theorem own_one {h : Heap} {a : Addr} (q : ∀ cell : Cell, h[a]? = some cell → cell.vm.isStatics = false) : ∀ x ∈ [a], ∀ cell : Cell, h[x]? = some cell → cell.vm.isStatics = false := fun x hx => by rw [List.mem_singleton.mp hx]; exact q
theorem own_nin {a b : Addr} (q : a ≠ b) : a ∉ [b] := fun r => q (List.mem_singleton.mp r)
def Ali (Z : State) (h : Heap) (a : Addr) (ev : Value) (sz mc : Int32) : Prop := Exa Z h a "java/util/ArrayList" ∧ Fld Z h a "java/util/ArrayList" "elementData" "[Ljava/lang/Object;" ev ∧ Fld Z h a "java/util/ArrayList" "size" "I" (.int sz) ∧ Fld Z h a "java/util/AbstractList" "modCount" "I" (.int mc)
def PAr (Z : State) (h : Heap) (a : Addr) (n : Int32) (i : Nat) (P : Addr → Prop) : Prop := ∃ c : Cell, Arr Z h a c (.object "java/lang/Object") ∧ Ovr Z c.cls "java/lang/Object" ∧ Exa Z h a "[Ljava/lang/Object;" ∧ c.slots.size = n.toNatClampNeg ∧ ¬ n < 0 ∧ ∀ k, k < i → ∃ b, c.slots[k]? = some (.ref b) ∧ P b
section Lists
variable {Z : State} {a0 : Array Value} {h h' h1 h2 : Heap} {a b ar : Addr} {ev v : Value} {sz mc n : Int32} {i sl : Nat} {P P' : Addr → Prop} {ws : List Addr}
theorem ne_elementData_size (hw : ∀ d ∈ tables_1, d.before a0 Z = true) : (Jvm.RoadKit.slotOf Z "java/util/ArrayList" "elementData" "[Ljava/lang/Object;") ≠ (Jvm.RoadKit.slotOf Z "java/util/ArrayList" "size" "I") := slot_ne (Or.inl (hw _ (List.mem_of_getElem? (i := 27) rfl))) (Or.inl (hw _ (List.mem_of_getElem? (i := 65) rfl))) (by decide) (t := (.array (.object "java/lang/Object"))) (t' := .int) (by decide) (by decide)
theorem ne_elementData_modCount (hw : ∀ d ∈ tables_1, d.before a0 Z = true) : (Jvm.RoadKit.slotOf Z "java/util/ArrayList" "elementData" "[Ljava/lang/Object;") ≠ (Jvm.RoadKit.slotOf Z "java/util/AbstractList" "modCount" "I") := slot_ne (Or.inl (hw _ (List.mem_of_getElem? (i := 27) rfl))) (Or.inl (hw _ (List.mem_of_getElem? (i := 24) rfl))) (by decide) (t := (.array (.object "java/lang/Object"))) (t' := .int) (by decide) (by decide)
theorem ne_size_elementData (hw : ∀ d ∈ tables_1, d.before a0 Z = true) : (Jvm.RoadKit.slotOf Z "java/util/ArrayList" "size" "I") ≠ (Jvm.RoadKit.slotOf Z "java/util/ArrayList" "elementData" "[Ljava/lang/Object;") := slot_ne (Or.inl (hw _ (List.mem_of_getElem? (i := 65) rfl))) (Or.inl (hw _ (List.mem_of_getElem? (i := 27) rfl))) (by decide) (t := .int) (t' := (.array (.object "java/lang/Object"))) (by decide) (by decide)
theorem ne_size_modCount (hw : ∀ d ∈ tables_1, d.before a0 Z = true) : (Jvm.RoadKit.slotOf Z "java/util/ArrayList" "size" "I") ≠ (Jvm.RoadKit.slotOf Z "java/util/AbstractList" "modCount" "I") := slot_ne (Or.inl (hw _ (List.mem_of_getElem? (i := 65) rfl))) (Or.inl (hw _ (List.mem_of_getElem? (i := 24) rfl))) (by decide) (t := .int) (t' := .int) (by decide) (by decide)
theorem ne_modCount_elementData (hw : ∀ d ∈ tables_1, d.before a0 Z = true) : (Jvm.RoadKit.slotOf Z "java/util/AbstractList" "modCount" "I") ≠ (Jvm.RoadKit.slotOf Z "java/util/ArrayList" "elementData" "[Ljava/lang/Object;") := slot_ne (Or.inl (hw _ (List.mem_of_getElem? (i := 24) rfl))) (Or.inl (hw _ (List.mem_of_getElem? (i := 27) rfl))) (by decide) (t := .int) (t' := (.array (.object "java/lang/Object"))) (by decide) (by decide)
theorem ne_modCount_size (hw : ∀ d ∈ tables_1, d.before a0 Z = true) : (Jvm.RoadKit.slotOf Z "java/util/AbstractList" "modCount" "I") ≠ (Jvm.RoadKit.slotOf Z "java/util/ArrayList" "size" "I") := slot_ne (Or.inl (hw _ (List.mem_of_getElem? (i := 24) rfl))) (Or.inl (hw _ (List.mem_of_getElem? (i := 65) rfl))) (by decide) (t := .int) (t' := .int) (by decide) (by decide)
theorem ne_this_cursor (hw : ∀ d ∈ tables_1, d.before a0 Z = true) : (Jvm.RoadKit.slotOf Z "java/util/ArrayList$Itr" "this$0" "Ljava/util/ArrayList;") ≠ (Jvm.RoadKit.slotOf Z "java/util/ArrayList$Itr" "cursor" "I") := slot_ne (Or.inr (hw _ (List.mem_of_getElem? (i := 135) rfl))) (Or.inl (hw _ (List.mem_of_getElem? (i := 152) rfl))) (by decide) (t := (.object "java/util/ArrayList")) (t' := .int) (by decide) (by decide)
theorem ne_this_lastRet (hw : ∀ d ∈ tables_1, d.before a0 Z = true) : (Jvm.RoadKit.slotOf Z "java/util/ArrayList$Itr" "this$0" "Ljava/util/ArrayList;") ≠ (Jvm.RoadKit.slotOf Z "java/util/ArrayList$Itr" "lastRet" "I") := slot_ne (Or.inr (hw _ (List.mem_of_getElem? (i := 135) rfl))) (Or.inl (hw _ (List.mem_of_getElem? (i := 138) rfl))) (by decide) (t := (.object "java/util/ArrayList")) (t' := .int) (by decide) (by decide)
theorem ne_this_expectedModCount (hw : ∀ d ∈ tables_1, d.before a0 Z = true) : (Jvm.RoadKit.slotOf Z "java/util/ArrayList$Itr" "this$0" "Ljava/util/ArrayList;") ≠ (Jvm.RoadKit.slotOf Z "java/util/ArrayList$Itr" "expectedModCount" "I") := slot_ne (Or.inr (hw _ (List.mem_of_getElem? (i := 135) rfl))) (Or.inl (hw _ (List.mem_of_getElem? (i := 141) rfl))) (by decide) (t := (.object "java/util/ArrayList")) (t' := .int) (by decide) (by decide)
theorem ne_cursor_this (hw : ∀ d ∈ tables_1, d.before a0 Z = true) : (Jvm.RoadKit.slotOf Z "java/util/ArrayList$Itr" "cursor" "I") ≠ (Jvm.RoadKit.slotOf Z "java/util/ArrayList$Itr" "this$0" "Ljava/util/ArrayList;") := slot_ne (Or.inl (hw _ (List.mem_of_getElem? (i := 152) rfl))) (Or.inr (hw _ (List.mem_of_getElem? (i := 135) rfl))) (by decide) (t := .int) (t' := (.object "java/util/ArrayList")) (by decide) (by decide)
theorem ne_cursor_lastRet (hw : ∀ d ∈ tables_1, d.before a0 Z = true) : (Jvm.RoadKit.slotOf Z "java/util/ArrayList$Itr" "cursor" "I") ≠ (Jvm.RoadKit.slotOf Z "java/util/ArrayList$Itr" "lastRet" "I") := slot_ne (Or.inl (hw _ (List.mem_of_getElem? (i := 152) rfl))) (Or.inl (hw _ (List.mem_of_getElem? (i := 138) rfl))) (by decide) (t := .int) (t' := .int) (by decide) (by decide)
theorem ne_cursor_expectedModCount (hw : ∀ d ∈ tables_1, d.before a0 Z = true) : (Jvm.RoadKit.slotOf Z "java/util/ArrayList$Itr" "cursor" "I") ≠ (Jvm.RoadKit.slotOf Z "java/util/ArrayList$Itr" "expectedModCount" "I") := slot_ne (Or.inl (hw _ (List.mem_of_getElem? (i := 152) rfl))) (Or.inl (hw _ (List.mem_of_getElem? (i := 141) rfl))) (by decide) (t := .int) (t' := .int) (by decide) (by decide)
theorem ne_lastRet_this (hw : ∀ d ∈ tables_1, d.before a0 Z = true) : (Jvm.RoadKit.slotOf Z "java/util/ArrayList$Itr" "lastRet" "I") ≠ (Jvm.RoadKit.slotOf Z "java/util/ArrayList$Itr" "this$0" "Ljava/util/ArrayList;") := slot_ne (Or.inl (hw _ (List.mem_of_getElem? (i := 138) rfl))) (Or.inr (hw _ (List.mem_of_getElem? (i := 135) rfl))) (by decide) (t := .int) (t' := (.object "java/util/ArrayList")) (by decide) (by decide)
theorem ne_lastRet_cursor (hw : ∀ d ∈ tables_1, d.before a0 Z = true) : (Jvm.RoadKit.slotOf Z "java/util/ArrayList$Itr" "lastRet" "I") ≠ (Jvm.RoadKit.slotOf Z "java/util/ArrayList$Itr" "cursor" "I") := slot_ne (Or.inl (hw _ (List.mem_of_getElem? (i := 138) rfl))) (Or.inl (hw _ (List.mem_of_getElem? (i := 152) rfl))) (by decide) (t := .int) (t' := .int) (by decide) (by decide)
theorem ne_lastRet_expectedModCount (hw : ∀ d ∈ tables_1, d.before a0 Z = true) : (Jvm.RoadKit.slotOf Z "java/util/ArrayList$Itr" "lastRet" "I") ≠ (Jvm.RoadKit.slotOf Z "java/util/ArrayList$Itr" "expectedModCount" "I") := slot_ne (Or.inl (hw _ (List.mem_of_getElem? (i := 138) rfl))) (Or.inl (hw _ (List.mem_of_getElem? (i := 141) rfl))) (by decide) (t := .int) (t' := .int) (by decide) (by decide)
theorem ne_expectedModCount_this (hw : ∀ d ∈ tables_1, d.before a0 Z = true) : (Jvm.RoadKit.slotOf Z "java/util/ArrayList$Itr" "expectedModCount" "I") ≠ (Jvm.RoadKit.slotOf Z "java/util/ArrayList$Itr" "this$0" "Ljava/util/ArrayList;") := slot_ne (Or.inl (hw _ (List.mem_of_getElem? (i := 141) rfl))) (Or.inr (hw _ (List.mem_of_getElem? (i := 135) rfl))) (by decide) (t := .int) (t' := (.object "java/util/ArrayList")) (by decide) (by decide)
theorem ne_expectedModCount_cursor (hw : ∀ d ∈ tables_1, d.before a0 Z = true) : (Jvm.RoadKit.slotOf Z "java/util/ArrayList$Itr" "expectedModCount" "I") ≠ (Jvm.RoadKit.slotOf Z "java/util/ArrayList$Itr" "cursor" "I") := slot_ne (Or.inl (hw _ (List.mem_of_getElem? (i := 141) rfl))) (Or.inl (hw _ (List.mem_of_getElem? (i := 152) rfl))) (by decide) (t := .int) (t' := .int) (by decide) (by decide)
theorem ne_expectedModCount_lastRet (hw : ∀ d ∈ tables_1, d.before a0 Z = true) : (Jvm.RoadKit.slotOf Z "java/util/ArrayList$Itr" "expectedModCount" "I") ≠ (Jvm.RoadKit.slotOf Z "java/util/ArrayList$Itr" "lastRet" "I") := slot_ne (Or.inl (hw _ (List.mem_of_getElem? (i := 141) rfl))) (Or.inl (hw _ (List.mem_of_getElem? (i := 138) rfl))) (by decide) (t := .int) (t' := .int) (by decide) (by decide)
theorem ne_zones_nodes (hw : ∀ d ∈ tables_1, d.before a0 Z = true) : (Jvm.RoadKit.slotOf Z "com/example/trips_into_trajectories/tripsintotrajectories/network/Network" "zones" "I") ≠ (Jvm.RoadKit.slotOf Z "com/example/trips_into_trajectories/tripsintotrajectories/network/Network" "nodes" "I") := slot_ne (Or.inr (hw _ (List.mem_of_getElem? (i := 36) rfl))) (Or.inr (hw _ (List.mem_of_getElem? (i := 38) rfl))) (by decide) (t := .int) (t' := .int) (by decide) (by decide)
theorem ne_zones_firstThruNode (hw : ∀ d ∈ tables_1, d.before a0 Z = true) : (Jvm.RoadKit.slotOf Z "com/example/trips_into_trajectories/tripsintotrajectories/network/Network" "zones" "I") ≠ (Jvm.RoadKit.slotOf Z "com/example/trips_into_trajectories/tripsintotrajectories/network/Network" "firstThruNode" "I") := slot_ne (Or.inr (hw _ (List.mem_of_getElem? (i := 36) rfl))) (Or.inr (hw _ (List.mem_of_getElem? (i := 40) rfl))) (by decide) (t := .int) (t' := .int) (by decide) (by decide)
theorem ne_zones_links (hw : ∀ d ∈ tables_1, d.before a0 Z = true) : (Jvm.RoadKit.slotOf Z "com/example/trips_into_trajectories/tripsintotrajectories/network/Network" "zones" "I") ≠ (Jvm.RoadKit.slotOf Z "com/example/trips_into_trajectories/tripsintotrajectories/network/Network" "links" "Ljava/util/List;") := slot_ne (Or.inr (hw _ (List.mem_of_getElem? (i := 36) rfl))) (Or.inr (hw _ (List.mem_of_getElem? (i := 71) rfl))) (by decide) (t := .int) (t' := (.object "java/util/List")) (by decide) (by decide)
theorem ne_zones_outgoing (hw : ∀ d ∈ tables_1, d.before a0 Z = true) : (Jvm.RoadKit.slotOf Z "com/example/trips_into_trajectories/tripsintotrajectories/network/Network" "zones" "I") ≠ (Jvm.RoadKit.slotOf Z "com/example/trips_into_trajectories/tripsintotrajectories/network/Network" "outgoing" "Ljava/util/List;") := slot_ne (Or.inr (hw _ (List.mem_of_getElem? (i := 36) rfl))) (Or.inr (hw _ (List.mem_of_getElem? (i := 234) rfl))) (by decide) (t := .int) (t' := (.object "java/util/List")) (by decide) (by decide)
theorem ne_zones_incoming (hw : ∀ d ∈ tables_1, d.before a0 Z = true) : (Jvm.RoadKit.slotOf Z "com/example/trips_into_trajectories/tripsintotrajectories/network/Network" "zones" "I") ≠ (Jvm.RoadKit.slotOf Z "com/example/trips_into_trajectories/tripsintotrajectories/network/Network" "incoming" "Ljava/util/List;") := slot_ne (Or.inr (hw _ (List.mem_of_getElem? (i := 36) rfl))) (Or.inr (hw _ (List.mem_of_getElem? (i := 236) rfl))) (by decide) (t := .int) (t' := (.object "java/util/List")) (by decide) (by decide)
theorem ne_nodes_zones (hw : ∀ d ∈ tables_1, d.before a0 Z = true) : (Jvm.RoadKit.slotOf Z "com/example/trips_into_trajectories/tripsintotrajectories/network/Network" "nodes" "I") ≠ (Jvm.RoadKit.slotOf Z "com/example/trips_into_trajectories/tripsintotrajectories/network/Network" "zones" "I") := slot_ne (Or.inr (hw _ (List.mem_of_getElem? (i := 38) rfl))) (Or.inr (hw _ (List.mem_of_getElem? (i := 36) rfl))) (by decide) (t := .int) (t' := .int) (by decide) (by decide)
theorem ne_nodes_firstThruNode (hw : ∀ d ∈ tables_1, d.before a0 Z = true) : (Jvm.RoadKit.slotOf Z "com/example/trips_into_trajectories/tripsintotrajectories/network/Network" "nodes" "I") ≠ (Jvm.RoadKit.slotOf Z "com/example/trips_into_trajectories/tripsintotrajectories/network/Network" "firstThruNode" "I") := slot_ne (Or.inr (hw _ (List.mem_of_getElem? (i := 38) rfl))) (Or.inr (hw _ (List.mem_of_getElem? (i := 40) rfl))) (by decide) (t := .int) (t' := .int) (by decide) (by decide)
theorem ne_nodes_links (hw : ∀ d ∈ tables_1, d.before a0 Z = true) : (Jvm.RoadKit.slotOf Z "com/example/trips_into_trajectories/tripsintotrajectories/network/Network" "nodes" "I") ≠ (Jvm.RoadKit.slotOf Z "com/example/trips_into_trajectories/tripsintotrajectories/network/Network" "links" "Ljava/util/List;") := slot_ne (Or.inr (hw _ (List.mem_of_getElem? (i := 38) rfl))) (Or.inr (hw _ (List.mem_of_getElem? (i := 71) rfl))) (by decide) (t := .int) (t' := (.object "java/util/List")) (by decide) (by decide)
theorem ne_nodes_outgoing (hw : ∀ d ∈ tables_1, d.before a0 Z = true) : (Jvm.RoadKit.slotOf Z "com/example/trips_into_trajectories/tripsintotrajectories/network/Network" "nodes" "I") ≠ (Jvm.RoadKit.slotOf Z "com/example/trips_into_trajectories/tripsintotrajectories/network/Network" "outgoing" "Ljava/util/List;") := slot_ne (Or.inr (hw _ (List.mem_of_getElem? (i := 38) rfl))) (Or.inr (hw _ (List.mem_of_getElem? (i := 234) rfl))) (by decide) (t := .int) (t' := (.object "java/util/List")) (by decide) (by decide)
theorem ne_nodes_incoming (hw : ∀ d ∈ tables_1, d.before a0 Z = true) : (Jvm.RoadKit.slotOf Z "com/example/trips_into_trajectories/tripsintotrajectories/network/Network" "nodes" "I") ≠ (Jvm.RoadKit.slotOf Z "com/example/trips_into_trajectories/tripsintotrajectories/network/Network" "incoming" "Ljava/util/List;") := slot_ne (Or.inr (hw _ (List.mem_of_getElem? (i := 38) rfl))) (Or.inr (hw _ (List.mem_of_getElem? (i := 236) rfl))) (by decide) (t := .int) (t' := (.object "java/util/List")) (by decide) (by decide)
theorem ne_firstThruNode_zones (hw : ∀ d ∈ tables_1, d.before a0 Z = true) : (Jvm.RoadKit.slotOf Z "com/example/trips_into_trajectories/tripsintotrajectories/network/Network" "firstThruNode" "I") ≠ (Jvm.RoadKit.slotOf Z "com/example/trips_into_trajectories/tripsintotrajectories/network/Network" "zones" "I") := slot_ne (Or.inr (hw _ (List.mem_of_getElem? (i := 40) rfl))) (Or.inr (hw _ (List.mem_of_getElem? (i := 36) rfl))) (by decide) (t := .int) (t' := .int) (by decide) (by decide)
theorem ne_firstThruNode_nodes (hw : ∀ d ∈ tables_1, d.before a0 Z = true) : (Jvm.RoadKit.slotOf Z "com/example/trips_into_trajectories/tripsintotrajectories/network/Network" "firstThruNode" "I") ≠ (Jvm.RoadKit.slotOf Z "com/example/trips_into_trajectories/tripsintotrajectories/network/Network" "nodes" "I") := slot_ne (Or.inr (hw _ (List.mem_of_getElem? (i := 40) rfl))) (Or.inr (hw _ (List.mem_of_getElem? (i := 38) rfl))) (by decide) (t := .int) (t' := .int) (by decide) (by decide)
theorem ne_firstThruNode_links (hw : ∀ d ∈ tables_1, d.before a0 Z = true) : (Jvm.RoadKit.slotOf Z "com/example/trips_into_trajectories/tripsintotrajectories/network/Network" "firstThruNode" "I") ≠ (Jvm.RoadKit.slotOf Z "com/example/trips_into_trajectories/tripsintotrajectories/network/Network" "links" "Ljava/util/List;") := slot_ne (Or.inr (hw _ (List.mem_of_getElem? (i := 40) rfl))) (Or.inr (hw _ (List.mem_of_getElem? (i := 71) rfl))) (by decide) (t := .int) (t' := (.object "java/util/List")) (by decide) (by decide)
theorem ne_firstThruNode_outgoing (hw : ∀ d ∈ tables_1, d.before a0 Z = true) : (Jvm.RoadKit.slotOf Z "com/example/trips_into_trajectories/tripsintotrajectories/network/Network" "firstThruNode" "I") ≠ (Jvm.RoadKit.slotOf Z "com/example/trips_into_trajectories/tripsintotrajectories/network/Network" "outgoing" "Ljava/util/List;") := slot_ne (Or.inr (hw _ (List.mem_of_getElem? (i := 40) rfl))) (Or.inr (hw _ (List.mem_of_getElem? (i := 234) rfl))) (by decide) (t := .int) (t' := (.object "java/util/List")) (by decide) (by decide)
theorem ne_firstThruNode_incoming (hw : ∀ d ∈ tables_1, d.before a0 Z = true) : (Jvm.RoadKit.slotOf Z "com/example/trips_into_trajectories/tripsintotrajectories/network/Network" "firstThruNode" "I") ≠ (Jvm.RoadKit.slotOf Z "com/example/trips_into_trajectories/tripsintotrajectories/network/Network" "incoming" "Ljava/util/List;") := slot_ne (Or.inr (hw _ (List.mem_of_getElem? (i := 40) rfl))) (Or.inr (hw _ (List.mem_of_getElem? (i := 236) rfl))) (by decide) (t := .int) (t' := (.object "java/util/List")) (by decide) (by decide)
theorem ne_links_zones (hw : ∀ d ∈ tables_1, d.before a0 Z = true) : (Jvm.RoadKit.slotOf Z "com/example/trips_into_trajectories/tripsintotrajectories/network/Network" "links" "Ljava/util/List;") ≠ (Jvm.RoadKit.slotOf Z "com/example/trips_into_trajectories/tripsintotrajectories/network/Network" "zones" "I") := slot_ne (Or.inr (hw _ (List.mem_of_getElem? (i := 71) rfl))) (Or.inr (hw _ (List.mem_of_getElem? (i := 36) rfl))) (by decide) (t := (.object "java/util/List")) (t' := .int) (by decide) (by decide)
theorem ne_links_nodes (hw : ∀ d ∈ tables_1, d.before a0 Z = true) : (Jvm.RoadKit.slotOf Z "com/example/trips_into_trajectories/tripsintotrajectories/network/Network" "links" "Ljava/util/List;") ≠ (Jvm.RoadKit.slotOf Z "com/example/trips_into_trajectories/tripsintotrajectories/network/Network" "nodes" "I") := slot_ne (Or.inr (hw _ (List.mem_of_getElem? (i := 71) rfl))) (Or.inr (hw _ (List.mem_of_getElem? (i := 38) rfl))) (by decide) (t := (.object "java/util/List")) (t' := .int) (by decide) (by decide)
theorem ne_links_firstThruNode (hw : ∀ d ∈ tables_1, d.before a0 Z = true) : (Jvm.RoadKit.slotOf Z "com/example/trips_into_trajectories/tripsintotrajectories/network/Network" "links" "Ljava/util/List;") ≠ (Jvm.RoadKit.slotOf Z "com/example/trips_into_trajectories/tripsintotrajectories/network/Network" "firstThruNode" "I") := slot_ne (Or.inr (hw _ (List.mem_of_getElem? (i := 71) rfl))) (Or.inr (hw _ (List.mem_of_getElem? (i := 40) rfl))) (by decide) (t := (.object "java/util/List")) (t' := .int) (by decide) (by decide)
theorem ne_links_outgoing (hw : ∀ d ∈ tables_1, d.before a0 Z = true) : (Jvm.RoadKit.slotOf Z "com/example/trips_into_trajectories/tripsintotrajectories/network/Network" "links" "Ljava/util/List;") ≠ (Jvm.RoadKit.slotOf Z "com/example/trips_into_trajectories/tripsintotrajectories/network/Network" "outgoing" "Ljava/util/List;") := slot_ne (Or.inr (hw _ (List.mem_of_getElem? (i := 71) rfl))) (Or.inr (hw _ (List.mem_of_getElem? (i := 234) rfl))) (by decide) (t := (.object "java/util/List")) (t' := (.object "java/util/List")) (by decide) (by decide)
theorem ne_links_incoming (hw : ∀ d ∈ tables_1, d.before a0 Z = true) : (Jvm.RoadKit.slotOf Z "com/example/trips_into_trajectories/tripsintotrajectories/network/Network" "links" "Ljava/util/List;") ≠ (Jvm.RoadKit.slotOf Z "com/example/trips_into_trajectories/tripsintotrajectories/network/Network" "incoming" "Ljava/util/List;") := slot_ne (Or.inr (hw _ (List.mem_of_getElem? (i := 71) rfl))) (Or.inr (hw _ (List.mem_of_getElem? (i := 236) rfl))) (by decide) (t := (.object "java/util/List")) (t' := (.object "java/util/List")) (by decide) (by decide)
theorem ne_outgoing_zones (hw : ∀ d ∈ tables_1, d.before a0 Z = true) : (Jvm.RoadKit.slotOf Z "com/example/trips_into_trajectories/tripsintotrajectories/network/Network" "outgoing" "Ljava/util/List;") ≠ (Jvm.RoadKit.slotOf Z "com/example/trips_into_trajectories/tripsintotrajectories/network/Network" "zones" "I") := slot_ne (Or.inr (hw _ (List.mem_of_getElem? (i := 234) rfl))) (Or.inr (hw _ (List.mem_of_getElem? (i := 36) rfl))) (by decide) (t := (.object "java/util/List")) (t' := .int) (by decide) (by decide)
theorem ne_outgoing_nodes (hw : ∀ d ∈ tables_1, d.before a0 Z = true) : (Jvm.RoadKit.slotOf Z "com/example/trips_into_trajectories/tripsintotrajectories/network/Network" "outgoing" "Ljava/util/List;") ≠ (Jvm.RoadKit.slotOf Z "com/example/trips_into_trajectories/tripsintotrajectories/network/Network" "nodes" "I") := slot_ne (Or.inr (hw _ (List.mem_of_getElem? (i := 234) rfl))) (Or.inr (hw _ (List.mem_of_getElem? (i := 38) rfl))) (by decide) (t := (.object "java/util/List")) (t' := .int) (by decide) (by decide)
theorem ne_outgoing_firstThruNode (hw : ∀ d ∈ tables_1, d.before a0 Z = true) : (Jvm.RoadKit.slotOf Z "com/example/trips_into_trajectories/tripsintotrajectories/network/Network" "outgoing" "Ljava/util/List;") ≠ (Jvm.RoadKit.slotOf Z "com/example/trips_into_trajectories/tripsintotrajectories/network/Network" "firstThruNode" "I") := slot_ne (Or.inr (hw _ (List.mem_of_getElem? (i := 234) rfl))) (Or.inr (hw _ (List.mem_of_getElem? (i := 40) rfl))) (by decide) (t := (.object "java/util/List")) (t' := .int) (by decide) (by decide)
theorem ne_outgoing_links (hw : ∀ d ∈ tables_1, d.before a0 Z = true) : (Jvm.RoadKit.slotOf Z "com/example/trips_into_trajectories/tripsintotrajectories/network/Network" "outgoing" "Ljava/util/List;") ≠ (Jvm.RoadKit.slotOf Z "com/example/trips_into_trajectories/tripsintotrajectories/network/Network" "links" "Ljava/util/List;") := slot_ne (Or.inr (hw _ (List.mem_of_getElem? (i := 234) rfl))) (Or.inr (hw _ (List.mem_of_getElem? (i := 71) rfl))) (by decide) (t := (.object "java/util/List")) (t' := (.object "java/util/List")) (by decide) (by decide)
theorem ne_outgoing_incoming (hw : ∀ d ∈ tables_1, d.before a0 Z = true) : (Jvm.RoadKit.slotOf Z "com/example/trips_into_trajectories/tripsintotrajectories/network/Network" "outgoing" "Ljava/util/List;") ≠ (Jvm.RoadKit.slotOf Z "com/example/trips_into_trajectories/tripsintotrajectories/network/Network" "incoming" "Ljava/util/List;") := slot_ne (Or.inr (hw _ (List.mem_of_getElem? (i := 234) rfl))) (Or.inr (hw _ (List.mem_of_getElem? (i := 236) rfl))) (by decide) (t := (.object "java/util/List")) (t' := (.object "java/util/List")) (by decide) (by decide)
theorem ne_incoming_zones (hw : ∀ d ∈ tables_1, d.before a0 Z = true) : (Jvm.RoadKit.slotOf Z "com/example/trips_into_trajectories/tripsintotrajectories/network/Network" "incoming" "Ljava/util/List;") ≠ (Jvm.RoadKit.slotOf Z "com/example/trips_into_trajectories/tripsintotrajectories/network/Network" "zones" "I") := slot_ne (Or.inr (hw _ (List.mem_of_getElem? (i := 236) rfl))) (Or.inr (hw _ (List.mem_of_getElem? (i := 36) rfl))) (by decide) (t := (.object "java/util/List")) (t' := .int) (by decide) (by decide)
theorem ne_incoming_nodes (hw : ∀ d ∈ tables_1, d.before a0 Z = true) : (Jvm.RoadKit.slotOf Z "com/example/trips_into_trajectories/tripsintotrajectories/network/Network" "incoming" "Ljava/util/List;") ≠ (Jvm.RoadKit.slotOf Z "com/example/trips_into_trajectories/tripsintotrajectories/network/Network" "nodes" "I") := slot_ne (Or.inr (hw _ (List.mem_of_getElem? (i := 236) rfl))) (Or.inr (hw _ (List.mem_of_getElem? (i := 38) rfl))) (by decide) (t := (.object "java/util/List")) (t' := .int) (by decide) (by decide)
theorem ne_incoming_firstThruNode (hw : ∀ d ∈ tables_1, d.before a0 Z = true) : (Jvm.RoadKit.slotOf Z "com/example/trips_into_trajectories/tripsintotrajectories/network/Network" "incoming" "Ljava/util/List;") ≠ (Jvm.RoadKit.slotOf Z "com/example/trips_into_trajectories/tripsintotrajectories/network/Network" "firstThruNode" "I") := slot_ne (Or.inr (hw _ (List.mem_of_getElem? (i := 236) rfl))) (Or.inr (hw _ (List.mem_of_getElem? (i := 40) rfl))) (by decide) (t := (.object "java/util/List")) (t' := .int) (by decide) (by decide)
theorem ne_incoming_links (hw : ∀ d ∈ tables_1, d.before a0 Z = true) : (Jvm.RoadKit.slotOf Z "com/example/trips_into_trajectories/tripsintotrajectories/network/Network" "incoming" "Ljava/util/List;") ≠ (Jvm.RoadKit.slotOf Z "com/example/trips_into_trajectories/tripsintotrajectories/network/Network" "links" "Ljava/util/List;") := slot_ne (Or.inr (hw _ (List.mem_of_getElem? (i := 236) rfl))) (Or.inr (hw _ (List.mem_of_getElem? (i := 71) rfl))) (by decide) (t := (.object "java/util/List")) (t' := (.object "java/util/List")) (by decide) (by decide)
theorem ne_incoming_outgoing (hw : ∀ d ∈ tables_1, d.before a0 Z = true) : (Jvm.RoadKit.slotOf Z "com/example/trips_into_trajectories/tripsintotrajectories/network/Network" "incoming" "Ljava/util/List;") ≠ (Jvm.RoadKit.slotOf Z "com/example/trips_into_trajectories/tripsintotrajectories/network/Network" "outgoing" "Ljava/util/List;") := slot_ne (Or.inr (hw _ (List.mem_of_getElem? (i := 236) rfl))) (Or.inr (hw _ (List.mem_of_getElem? (i := 234) rfl))) (by decide) (t := (.object "java/util/List")) (t' := (.object "java/util/List")) (by decide) (by decide)
theorem ne_e0_e1 (hw : ∀ d ∈ tables_1, d.before a0 Z = true) : (Jvm.RoadKit.slotOf Z "java/util/ImmutableCollections$List12" "e0" "Ljava/lang/Object;") ≠ (Jvm.RoadKit.slotOf Z "java/util/ImmutableCollections$List12" "e1" "Ljava/lang/Object;") := slot_ne (Or.inr (hw _ (List.mem_of_getElem? (i := 230) rfl))) (Or.inr (hw _ (List.mem_of_getElem? (i := 232) rfl))) (by decide) (t := (.object "java/lang/Object")) (t' := (.object "java/lang/Object")) (by decide) (by decide)
theorem ne_e1_e0 (hw : ∀ d ∈ tables_1, d.before a0 Z = true) : (Jvm.RoadKit.slotOf Z "java/util/ImmutableCollections$List12" "e1" "Ljava/lang/Object;") ≠ (Jvm.RoadKit.slotOf Z "java/util/ImmutableCollections$List12" "e0" "Ljava/lang/Object;") := slot_ne (Or.inr (hw _ (List.mem_of_getElem? (i := 232) rfl))) (Or.inr (hw _ (List.mem_of_getElem? (i := 230) rfl))) (by decide) (t := (.object "java/lang/Object")) (t' := (.object "java/lang/Object")) (by decide) (by decide)
theorem ne_elements_allowNulls (hw : ∀ d ∈ tables_1, d.before a0 Z = true) : (Jvm.RoadKit.slotOf Z "java/util/ImmutableCollections$ListN" "elements" "[Ljava/lang/Object;") ≠ (Jvm.RoadKit.slotOf Z "java/util/ImmutableCollections$ListN" "allowNulls" "Z") := slot_ne (Or.inr (hw _ (List.mem_of_getElem? (i := 110) rfl))) (Or.inr (hw _ (List.mem_of_getElem? (i := 262) rfl))) (by decide) (t := (.array (.object "java/lang/Object"))) (t' := .boolean) (by decide) (by decide)
theorem ne_allowNulls_elements (hw : ∀ d ∈ tables_1, d.before a0 Z = true) : (Jvm.RoadKit.slotOf Z "java/util/ImmutableCollections$ListN" "allowNulls" "Z") ≠ (Jvm.RoadKit.slotOf Z "java/util/ImmutableCollections$ListN" "elements" "[Ljava/lang/Object;") := slot_ne (Or.inr (hw _ (List.mem_of_getElem? (i := 262) rfl))) (Or.inr (hw _ (List.mem_of_getElem? (i := 110) rfl))) (by decide) (t := .boolean) (t' := (.array (.object "java/lang/Object"))) (by decide) (by decide)
theorem Ali.ext (A : Ali Z h a ev sz mc) (E : Ext h h') : Ali Z h' a ev sz mc := ⟨A.1.ext E, A.2.1.ext E, A.2.2.1.ext E, A.2.2.2.ext E⟩
theorem Ali.keep (A : Ali Z h a ev sz mc) (K : Keep h h' ws) (q : a ∉ ws) : Ali Z h' a ev sz mc := ⟨A.1.keep K, A.2.1.keep K q, A.2.2.1.keep K q, A.2.2.2.keep K q⟩
theorem Ali.other (A : Ali Z h a ev sz mc) (W : Wr h h' b sl v) (q : a ≠ b) : Ali Z h' a ev sz mc := ⟨A.1.wr W, A.2.1.other W (Or.inl q), A.2.2.1.other W (Or.inl q), A.2.2.2.other W (Or.inl q)⟩
theorem Ali.wrE (hw : ∀ d ∈ tables_1, d.before a0 Z = true) (A : Ali Z h a ev sz mc) (W : Wr h h' a (Jvm.RoadKit.slotOf Z "java/util/ArrayList" "elementData" "[Ljava/lang/Object;") v) : Ali Z h' a v sz mc := ⟨A.1.wr W, A.2.1.same W, A.2.2.1.other W (Or.inr (ne_size_elementData hw)), A.2.2.2.other W (Or.inr (ne_modCount_elementData hw))⟩
theorem Ali.wrS (hw : ∀ d ∈ tables_1, d.before a0 Z = true) {x : Int32} (A : Ali Z h a ev sz mc) (W : Wr h h' a (Jvm.RoadKit.slotOf Z "java/util/ArrayList" "size" "I") (.int x)) : Ali Z h' a ev x mc := ⟨A.1.wr W, A.2.1.other W (Or.inr (ne_elementData_size hw)), A.2.2.1.same W, A.2.2.2.other W (Or.inr (ne_modCount_size hw))⟩
theorem Ali.wrM (hw : ∀ d ∈ tables_1, d.before a0 Z = true) {x : Int32} (A : Ali Z h a ev sz mc) (W : Wr h h' a (Jvm.RoadKit.slotOf Z "java/util/AbstractList" "modCount" "I") (.int x)) : Ali Z h' a ev sz x := ⟨A.1.wr W, A.2.1.other W (Or.inr (ne_elementData_modCount hw)), A.2.2.1.other W (Or.inr (ne_size_modCount hw)), A.2.2.2.same W⟩
theorem PAr.exa (A : PAr Z h a n i P) : Exa Z h a "[Ljava/lang/Object;" := by obtain ⟨c, -, -, E, -⟩ := A; exact E
theorem PAr.lt (A : PAr Z h a n i P) : a < h.size := A.exa.lt
theorem PAr.ext (A : PAr Z h a n i P) (E : Ext h h') (hP : ∀ x, P x → P' x) : PAr Z h' a n i P' := by
  obtain ⟨c, A, O, Ex, S, M, H⟩ := A
  exact ⟨c, A.ext E, O, Ex.ext E, S, M, fun k hk => by obtain ⟨x, q1, q2⟩ := H k hk; exact ⟨x, q1, hP x q2⟩⟩
theorem PAr.mono (A : PAr Z h a n i P) (hP : ∀ x, P x → P' x) : PAr Z h a n i P' := by
  obtain ⟨c, A, O, Ex, S, M, H⟩ := A
  exact ⟨c, A, O, Ex, S, M, fun k hk => by obtain ⟨x, q1, q2⟩ := H k hk; exact ⟨x, q1, hP x q2⟩⟩
theorem PAr.keep (A : PAr Z h a n i P) (K : Keep h h' ws) (q : a ∉ ws) (hP : ∀ x, P x → P' x) : PAr Z h' a n i P' := by
  obtain ⟨c, A, O, Ex, S, M, H⟩ := A
  exact ⟨c, ⟨K.2.1 a c A.1 q, A.2⟩, O, Ex.keep K, S, M, fun k hk => by obtain ⟨x, q1, q2⟩ := H k hk; exact ⟨x, q1, hP x q2⟩⟩
theorem PAr.other (A : PAr Z h a n i P) (W : Wr h h' b sl v) (q : a ≠ b) (hP : ∀ x, P x → P' x) : PAr Z h' a n i P' := by
  obtain ⟨c, A, O, Ex, S, M, H⟩ := A
  exact ⟨c, A.other W q, O, Ex.wr W, S, M, fun k hk => by obtain ⟨x, q1, q2⟩ := H k hk; exact ⟨x, q1, hP x q2⟩⟩
theorem PAr.set (A : PAr Z h a n i P) (W : Wr h h' a i (.ref b)) (hi : i < n.toNatClampNeg) (hP : ∀ x, P x → P' x) (hb : P' b) : PAr Z h' a n (i + 1) P' := by
  obtain ⟨c, A, O, Ex, S, M, H⟩ := A
  refine ⟨c.setSlot i (.ref b), A.same W, O, Ex.wr W, by rw [sz_set]; exact S, M, fun k hk => ?_⟩
  by_cases e : k = i
  · subst e; exact ⟨b, Cell.slots_setSlot_self _ (by rw [S]; exact hi), hb⟩
  · obtain ⟨x, q1, q2⟩ := H k (by omega)
    exact ⟨x, by rw [Cell.slots_setSlot_ne _ (Ne.symm e)]; exact q1, hP x q2⟩
theorem own_ne (A : Ali Z h a ev sz mc) (B : PAr Z h b n i P) : a ≠ b := ne_exa A.1 B.exa (by decide)
theorem own_add (hw : ∀ d ∈ tables_1, d.before a0 Z = true) {sz mc : Int32} (A : Ali Z h a (.ref ar) sz mc) (B : PAr Z h ar n i P) (hi : sz.toNatClampNeg = i) (hl : i < n.toNatClampNeg) (W1 : Wr h h1 a (Jvm.RoadKit.slotOf Z "java/util/AbstractList" "modCount" "I") (.int (mc + 1))) (W2 : Wr h1 h2 ar sz.toNatClampNeg (.ref b)) (W3 : Wr h2 h' a (Jvm.RoadKit.slotOf Z "java/util/ArrayList" "size" "I") (.int (sz + 1))) (hP : ∀ x, P x → P' x) (hb : P' b) :
    Ali Z h' a (.ref ar) (sz + 1) (mc + 1) ∧ PAr Z h' ar n (i + 1) P' := by
  have ne := own_ne A B
  subst hi
  exact ⟨Ali.wrS hw ((Ali.wrM hw A W1).other W2 ne) W3, ((B.other W1 ne.symm (P' := P) (fun _ q => q)).set W2 hl hP hb).other W3 ne.symm (fun _ q => q)⟩
theorem own_keep3 {K0 : Heap} {a1 a2 a3 : Addr} {s1 s2 s3 : Nat} {v1 v2 v3 : Value} (K : Keep K0 h []) (W1 : Wr h h1 a1 s1 v1) (W2 : Wr h1 h2 a2 s2 v2) (W3 : Wr h2 h' a3 s3 v3) (g1 : K0.size ≤ a1) (g2 : K0.size ≤ a2) (g3 : K0.size ≤ a3) : Keep K0 h' [] := ((K.wr W1 (Or.inr g1)).wr W2 (Or.inr g2)).wr W3 (Or.inr g3)
def own_E (Z : State) (h : Heap) (b : Addr) : Prop := Exa Z h b "java/util/ArrayList" ∧ Fld Z h b "java/util/ArrayList" "size" "I" (.int (0 : Int32))
def LL (Z : State) (h : Heap) (a : Addr) (n : Int32) : Prop := ∃ ar mc, Ali Z h a (.ref ar) n mc ∧ PAr Z h ar n n.toNatClampNeg (own_E Z h)
theorem LL.keep (A : LL Z h a n) (K : Keep h h' []) : LL Z h' a n := by
  obtain ⟨ar, mc, A, B⟩ := A
  exact ⟨ar, mc, A.keep K nin0, B.keep K nin0 (fun x q => ⟨q.1.keep K, q.2.keep K nin0⟩)⟩
theorem LL.wr {C : String} (A : LL Z h a n) (W : Wr h h' b sl v) (E : Exa Z h b C) (q1 : "java/util/ArrayList" ≠ C) (q2 : "[Ljava/lang/Object;" ≠ C) : LL Z h' a n := by
  obtain ⟨ar, mc, A, B⟩ := A
  exact ⟨ar, mc, A.other W (ne_exa A.1 E q1), B.other W (ne_exa B.exa E q2) (fun x q => ⟨q.1.wr W, q.2.other W (Or.inl (ne_exa q.1 E q1))⟩)⟩
def Itp (Z : State) (h : Heap) (a la : Addr) (cur ex : Int32) : Prop := Exa Z h a "java/util/ArrayList$Itr" ∧ Fld Z h a "java/util/ArrayList$Itr" "this$0" "Ljava/util/ArrayList;" (.ref la) ∧ Fld Z h a "java/util/ArrayList$Itr" "cursor" "I" (.int cur) ∧ Fld Z h a "java/util/ArrayList$Itr" "expectedModCount" "I" (.int ex) ∧ ∃ lr : Int32, Fld Z h a "java/util/ArrayList$Itr" "lastRet" "I" (.int lr)
theorem Itp.ext {la : Addr} {cur ex : Int32} (A : Itp Z h a la cur ex) (E : Ext h h') : Itp Z h' a la cur ex := by
  obtain ⟨A1, A2, A3, A4, lr, A5⟩ := A; exact ⟨A1.ext E, A2.ext E, A3.ext E, A4.ext E, lr, A5.ext E⟩
theorem Itp.other {la : Addr} {cur ex : Int32} (A : Itp Z h a la cur ex) (W : Wr h h' b sl v) (q : a ≠ b) : Itp Z h' a la cur ex := by
  obtain ⟨A1, A2, A3, A4, lr, A5⟩ := A; exact ⟨A1.wr W, A2.other W (Or.inl q), A3.other W (Or.inl q), A4.other W (Or.inl q), lr, A5.other W (Or.inl q)⟩
theorem Itp.step (hw : ∀ d ∈ tables_1, d.before a0 Z = true) {la : Addr} {cur ex x y : Int32} (A : Itp Z h a la cur ex) (W1 : Wr h h1 a (Jvm.RoadKit.slotOf Z "java/util/ArrayList$Itr" "cursor" "I") (.int x)) (W2 : Wr h1 h' a (Jvm.RoadKit.slotOf Z "java/util/ArrayList$Itr" "lastRet" "I") (.int y)) : Itp Z h' a la x ex := by
  obtain ⟨A1, A2, A3, A4, lr, A5⟩ := A
  exact ⟨(A1.wr W1).wr W2, (A2.other W1 (Or.inr (ne_this_cursor hw))).other W2 (Or.inr (ne_this_lastRet hw)), (A3.same W1).other W2 (Or.inr (ne_cursor_lastRet hw)), (A4.other W1 (Or.inr (ne_expectedModCount_cursor hw))).other W2 (Or.inr (ne_expectedModCount_lastRet hw)), y, (A5.other W1 (Or.inr (ne_lastRet_cursor hw))).same W2⟩
theorem own_root {O K : String} {n : Nat} (w : (Jvm.Cond.noSuperclass O).before a0 Z = true) (wi : (Jvm.Cond.instantiable K n).before a0 Z = true) (hn : O ≠ K) : NS Z O K := by
  obtain ⟨c, k, q1, q2, q3, -, -⟩ := Cond.noSuperclass_spec w
  obtain ⟨t, kt, g1, -⟩ := Cond.instantiable_spec wi
  have ne := ids_ne q1 g1 hn
  refine ⟨c, t, q1, g1, fun fuel => ?_⟩
  cases fuel with
  | zero => rfl
  | succ f => simp [Vm.isSubclassAux, ne, q2, q3]
theorem own_no {C S K : String} {n : Nat} (w : (Jvm.Cond.superclass C S).before a0 Z = true) (wi : (Jvm.Cond.instantiable K n).before a0 Z = true) (q : NS Z C K) (hn : C ≠ K) : ∃ c t, Z.vm.findClass C = some c ∧ Z.vm.findClass K = some t ∧ Z.vm.assignable c t = false := by
  obtain ⟨c, t, e0, g0, n3⟩ := q
  obtain ⟨p, k, kp, e1, e2, e3, e4, e5, -, e7⟩ := Cond.superclass_spec e0 w
  obtain ⟨t', kt, g1, g2, g3, g4, -⟩ := Cond.instantiable_spec wi
  cases g0.symm.trans g1
  have ne := ids_ne e0 g0 hn
  have g5 : kt.isInterface = false := (Bool.or_eq_false_iff.mp g4).1
  refine ⟨c, t, e0, g0, ?_⟩
  show Z.vm.assignableAux (255 + 1) c t = false
  simp [Vm.assignableAux, ne, e2, g2, e5, g3, g5, Vm.isSubclass, n3]
theorem own_noi12 (hw : ∀ d ∈ tables_1, d.before a0 Z = true) : ∃ c t, Z.vm.findClass "java/util/ArrayList" = some c ∧ Z.vm.findClass "java/util/ImmutableCollections$List12" = some t ∧ Z.vm.assignable c t = false := own_no (hw _ (List.mem_of_getElem? (i := 50) rfl)) (hw _ (List.mem_of_getElem? (i := 205) rfl)) (NS.step (hw _ (List.mem_of_getElem? (i := 50) rfl)) (NS.step (hw _ (List.mem_of_getElem? (i := 51) rfl)) (NS.step (hw _ (List.mem_of_getElem? (i := 52) rfl)) (own_root (hw _ (List.mem_of_getElem? (i := 53) rfl)) (hw _ (List.mem_of_getElem? (i := 205) rfl)) (by decide)) (by decide)) (by decide)) (by decide)) (by decide)
theorem own_noiN (hw : ∀ d ∈ tables_1, d.before a0 Z = true) : ∃ c t, Z.vm.findClass "java/util/ArrayList" = some c ∧ Z.vm.findClass "java/util/ImmutableCollections$ListN" = some t ∧ Z.vm.assignable c t = false := own_no (hw _ (List.mem_of_getElem? (i := 50) rfl)) (hw _ (List.mem_of_getElem? (i := 252) rfl)) (NS.step (hw _ (List.mem_of_getElem? (i := 50) rfl)) (NS.step (hw _ (List.mem_of_getElem? (i := 51) rfl)) (NS.step (hw _ (List.mem_of_getElem? (i := 52) rfl)) (own_root (hw _ (List.mem_of_getElem? (i := 53) rfl)) (hw _ (List.mem_of_getElem? (i := 252) rfl)) (by decide)) (by decide)) (by decide)) (by decide)) (by decide)
end Lists
section Steps2
variable {p : Program} {l : Launch} {e : Env} {R : Room} {s : State} {m : MethodId} {args : Array Value} {below : List Frame} {meth : Method} {c : Code} {T : State} {locs : List Loc} {cells slots : Nat} {Z : State} {a0 : Array Value} {h : Heap} {a mr : Addr} {own C : String} {index : Nat}
theorem own_ldcM (X : Stand p l e R s m args below meth c T locs cells slots) (hx : p.tables.exec = Jvm.exec) (hZ : Z.Warmed39 s.vm) (hown : s.vm.findClass own = some m.cls) (w : (Jvm.Cond.classLink own index C).before a0 Z = true) (eT : T.heap = h) (M : Mir Z C mr) {g : JFrame} (hg : g.method = m) (hd : decode c.code g.pc = .ok (.ldc index, 2)) :
    ∃ T', Stand p l e R s m args below meth c T' locs cells slots ∧ T'.heap = h ∧ ∀ target, Steps p.tables e below (T'.setTop { g with pc := g.pc + 2, stack := .ref mr :: g.stack }) target → Steps p.tables e below (T.setTop g) target := by
  obtain ⟨cc, k, m1, m2, m3, -⟩ := M
  obtain ⟨k', q, ek⟩ := hZ.alike.2.2 _ _ m2
  have m4 : k'.mirror = some mr := by rw [ek]; exact m3
  obtain ⟨vm', X', st⟩ := X.ldcMirror hx hown (mv hZ w) (a := mr) (by simp [Term.eval, hZ.alike.findClass, m1, q, m4]) hg hd
  exact ⟨_, X', eT, st⟩
end Steps2
section Copies
variable {Z : State} {h : Heap} {a : Addr} {n : Int32} {i : Nat} {P : Addr → Prop}
theorem PAr.ofArv {k : ClassId} {vs : List Value} {d : Value} (A : Arv Z h a k (.object "java/lang/Object") n vs d) (O : Ovr Z k "java/lang/Object") (E : Exa Z h a "[Ljava/lang/Object;") (hi : i ≤ n.toNatClampNeg) (H : ∀ j, j < i → ∃ b, vs.getD j d = .ref b ∧ P b) : PAr Z h a n i P := by
  obtain ⟨c, A, rfl, S, M, H', -⟩ := A
  exact ⟨c, A, O, E, S, M, fun k hk => by
    obtain ⟨b, e, q⟩ := H k hk
    exact ⟨b, by rw [H' k (by rw [S]; omega), e], q⟩⟩
theorem own_getD {l : Array Value} {j : Nat} {v d : Value} (q : l[j]? = some v) : l.toList.getD j d = v := by
  rw [List.getD_eq_getElem?_getD, Array.getElem?_toList, q]; rfl
theorem PAr.toArv (A : PAr Z h a n n.toNatClampNeg P) : ∃ (k : ClassId) (vs : List Value), Arv Z h a k (.object "java/lang/Object") n vs .null ∧ ∀ j, j < n.toNatClampNeg → ∃ b, vs.getD j .null = .ref b ∧ P b := by
  obtain ⟨c, A, O, E, S, M, H⟩ := A
  refine ⟨c.cls, c.slots.toList, ⟨c, A, rfl, S, M, fun k hk => ?_, fun k hk => ?_⟩, fun j hj => ?_⟩
  · obtain ⟨b, q, -⟩ := H k (by rw [← S]; exact hk)
    rw [own_getD q]; exact q
  · obtain ⟨b, q, -⟩ := H k (by rw [← S]; exact hk)
    rw [own_getD q]; rfl
  · obtain ⟨b, q, p⟩ := H j hj
    exact ⟨b, own_getD q, p⟩
theorem own_stoL (us : List Value) (q : ∀ v ∈ us, Sto Z h a v) : StoL Z h a us := by
  induction us with
  | nil => trivial
  | cons v t ih => exact ⟨q v (List.mem_cons_self), ih (fun x hx => q x (List.mem_cons_of_mem _ hx))⟩
theorem own_cp {m : Nat} {vs : List Value} {j : Nat} {r : List Value} (hj : j < m) : (([] : List Value) ++ (List.range m).map (fun i => vs.getD (0 + i) .null) ++ r).getD j .null = vs.getD j .null := by
  rw [List.nil_append, List.getD_eq_getElem?_getD, List.getElem?_append_left (by simpa using hj), List.getElem?_map, List.getElem?_range hj]
  simp
end Copies
theorem d3_0 : decode jdk_22_method_1_code 0 = .ok (.aload_n 0, 1) := by decide +kernel
theorem d3_1 : decode jdk_22_method_1_code 1 = .ok (.invokespecial 1, 3) := by decide +kernel
theorem d3_4 : decode jdk_22_method_1_code 4 = .ok (.return_, 1) := by decide +kernel
theorem pn_rmAC : plainName "java/util/AbstractCollection" = true := by first | (simp [plainName, overriddenIn]; done) | decide +kernel
theorem ef_rmAC (m : MethodId) (a1 : Addr) : entryFrame m #[(.ref a1)] 1 = (mkF m 0 #[.val (.ref a1)] []) := by first | (simp [entryFrame, mkF, argsToLocals, Value.category]; done) | rfl
def Q_rmAC (Z : State) (a1 : Addr)  (h0 : Heap) (n0 : Nat) (v : Option Value) (h : Heap) (L : List Loc) : Prop := v = none ∧ Fr n0 L ∧ h = h0
set_option maxRecDepth 65536 in
set_option maxHeartbeats 40000000 in
theorem rmAC (l : Launch) (Z : State) (a0 : Array Value) (hw : ∀ d ∈ tables_1, d.before a0 Z = true) (ws : List Jvm.Cond) (a1 : Addr)  (h0 : Heap) (n0 : Nat) (Z0 : n0 ≤ h0.size)  :
    MetFree l (⟨"java/util/AbstractCollection", "<init>", "()V"⟩ : MethodName) (head1 (Jvm.Cond.code (⟨"java/util/AbstractCollection", "<init>", "()V"⟩ : MethodName) jdk_22_method_1_code 1 none :: ws) ({ frames := 1, cells := 0, slots := 0, locals := 12 } : Room)) (fun a U => a = #[(.ref a1)] ∧ Z.Warmed39 U.vm ∧ U.heap = h0) (fun _ _ _ _ _ => True) (fun _ U o U' => ∃ v L, o = .returned v ∧ Q_rmAC Z a1 h0 n0 v U'.heap L ∧ FrameEnd U o U' L ({ frames := 1, cells := 0, slots := 0, locals := 12 } : Room).cells ({ frames := 1, cells := 0, slots := 0, locals := 12 } : Room).slots) := by
  refine MetFree.of_bodySF (plainFor_of_name pn_rmAC) hisR ?_
  intro p e s m args below meth c s₁ Bd hml0 hP hK
  obtain ⟨rfl, hZ, hh⟩ := hP
  have hx := Bd.exec
  have hby := Bd.bytes
  have hml : c.maxLocals = 1 := hml0
  have hown : s.vm.findClass "java/util/AbstractCollection" = some m.cls := findClass_of_methodNamed Bd.named
  have hnm := (name_of_methodNamed Bd.named Bd.method).1
  have X0 : Stand p l e ({ frames := 1, cells := 0, slots := 0, locals := 12 } : Room) s m #[(.ref a1)] below meth c s₁ [] 0 0 := Stand.of_body Bd
  have e0 : s₁.heap = h0 := by rw [← hh, Bd.state]; rfl
  have N0 := Fr.nil n0
  have pre0 : Steps p.tables e below (s₁.setTop (entryFrame m #[(.ref a1)] 1)) (s₁.setTop (mkF m 0 #[.val (.ref a1)] [])) := castTop (ef_rmAC m a1) (Steps.refl _)
  have pre1 : Steps p.tables e below _ (s₁.setTop (mkF m 1 #[.val (.ref a1)] [(.ref a1)])) := pre0.trans (by
    show Steps p.tables e below (s₁.setTop (mkF m 0 #[.val (.ref a1)] [])) _
    refine XS.aloadN X0.here hx rfl (hb hby d3_0) rfl rfl ?_
    exact Steps.refl _)
  obtain ⟨T2, X2, e2, st2⟩ := initO X0 hx hZ hown (hw _ (List.mem_of_getElem? (i := 20) rfl)) (hw _ (List.mem_of_getElem? (i := 21) rfl)) (hw _ (List.mem_of_getElem? (i := 22) rfl)) e0 (g := (mkF m 1 #[.val (.ref a1)] [(.ref a1)])) rfl (by rw [hml]; rfl) rfl (hb hby d3_1) (by decide) (W := 0) (by show 2 * 0 + _ ≤ _; exact Nat.le_of_eq rfl) (by decide)
  have pre2 : Steps p.tables e below _ (T2.setTop (mkF m 4 #[.val (.ref a1)] [])) := pre1.trans (st2 _ (Steps.refl _))
  obtain ⟨fs, hr, hrun, hended, hW, hsame⟩ := X2.leave (v := none) (fun h => by rfl)
  refine ⟨_, _, pre2.trans ?_, hrun, hended, _, _, rfl, ?_, ⟨_, rfl⟩, hW, hsame.mono (by decide) (by decide)⟩
  · exact X2.returnOut hx Bd.returns (hb hby d3_4) hr
  · exact ⟨rfl, N0, e2⟩
theorem d2_0 : decode jdk_39_method_1_code 0 = .ok (.aload_n 0, 1) := by decide +kernel
theorem d2_1 : decode jdk_39_method_1_code 1 = .ok (.invokespecial 1, 3) := by decide +kernel
theorem d2_4 : decode jdk_39_method_1_code 4 = .ok (.aload_n 0, 1) := by decide +kernel
theorem d2_5 : decode jdk_39_method_1_code 5 = .ok (.iconst 0, 1) := by decide +kernel
theorem d2_6 : decode jdk_39_method_1_code 6 = .ok (.putfield 7, 3) := by decide +kernel
theorem d2_9 : decode jdk_39_method_1_code 9 = .ok (.return_, 1) := by decide +kernel
theorem pn_rmAB : plainName "java/util/AbstractList" = true := by first | (simp [plainName, overriddenIn]; done) | decide +kernel
theorem pd_rmAB_0 : parseMethodDescriptor "()V" = some ⟨[], none⟩ := by decide +kernel
theorem ef_rmAB (m : MethodId) (a1 : Addr) : entryFrame m #[(.ref a1)] 1 = (mkF m 0 #[.val (.ref a1)] []) := by first | (simp [entryFrame, mkF, argsToLocals, Value.category]; done) | rfl
def Q_rmAB (Z : State) (a1 : Addr) (ev : Value) (sz mc : Int32) (h0 : Heap) (n0 : Nat) (v : Option Value) (h : Heap) (L : List Loc) : Prop := v = none ∧ Fr n0 L ∧ Keep h0 h [a1] ∧ Ali Z h a1 ev sz 0
set_option maxRecDepth 65536 in
set_option maxHeartbeats 40000000 in
theorem rmAB (l : Launch) (Z : State) (a0 : Array Value) (hw : ∀ d ∈ tables_1, d.before a0 Z = true) (ws : List Jvm.Cond) (a1 : Addr) (ev : Value) (sz mc : Int32) (h0 : Heap) (n0 : Nat) (Z0 : n0 ≤ h0.size) (A : Ali Z h0 a1 ev sz mc) (g_a1 : n0 ≤ a1) :
    MetFree l (⟨"java/util/AbstractList", "<init>", "()V"⟩ : MethodName) (head1 (Jvm.Cond.code (⟨"java/util/AbstractList", "<init>", "()V"⟩ : MethodName) jdk_39_method_1_code 1 none :: ws) ({ frames := 2, cells := 0, slots := 0, locals := 24 } : Room)) (fun a U => a = #[(.ref a1)] ∧ Z.Warmed39 U.vm ∧ U.heap = h0) (fun _ _ _ _ _ => True) (fun _ U o U' => ∃ v L, o = .returned v ∧ Q_rmAB Z a1 ev sz mc h0 n0 v U'.heap L ∧ FrameEnd U o U' L ({ frames := 2, cells := 0, slots := 0, locals := 24 } : Room).cells ({ frames := 2, cells := 0, slots := 0, locals := 24 } : Room).slots) := by
  refine MetFree.of_bodySF (plainFor_of_name pn_rmAB) hisR ?_
  intro p e s m args below meth c s₁ Bd hml0 hP hK
  obtain ⟨rfl, hZ, hh⟩ := hP
  have hx := Bd.exec
  have hby := Bd.bytes
  have hml : c.maxLocals = 1 := hml0
  have hown : s.vm.findClass "java/util/AbstractList" = some m.cls := findClass_of_methodNamed Bd.named
  have hnm := (name_of_methodNamed Bd.named Bd.method).1
  have X0 : Stand p l e ({ frames := 2, cells := 0, slots := 0, locals := 24 } : Room) s m #[(.ref a1)] below meth c s₁ [] 0 0 := Stand.of_body Bd
  have e0 : s₁.heap = h0 := by rw [← hh, Bd.state]; rfl
  have N0 := Fr.nil n0
  have pre0 : Steps p.tables e below (s₁.setTop (entryFrame m #[(.ref a1)] 1)) (s₁.setTop (mkF m 0 #[.val (.ref a1)] [])) := castTop (ef_rmAB m a1) (Steps.refl _)
  have pre1 : Steps p.tables e below _ (s₁.setTop (mkF m 1 #[.val (.ref a1)] [(.ref a1)])) := pre0.trans (by
    show Steps p.tables e below (s₁.setTop (mkF m 0 #[.val (.ref a1)] [])) _
    refine XS.aloadN X0.here hx rfl (hb hby d2_0) rfl rfl ?_
    exact Steps.refl _)
  obtain ⟨_, _, ⟨T2, L2, k2, n2⟩, -, X2, ⟨Lc2, hQ2, l2, y2, z2⟩, st2⟩ := X0.specialBack hx (y := (⟨"java/util/AbstractCollection", "<init>", "()V"⟩ : MethodName)) rfl hown (mvT hZ (hw _ (List.mem_of_getElem? (i := 14) rfl))) (mvT hZ (hw _ (List.mem_of_getElem? (i := 15) rfl))) (mvT hZ (hw _ (List.mem_of_getElem? (i := 19) rfl))) (by decide) (backOf (W := 0) (rmAC l Z a0 hw [] a1 h0 n0 Z0) hZ (hw _ (List.mem_of_getElem? (i := 19) rfl)) (hw _ (List.mem_of_getElem? (i := 18) rfl)) (by decide) (by decide)) (g := (mkF m 1 #[.val (.ref a1)] [(.ref a1)])) rfl (by rw [hml]; rfl) (Steps.refl _) (a := a1) (argsL := []) (rest := []) (lenOf pd_rmAB_0 rfl) rfl (by show 2 * 0 + _ ≤ _; exact Nat.le_of_eq rfl) (hb hby d2_1) (fun _ _ => ⟨rfl, e0, (by decide : 0 + 0 ≤ _), (by decide : 0 + 0 ≤ _)⟩)
  dsimp only [Pt.U, Pt.locs, Pt.cells, Pt.slots] at X2 l2 y2 z2 st2 hQ2
  subst l2 y2 z2
  obtain ⟨rfl, N2q, hh2⟩ := hQ2
  have N2 := Fr.app N0 N2q
  have pre2 : Steps p.tables e below _ (T2.setTop (mkF m 4 #[.val (.ref a1)] [])) := pre1.trans (st2)
  have pre3 : Steps p.tables e below _ (T2.setTop (mkF m 6 #[.val (.ref a1)] [(.int (0 : Int32)), (.ref a1)])) := pre2.trans (by
    show Steps p.tables e below (T2.setTop (mkF m 4 #[.val (.ref a1)] [])) _
    refine XS.aloadN X2.here hx rfl (hb hby d2_4) rfl rfl ?_
    show Steps p.tables e below (T2.setTop (mkF m 5 #[.val (.ref a1)] [(.ref a1)])) _
    refine XS.iconst X2.here hx rfl (hb hby d2_5) ?_
    exact Steps.refl _)
  obtain ⟨T4, h4, X4, e4, W4, st4⟩ := putF X2 hx hZ hown (host := "") (Or.inl (hw _ (List.mem_of_getElem? (i := 23) rfl))) Via.refl hh2 A.2.2.2 A.1 (Or.inl (hw _ (List.mem_of_getElem? (i := 24) rfl))) (hw _ (List.mem_of_getElem? (i := 3) rfl)) (ty := .int) (by decide) rfl rfl (g := (mkF m 6 #[.val (.ref a1)] [(.int (0 : Int32)), (.ref a1)])) rfl rfl (hb hby d2_6)
  have N4 := Fr.snoc X4 N2 g_a1
  have Z4 : n0 ≤ h4.size := Nat.le_trans Z0 (Keep.of_wr W4).1
  have pre4 : Steps p.tables e below _ (T4.setTop (mkF m 9 #[.val (.ref a1)] [])) := pre3.trans (st4 _ (Steps.refl _))
  obtain ⟨fs, hr, hrun, hended, hW, hsame⟩ := X4.leave (v := none) (fun h => by rfl)
  refine ⟨_, _, pre4.trans ?_, hrun, hended, _, _, rfl, ?_, ⟨_, rfl⟩, hW, hsame.mono (by decide) (by decide)⟩
  · exact X4.returnOut hx Bd.returns (hb hby d2_9) hr
  · exact ⟨rfl, N4, (by show Keep h0 T4.heap [a1]; rw [e4]; exact (Keep.refl h0 [a1]).wr W4 (Or.inl (List.mem_singleton.mpr rfl))), (by show Ali Z T4.heap _ _ _ _; rw [e4]; exact Ali.wrM hw A W4)⟩
theorem d1_0 : decode jdk_38_method_2_code 0 = .ok (.aload_n 0, 1) := by decide +kernel
theorem d1_1 : decode jdk_38_method_2_code 1 = .ok (.invokespecial 1, 3) := by decide +kernel
theorem d1_4 : decode jdk_38_method_2_code 4 = .ok (.aload_n 0, 1) := by decide +kernel
theorem d1_5 : decode jdk_38_method_2_code 5 = .ok (.getstatic 39, 3) := by decide +kernel
theorem d1_8 : decode jdk_38_method_2_code 8 = .ok (.putfield 9, 3) := by decide +kernel
theorem d1_11 : decode jdk_38_method_2_code 11 = .ok (.return_, 1) := by decide +kernel
theorem pn_rmA0 : plainName "java/util/ArrayList" = true := by first | (simp [plainName, overriddenIn]; done) | decide +kernel
theorem pd_rmA0_0 : parseMethodDescriptor "()V" = some ⟨[], none⟩ := by decide +kernel
theorem ef_rmA0 (m : MethodId) (a1 : Addr) : entryFrame m #[(.ref a1)] 1 = (mkF m 0 #[.val (.ref a1)] []) := by first | (simp [entryFrame, mkF, argsToLocals, Value.category]; done) | rfl
def Q_rmA0 (Z : State) (a1 : Addr) (da : Addr) (h0 : Heap) (n0 : Nat) (v : Option Value) (h : Heap) (L : List Loc) : Prop := v = none ∧ Fr n0 L ∧ Keep h0 h [a1] ∧ Ali Z h a1 (.ref da) 0 0
set_option maxRecDepth 65536 in
set_option maxHeartbeats 40000000 in
theorem rmA0 (l : Launch) (Z : State) (a0 : Array Value) (hw : ∀ d ∈ tables_1, d.before a0 Z = true) (ws : List Jvm.Cond) (a1 : Addr) (da : Addr) (h0 : Heap) (n0 : Nat) (Z0 : n0 ≤ h0.size) (A : Ali Z h0 a1 .null 0 0) (g_a1 : n0 ≤ a1) (SD : Sta Z h0 "java/util/ArrayList" "DEFAULTCAPACITY_EMPTY_ELEMENTDATA" "[Ljava/lang/Object;" (.ref da)) :
    MetFree l (⟨"java/util/ArrayList", "<init>", "()V"⟩ : MethodName) (head1 (Jvm.Cond.code (⟨"java/util/ArrayList", "<init>", "()V"⟩ : MethodName) jdk_38_method_2_code 1 none :: ws) ({ frames := 3, cells := 0, slots := 0, locals := 36 } : Room)) (fun a U => a = #[(.ref a1)] ∧ Z.Warmed39 U.vm ∧ U.heap = h0) (fun _ _ _ _ _ => True) (fun _ U o U' => ∃ v L, o = .returned v ∧ Q_rmA0 Z a1 da h0 n0 v U'.heap L ∧ FrameEnd U o U' L ({ frames := 3, cells := 0, slots := 0, locals := 36 } : Room).cells ({ frames := 3, cells := 0, slots := 0, locals := 36 } : Room).slots) := by
  refine MetFree.of_bodySF (plainFor_of_name pn_rmA0) hisR ?_
  intro p e s m args below meth c s₁ Bd hml0 hP hK
  obtain ⟨rfl, hZ, hh⟩ := hP
  have hx := Bd.exec
  have hby := Bd.bytes
  have hml : c.maxLocals = 1 := hml0
  have hown : s.vm.findClass "java/util/ArrayList" = some m.cls := findClass_of_methodNamed Bd.named
  have hnm := (name_of_methodNamed Bd.named Bd.method).1
  have X0 : Stand p l e ({ frames := 3, cells := 0, slots := 0, locals := 36 } : Room) s m #[(.ref a1)] below meth c s₁ [] 0 0 := Stand.of_body Bd
  have e0 : s₁.heap = h0 := by rw [← hh, Bd.state]; rfl
  have N0 := Fr.nil n0
  have pre0 : Steps p.tables e below (s₁.setTop (entryFrame m #[(.ref a1)] 1)) (s₁.setTop (mkF m 0 #[.val (.ref a1)] [])) := castTop (ef_rmA0 m a1) (Steps.refl _)
  have pre1 : Steps p.tables e below _ (s₁.setTop (mkF m 1 #[.val (.ref a1)] [(.ref a1)])) := pre0.trans (by
    show Steps p.tables e below (s₁.setTop (mkF m 0 #[.val (.ref a1)] [])) _
    refine XS.aloadN X0.here hx rfl (hb hby d1_0) rfl rfl ?_
    exact Steps.refl _)
  obtain ⟨_, _, ⟨T2, L2, k2, n2⟩, -, X2, ⟨Lc2, hQ2, l2, y2, z2⟩, st2⟩ := X0.specialBack hx (y := (⟨"java/util/AbstractList", "<init>", "()V"⟩ : MethodName)) rfl hown (mvT hZ (hw _ (List.mem_of_getElem? (i := 8) rfl))) (mvT hZ (hw _ (List.mem_of_getElem? (i := 9) rfl))) (mvT hZ (hw _ (List.mem_of_getElem? (i := 13) rfl))) (by decide) (backOf (W := 0) (rmAB l Z a0 hw [] a1 .null 0 0 h0 n0 Z0 A g_a1) hZ (hw _ (List.mem_of_getElem? (i := 13) rfl)) (hw _ (List.mem_of_getElem? (i := 12) rfl)) (by decide) (by decide)) (g := (mkF m 1 #[.val (.ref a1)] [(.ref a1)])) rfl (by rw [hml]; rfl) (Steps.refl _) (a := a1) (argsL := []) (rest := []) (lenOf pd_rmA0_0 rfl) rfl (by show 2 * 0 + _ ≤ _; exact Nat.le_of_eq rfl) (hb hby d1_1) (fun _ _ => ⟨rfl, e0, (by decide : 0 + 0 ≤ _), (by decide : 0 + 0 ≤ _)⟩)
  dsimp only [Pt.U, Pt.locs, Pt.cells, Pt.slots] at X2 l2 y2 z2 st2 hQ2
  subst l2 y2 z2
  obtain ⟨rfl, N2q, K2, A2⟩ := hQ2
  have N2 := Fr.app N0 N2q
  have pre2 : Steps p.tables e below _ (T2.setTop (mkF m 4 #[.val (.ref a1)] [])) := pre1.trans (st2)
  have Z2k : n0 ≤ T2.heap.size := Nat.le_trans Z0 K2.1
  have pre3 : Steps p.tables e below _ (T2.setTop (mkF m 5 #[.val (.ref a1)] [(.ref a1)])) := pre2.trans (by
    show Steps p.tables e below (T2.setTop (mkF m 4 #[.val (.ref a1)] [])) _
    refine XS.aloadN X2.here hx rfl (hb hby d1_4) rfl rfl ?_
    exact Steps.refl _)
  obtain ⟨T4, X4, e4, st4⟩ := getS (host := "") X2 hx hZ hown (hw _ (List.mem_of_getElem? (i := 25) rfl)) Via.refl (rfl : T2.heap = T2.heap) (Sta.keepN SD K2 (own_one (Exa.nostat A.1))) (g := (mkF m 5 #[.val (.ref a1)] [(.ref a1)])) rfl (hb hby d1_5)
  have pre4 : Steps p.tables e below _ (T4.setTop (mkF m 8 #[.val (.ref a1)] [(.ref da), (.ref a1)])) := pre3.trans (st4 _ (Steps.refl _))
  obtain ⟨T5, h5, X5, e5, W5, st5⟩ := putF X4 hx hZ hown (host := "") (Or.inl (hw _ (List.mem_of_getElem? (i := 26) rfl))) Via.refl e4 A2.2.1 A2.1 (Or.inl (hw _ (List.mem_of_getElem? (i := 27) rfl))) (hw _ (List.mem_of_getElem? (i := 3) rfl)) (ty := (.array (.object "java/lang/Object"))) (by decide) rfl rfl (g := (mkF m 8 #[.val (.ref a1)] [(.ref da), (.ref a1)])) rfl rfl (hb hby d1_8)
  have N5 := Fr.snoc X5 N2 g_a1
  have Z5 : n0 ≤ h5.size := Nat.le_trans Z2k (Keep.of_wr W5).1
  have pre5 : Steps p.tables e below _ (T5.setTop (mkF m 11 #[.val (.ref a1)] [])) := pre4.trans (st5 _ (Steps.refl _))
  obtain ⟨fs, hr, hrun, hended, hW, hsame⟩ := X5.leave (v := none) (fun h => by rfl)
  refine ⟨_, _, pre5.trans ?_, hrun, hended, _, _, rfl, ?_, ⟨_, rfl⟩, hW, hsame.mono (by decide) (by decide)⟩
  · exact X5.returnOut hx Bd.returns (hb hby d1_11) hr
  · exact ⟨rfl, N5, (by show Keep h0 T5.heap [a1]; rw [e5]; exact K2.wr W5 (Or.inl (List.mem_singleton.mpr rfl))), (by show Ali Z T5.heap _ _ _ _; rw [e5]; exact Ali.wrE hw A2 W5)⟩
theorem d11_0 : decode jdk_38_method_1_code 0 = .ok (.aload_n 0, 1) := by decide +kernel
theorem d11_1 : decode jdk_38_method_1_code 1 = .ok (.invokespecial 1, 3) := by decide +kernel
theorem d11_4 : decode jdk_38_method_1_code 4 = .ok (.iload_n 1, 1) := by decide +kernel
theorem d11_5 : decode jdk_38_method_1_code 5 = .ok (.ifCond .le 14, 3) := by decide +kernel
theorem d11_8 : decode jdk_38_method_1_code 8 = .ok (.aload_n 0, 1) := by decide +kernel
theorem d11_9 : decode jdk_38_method_1_code 9 = .ok (.iload_n 1, 1) := by decide +kernel
theorem d11_10 : decode jdk_38_method_1_code 10 = .ok (.anewarray 7, 3) := by decide +kernel
theorem d11_13 : decode jdk_38_method_1_code 13 = .ok (.putfield 9, 3) := by decide +kernel
theorem d11_16 : decode jdk_38_method_1_code 16 = .ok (.goto 44, 3) := by decide +kernel
theorem d11_60 : decode jdk_38_method_1_code 60 = .ok (.return_, 1) := by decide +kernel
theorem pn_rmA1 : plainName "java/util/ArrayList" = true := by first | (simp [plainName, overriddenIn]; done) | decide +kernel
theorem pd_rmA1_0 : parseMethodDescriptor "()V" = some ⟨[], none⟩ := by decide +kernel
theorem ef_rmA1 (m : MethodId) (a1 : Addr) (p2 : Int32) : entryFrame m #[(.ref a1), (.int p2)] 2 = (mkF m 0 #[.val (.ref a1), .val (.int p2)] []) := by first | (simp [entryFrame, mkF, argsToLocals, Value.category]; done) | rfl
def Q_rmA1 (Z : State) (a1 : Addr) (p2 : Int32)  (h0 : Heap) (n0 : Nat) (v : Option Value) (h : Heap) (L : List Loc) : Prop := v = none ∧ Fr n0 L ∧ Keep h0 h [a1] ∧ ∃ ar, h0.size ≤ ar ∧ Ali Z h a1 (.ref ar) 0 0 ∧ PAr Z h ar p2 0 (fun _ => False)
set_option maxRecDepth 65536 in
set_option maxHeartbeats 40000000 in
theorem rmA1 (l : Launch) (Z : State) (a0 : Array Value) (hw : ∀ d ∈ tables_1, d.before a0 Z = true) (ws : List Jvm.Cond) (a1 : Addr) (p2 : Int32)  (h0 : Heap) (n0 : Nat) (Z0 : n0 ≤ h0.size) (A : Ali Z h0 a1 .null 0 0) (g_a1 : n0 ≤ a1) (hp1 : 1 ≤ p2.toInt) (hp2 : p2.toInt ≤ 65) :
    MetFree l (⟨"java/util/ArrayList", "<init>", "(I)V"⟩ : MethodName) (head1 (Jvm.Cond.code (⟨"java/util/ArrayList", "<init>", "(I)V"⟩ : MethodName) jdk_38_method_1_code 2 none :: ws) ({ frames := 3, cells := 1, slots := 65, locals := 36 } : Room)) (fun a U => a = #[(.ref a1), (.int p2)] ∧ Z.Warmed39 U.vm ∧ U.heap = h0) (fun _ _ _ _ _ => True) (fun _ U o U' => ∃ v L, o = .returned v ∧ Q_rmA1 Z a1 p2 h0 n0 v U'.heap L ∧ FrameEnd U o U' L ({ frames := 3, cells := 1, slots := 65, locals := 36 } : Room).cells ({ frames := 3, cells := 1, slots := 65, locals := 36 } : Room).slots) := by
  refine MetFree.of_bodySF (plainFor_of_name pn_rmA1) hisR ?_
  intro p e s m args below meth c s₁ Bd hml0 hP hK
  obtain ⟨rfl, hZ, hh⟩ := hP
  have hx := Bd.exec
  have hby := Bd.bytes
  have hml : c.maxLocals = 2 := hml0
  have hown : s.vm.findClass "java/util/ArrayList" = some m.cls := findClass_of_methodNamed Bd.named
  have hnm := (name_of_methodNamed Bd.named Bd.method).1
  have X0 : Stand p l e ({ frames := 3, cells := 1, slots := 65, locals := 36 } : Room) s m #[(.ref a1), (.int p2)] below meth c s₁ [] 0 0 := Stand.of_body Bd
  have e0 : s₁.heap = h0 := by rw [← hh, Bd.state]; rfl
  have N0 := Fr.nil n0
  have pre0 : Steps p.tables e below (s₁.setTop (entryFrame m #[(.ref a1), (.int p2)] 2)) (s₁.setTop (mkF m 0 #[.val (.ref a1), .val (.int p2)] [])) := castTop (ef_rmA1 m a1 p2) (Steps.refl _)
  have e00 : (0 : Int32).toInt = 0 := rfl
  have u1 : (0 : Int32) < p2 := by rw [own_lt]; omega
  have u2 : ¬ p2 < 0 := by rw [own_lt]; omega
  have u3 : p2.toNatClampNeg ≤ 65 := by have q := own_nat p2 (by omega); omega
  have pre1 : Steps p.tables e below _ (s₁.setTop (mkF m 1 #[.val (.ref a1), .val (.int p2)] [(.ref a1)])) := pre0.trans (by
    show Steps p.tables e below (s₁.setTop (mkF m 0 #[.val (.ref a1), .val (.int p2)] [])) _
    refine XS.aloadN X0.here hx rfl (hb hby d11_0) rfl rfl ?_
    exact Steps.refl _)
  obtain ⟨_, _, ⟨T2, L2, k2, n2⟩, -, X2, ⟨Lc2, hQ2, l2, y2, z2⟩, st2⟩ := X0.specialBack hx (y := (⟨"java/util/AbstractList", "<init>", "()V"⟩ : MethodName)) rfl hown (mvT hZ (hw _ (List.mem_of_getElem? (i := 8) rfl))) (mvT hZ (hw _ (List.mem_of_getElem? (i := 9) rfl))) (mvT hZ (hw _ (List.mem_of_getElem? (i := 13) rfl))) (by decide) (backOf (W := 0) (rmAB l Z a0 hw [] a1 .null 0 0 h0 n0 Z0 A g_a1) hZ (hw _ (List.mem_of_getElem? (i := 13) rfl)) (hw _ (List.mem_of_getElem? (i := 12) rfl)) (by decide) (by decide)) (g := (mkF m 1 #[.val (.ref a1), .val (.int p2)] [(.ref a1)])) rfl (by rw [hml]; rfl) (Steps.refl _) (a := a1) (argsL := []) (rest := []) (lenOf pd_rmA1_0 rfl) rfl (by show 2 * 0 + _ ≤ _; exact Nat.le_of_eq rfl) (hb hby d11_1) (fun _ _ => ⟨rfl, e0, (by decide : 0 + 0 ≤ _), (by decide : 0 + 0 ≤ _)⟩)
  dsimp only [Pt.U, Pt.locs, Pt.cells, Pt.slots] at X2 l2 y2 z2 st2 hQ2
  subst l2 y2 z2
  obtain ⟨rfl, N2q, K2, A2⟩ := hQ2
  have N2 := Fr.app N0 N2q
  have pre2 : Steps p.tables e below _ (T2.setTop (mkF m 4 #[.val (.ref a1), .val (.int p2)] [])) := pre1.trans (st2)
  have Z2k : n0 ≤ T2.heap.size := Nat.le_trans Z0 K2.1
  have pre3 : Steps p.tables e below _ (T2.setTop (mkF m 10 #[.val (.ref a1), .val (.int p2)] [(.int p2), (.ref a1)])) := pre2.trans (by
    show Steps p.tables e below (T2.setTop (mkF m 4 #[.val (.ref a1), .val (.int p2)] [])) _
    refine XS.iloadN X2.here hx rfl (hb hby d11_4) rfl ?_
    show Steps p.tables e below (T2.setTop (mkF m 5 #[.val (.ref a1), .val (.int p2)] [(.int p2)])) _
    refine XS.ifNo X2.here hx rfl (hb hby d11_5) rfl ((if0 _ _).trans (tlt u1).2.2.2) ?_
    show Steps p.tables e below (T2.setTop (mkF m 8 #[.val (.ref a1), .val (.int p2)] [])) _
    refine XS.aloadN X2.here hx rfl (hb hby d11_8) rfl rfl ?_
    show Steps p.tables e below (T2.setTop (mkF m 9 #[.val (.ref a1), .val (.int p2)] [(.ref a1)])) _
    refine XS.iloadN X2.here hx rfl (hb hby d11_9) rfl ?_
    exact Steps.refl _)
  obtain ⟨T4, h4, k4, X4, e4, E4, A4, EX4, O4, st4⟩ := newRE X2 hx hZ hown (hw _ (List.mem_of_getElem? (i := 79) rfl)) (hw _ (List.mem_of_getElem? (i := 80) rfl)) (rfl : T2.heap = T2.heap) (g := (mkF m 10 #[.val (.ref a1), .val (.int p2)] [(.int p2), (.ref a1)])) rfl (hb hby d11_10) rfl u2 (cap := 65) u3 (by decide) (by decide : 0 + 1 ≤ _) (by decide : 0 + 65 ≤ _) (ad := "[Ljava/lang/Object;") (by decide)
  obtain ⟨ar, g4⟩ : ∃ z, z = T2.heap.size := ⟨_, rfl⟩
  rw [← g4] at A4 EX4 st4
  have g_ar : n0 ≤ ar := Nat.le_trans Z2k (Nat.le_of_eq g4.symm)
  have P4 : PAr Z h4 ar p2 0 (fun _ => False) := ⟨_, A4, O4, EX4, sz_new _ _ _, u2, fun k hk => absurd hk (Nat.not_lt_zero _)⟩
  have Z4 : n0 ≤ h4.size := Nat.le_trans Z2k E4.1
  have pre4 : Steps p.tables e below _ (T4.setTop (mkF m 13 #[.val (.ref a1), .val (.int p2)] [(.ref ar), (.ref a1)])) := pre3.trans (st4 _ (Steps.refl _))
  obtain ⟨T5, h5, X5, e5, W5, st5⟩ := putF X4 hx hZ hown (host := "") (Or.inl (hw _ (List.mem_of_getElem? (i := 26) rfl))) Via.refl e4 (A2.2.1.ext E4) (A2.1.ext E4) (Or.inl (hw _ (List.mem_of_getElem? (i := 27) rfl))) (hw _ (List.mem_of_getElem? (i := 3) rfl)) (ty := (.array (.object "java/lang/Object"))) (by decide) rfl rfl (g := (mkF m 13 #[.val (.ref a1), .val (.int p2)] [(.ref ar), (.ref a1)])) rfl rfl (hb hby d11_13)
  have N5 := Fr.snoc X5 N2 g_a1
  have Z5 : n0 ≤ h5.size := Nat.le_trans Z4 (Keep.of_wr W5).1
  have pre5 : Steps p.tables e below _ (T5.setTop (mkF m 16 #[.val (.ref a1), .val (.int p2)] [])) := pre4.trans (st5 _ (Steps.refl _))
  have ne : ar ≠ a1 := (own_ne (A2.ext E4) P4).symm
  have ge : h0.size ≤ ar := by rw [g4]; exact K2.1
  have pre6 : Steps p.tables e below _ (T5.setTop (mkF m 60 #[.val (.ref a1), .val (.int p2)] [])) := pre5.trans (by
    show Steps p.tables e below (T5.setTop (mkF m 16 #[.val (.ref a1), .val (.int p2)] [])) _
    refine XS.goto X5.here hx rfl (pc0 := 16) (pc' := 60) rfl (hb hby d11_16) (by decide) (by decide) ?_
    exact Steps.refl _)
  obtain ⟨fs, hr, hrun, hended, hW, hsame⟩ := X5.leave (v := none) (fun h => by rfl)
  refine ⟨_, _, pre6.trans ?_, hrun, hended, _, _, rfl, ?_, ⟨_, rfl⟩, hW, hsame.mono (by decide) (by decide)⟩
  · exact X5.returnOut hx Bd.returns (hb hby d11_60) hr
  · exact ⟨rfl, N5, (by show Keep h0 T5.heap [a1]; rw [e5]; exact (K2.ext E4).wr W5 (Or.inl (List.mem_singleton.mpr rfl))), ar, ge, (by show Ali Z T5.heap _ _ _ _; rw [e5]; exact Ali.wrE hw (A2.ext E4) W5), (by show PAr Z T5.heap _ _ _ _; rw [e5]; exact P4.other W5 ne (fun _ q => q))⟩
theorem d13_0 : decode jdk_38_method_24_code 0 = .ok (.iload_n 3, 1) := by decide +kernel
theorem d13_1 : decode jdk_38_method_24_code 1 = .ok (.aload_n 2, 1) := by decide +kernel
theorem d13_2 : decode jdk_38_method_24_code 2 = .ok (.arraylength, 1) := by decide +kernel
theorem d13_3 : decode jdk_38_method_24_code 3 = .ok (.if_icmp .ne 8, 3) := by decide +kernel
theorem d13_11 : decode jdk_38_method_24_code 11 = .ok (.aload_n 2, 1) := by decide +kernel
theorem d13_12 : decode jdk_38_method_24_code 12 = .ok (.iload_n 3, 1) := by decide +kernel
theorem d13_13 : decode jdk_38_method_24_code 13 = .ok (.aload_n 1, 1) := by decide +kernel
theorem d13_14 : decode jdk_38_method_24_code 14 = .ok (.aastore, 1) := by decide +kernel
theorem d13_15 : decode jdk_38_method_24_code 15 = .ok (.aload_n 0, 1) := by decide +kernel
theorem d13_16 : decode jdk_38_method_24_code 16 = .ok (.iload_n 3, 1) := by decide +kernel
theorem d13_17 : decode jdk_38_method_24_code 17 = .ok (.iconst 1, 1) := by decide +kernel
theorem d13_18 : decode jdk_38_method_24_code 18 = .ok (.iadd, 1) := by decide +kernel
theorem d13_19 : decode jdk_38_method_24_code 19 = .ok (.putfield 48, 3) := by decide +kernel
theorem d13_22 : decode jdk_38_method_24_code 22 = .ok (.return_, 1) := by decide +kernel
theorem pn_rmAd3 : plainName "java/util/ArrayList" = true := by first | (simp [plainName, overriddenIn]; done) | decide +kernel
theorem ef_rmAd3 (m : MethodId) (a1 : Addr) (a2 : Addr) (a3 : Addr) (p4 : Int32) : entryFrame m #[(.ref a1), (.ref a2), (.ref a3), (.int p4)] 4 = (mkF m 0 #[.val (.ref a1), .val (.ref a2), .val (.ref a3), .val (.int p4)] []) := by first | (simp [entryFrame, mkF, argsToLocals, Value.category]; done) | rfl
def Q_rmAd3 (Z : State) (a1 : Addr) (a2 : Addr) (a3 : Addr) (p4 : Int32) (ev : Value) (nn mc : Int32) (i : Nat) (P : Addr → Prop) (h0 : Heap) (n0 : Nat) (v : Option Value) (h : Heap) (L : List Loc) : Prop := v = none ∧ Fr n0 L ∧ ∃ h1, Wr h0 h1 a3 p4.toNatClampNeg (.ref a2) ∧ Wr h1 h a1 (Jvm.RoadKit.slotOf Z "java/util/ArrayList" "size" "I") (.int (p4 + 1))
set_option maxRecDepth 65536 in
set_option maxHeartbeats 40000000 in
theorem rmAd3 (l : Launch) (Z : State) (a0 : Array Value) (hw : ∀ d ∈ tables_1, d.before a0 Z = true) (ws : List Jvm.Cond) (a1 : Addr) (a2 : Addr) (a3 : Addr) (p4 : Int32) (ev : Value) (nn mc : Int32) (i : Nat) (P : Addr → Prop) (h0 : Heap) (n0 : Nat) (Z0 : n0 ≤ h0.size) (A : Ali Z h0 a1 ev p4 mc) (B : PAr Z h0 a3 nn i P) (hge : ¬ p4 < 0) (hlt : p4 < nn) (I2 : Ins Z h0 a2 "java/lang/Object" true) (g_a1 : n0 ≤ a1) (g_a3 : n0 ≤ a3) :
    MetFree l (⟨"java/util/ArrayList", "add", "(Ljava/lang/Object;[Ljava/lang/Object;I)V"⟩ : MethodName) (head1 (Jvm.Cond.code (⟨"java/util/ArrayList", "add", "(Ljava/lang/Object;[Ljava/lang/Object;I)V"⟩ : MethodName) jdk_38_method_24_code 4 none :: ws) ({ frames := 0, cells := 0, slots := 0, locals := 0 } : Room)) (fun a U => a = #[(.ref a1), (.ref a2), (.ref a3), (.int p4)] ∧ Z.Warmed39 U.vm ∧ U.heap = h0) (fun _ _ _ _ _ => True) (fun _ U o U' => ∃ v L, o = .returned v ∧ Q_rmAd3 Z a1 a2 a3 p4 ev nn mc i P h0 n0 v U'.heap L ∧ FrameEnd U o U' L ({ frames := 0, cells := 0, slots := 0, locals := 0 } : Room).cells ({ frames := 0, cells := 0, slots := 0, locals := 0 } : Room).slots) := by
  refine MetFree.of_bodySF (plainFor_of_name pn_rmAd3) hisR ?_
  intro p e s m args below meth c s₁ Bd hml0 hP hK
  obtain ⟨rfl, hZ, hh⟩ := hP
  have hx := Bd.exec
  have hby := Bd.bytes
  have hml : c.maxLocals = 4 := hml0
  have hown : s.vm.findClass "java/util/ArrayList" = some m.cls := findClass_of_methodNamed Bd.named
  have hnm := (name_of_methodNamed Bd.named Bd.method).1
  have X0 : Stand p l e ({ frames := 0, cells := 0, slots := 0, locals := 0 } : Room) s m #[(.ref a1), (.ref a2), (.ref a3), (.int p4)] below meth c s₁ [] 0 0 := Stand.of_body Bd
  have e0 : s₁.heap = h0 := by rw [← hh, Bd.state]; rfl
  have N0 := Fr.nil n0
  have pre0 : Steps p.tables e below (s₁.setTop (entryFrame m #[(.ref a1), (.ref a2), (.ref a3), (.int p4)] 4)) (s₁.setTop (mkF m 0 #[.val (.ref a1), .val (.ref a2), .val (.ref a3), .val (.int p4)] [])) := castTop (ef_rmAd3 m a1 a2 a3 p4) (Steps.refl _)
  obtain ⟨cb, Ab, Ob, Eb, Sb, Mb, -⟩ := id B
  have hne : ¬ p4 = nn := fun q => own_irr nn (by rw [q] at hlt; exact hlt)
  have pre1 : Steps p.tables e below _ (s₁.setTop (mkF m 14 #[.val (.ref a1), .val (.ref a2), .val (.ref a3), .val (.int p4)] [(.ref a2), (.int p4), (.ref a3)])) := pre0.trans (by
    show Steps p.tables e below (s₁.setTop (mkF m 0 #[.val (.ref a1), .val (.ref a2), .val (.ref a3), .val (.int p4)] [])) _
    refine XS.iloadN X0.here hx rfl (hb hby d13_0) rfl ?_
    show Steps p.tables e below (s₁.setTop (mkF m 1 #[.val (.ref a1), .val (.ref a2), .val (.ref a3), .val (.int p4)] [(.int p4)])) _
    refine XS.aloadN X0.here hx rfl (hb hby d13_1) rfl rfl ?_
    show Steps p.tables e below (s₁.setTop (mkF m 2 #[.val (.ref a1), .val (.ref a2), .val (.ref a3), .val (.int p4)] [(.ref a3), (.int p4)])) _
    refine X0.arraylength hx (by rw [e0]; exact Ab.1) (State.isArrayOf_alike hZ.alike Ab.2.1) (g := (mkF m 2 #[.val (.ref a1), .val (.ref a2), .val (.ref a3), .val (.int p4)] [(.ref a3), (.int p4)])) rfl rfl (hb hby d13_2) _ ?_
    rw [len_of Sb Mb]
    show Steps p.tables e below (s₁.setTop (mkF m 3 #[.val (.ref a1), .val (.ref a2), .val (.ref a3), .val (.int p4)] [(.int nn), (.int p4)])) _
    refine XS.icmpYes X0.here hx rfl (pc0 := 3) (pc' := 11) rfl (hb hby d13_3) rfl (feq hne).2 (by decide) (by decide) ?_
    show Steps p.tables e below (s₁.setTop (mkF m 11 #[.val (.ref a1), .val (.ref a2), .val (.ref a3), .val (.int p4)] [])) _
    refine XS.aloadN X0.here hx rfl (hb hby d13_11) rfl rfl ?_
    show Steps p.tables e below (s₁.setTop (mkF m 12 #[.val (.ref a1), .val (.ref a2), .val (.ref a3), .val (.int p4)] [(.ref a3)])) _
    refine XS.iloadN X0.here hx rfl (hb hby d13_12) rfl ?_
    show Steps p.tables e below (s₁.setTop (mkF m 13 #[.val (.ref a1), .val (.ref a2), .val (.ref a3), .val (.int p4)] [(.int p4), (.ref a3)])) _
    refine XS.aloadN X0.here hx rfl (hb hby d13_13) rfl rfl ?_
    exact Steps.refl _)
  obtain ⟨cl2, Ar2, Ov2, Ex2, S2, M2, H2⟩ := id B
  have hin2 := inb_of S2 ⟨hge, hlt⟩
  obtain ⟨T2, h2, X2, e2, W2, st2⟩ := stR X0 hx hZ e0 Ar2 (j := p4) hin2 rfl (Sto.of Ar2 Ov2 I2) (g := (mkF m 14 #[.val (.ref a1), .val (.ref a2), .val (.ref a3), .val (.int p4)] [(.ref a2), (.int p4), (.ref a3)])) rfl rfl (hb hby d13_14)
  have N2 := Fr.snoc X2 N0 g_a3
  have Z2 : n0 ≤ h2.size := Nat.le_trans Z0 (Keep.of_wr W2).1
  have pre2 : Steps p.tables e below _ (T2.setTop (mkF m 15 #[.val (.ref a1), .val (.ref a2), .val (.ref a3), .val (.int p4)] [])) := pre1.trans (st2 _ (Steps.refl _))
  have pre3 : Steps p.tables e below _ (T2.setTop (mkF m 19 #[.val (.ref a1), .val (.ref a2), .val (.ref a3), .val (.int p4)] [(.int (p4 + (1 : Int32))), (.ref a1)])) := pre2.trans (by
    show Steps p.tables e below (T2.setTop (mkF m 15 #[.val (.ref a1), .val (.ref a2), .val (.ref a3), .val (.int p4)] [])) _
    refine XS.aloadN X2.here hx rfl (hb hby d13_15) rfl rfl ?_
    show Steps p.tables e below (T2.setTop (mkF m 16 #[.val (.ref a1), .val (.ref a2), .val (.ref a3), .val (.int p4)] [(.ref a1)])) _
    refine XS.iloadN X2.here hx rfl (hb hby d13_16) rfl ?_
    show Steps p.tables e below (T2.setTop (mkF m 17 #[.val (.ref a1), .val (.ref a2), .val (.ref a3), .val (.int p4)] [(.int p4), (.ref a1)])) _
    refine XS.iconst X2.here hx rfl (hb hby d13_17) ?_
    show Steps p.tables e below (T2.setTop (mkF m 18 #[.val (.ref a1), .val (.ref a2), .val (.ref a3), .val (.int p4)] [(.int (1 : Int32)), (.int p4), (.ref a1)])) _
    refine XS.iadd X2.here hx rfl (hb hby d13_18) rfl ?_
    exact Steps.refl _)
  obtain ⟨T4, h4, X4, e4, W4, st4⟩ := putF X2 hx hZ hown (host := "") (Or.inl (hw _ (List.mem_of_getElem? (i := 64) rfl))) Via.refl e2 (A.2.2.1.other W2 (Or.inl (own_ne A B))) (A.1.wr W2) (Or.inl (hw _ (List.mem_of_getElem? (i := 65) rfl))) (hw _ (List.mem_of_getElem? (i := 3) rfl)) (ty := .int) (by decide) rfl rfl (g := (mkF m 19 #[.val (.ref a1), .val (.ref a2), .val (.ref a3), .val (.int p4)] [(.int (p4 + (1 : Int32))), (.ref a1)])) rfl rfl (hb hby d13_19)
  have N4 := Fr.snoc X4 N2 g_a1
  have Z4 : n0 ≤ h4.size := Nat.le_trans Z2 (Keep.of_wr W4).1
  have pre4 : Steps p.tables e below _ (T4.setTop (mkF m 22 #[.val (.ref a1), .val (.ref a2), .val (.ref a3), .val (.int p4)] [])) := pre3.trans (st4 _ (Steps.refl _))
  obtain ⟨fs, hr, hrun, hended, hW, hsame⟩ := X4.leave (v := none) (fun h => by rfl)
  refine ⟨_, _, pre4.trans ?_, hrun, hended, _, _, rfl, ?_, ⟨_, rfl⟩, hW, hsame.mono (by decide) (by decide)⟩
  · exact X4.returnOut hx Bd.returns (hb hby d13_22) hr
  · exact ⟨rfl, N4, h2, W2, (by show Wr h2 T4.heap _ _ _; rw [e4]; exact W4)⟩
theorem d12_0 : decode jdk_38_method_25_code 0 = .ok (.aload_n 0, 1) := by decide +kernel
theorem d12_1 : decode jdk_38_method_25_code 1 = .ok (.dup, 1) := by decide +kernel
theorem d12_2 : decode jdk_38_method_25_code 2 = .ok (.getfield 63, 3) := by decide +kernel
theorem d12_5 : decode jdk_38_method_25_code 5 = .ok (.iconst 1, 1) := by decide +kernel
theorem d12_6 : decode jdk_38_method_25_code 6 = .ok (.iadd, 1) := by decide +kernel
theorem d12_7 : decode jdk_38_method_25_code 7 = .ok (.putfield 63, 3) := by decide +kernel
theorem d12_10 : decode jdk_38_method_25_code 10 = .ok (.aload_n 0, 1) := by decide +kernel
theorem d12_11 : decode jdk_38_method_25_code 11 = .ok (.aload_n 1, 1) := by decide +kernel
theorem d12_12 : decode jdk_38_method_25_code 12 = .ok (.aload_n 0, 1) := by decide +kernel
theorem d12_13 : decode jdk_38_method_25_code 13 = .ok (.getfield 9, 3) := by decide +kernel
theorem d12_16 : decode jdk_38_method_25_code 16 = .ok (.aload_n 0, 1) := by decide +kernel
theorem d12_17 : decode jdk_38_method_25_code 17 = .ok (.getfield 48, 3) := by decide +kernel
theorem d12_20 : decode jdk_38_method_25_code 20 = .ok (.invokevirtual 131, 3) := by decide +kernel
theorem d12_23 : decode jdk_38_method_25_code 23 = .ok (.iconst 1, 1) := by decide +kernel
theorem d12_24 : decode jdk_38_method_25_code 24 = .ok (.ireturn, 1) := by decide +kernel
theorem pn_rmAd : plainName "java/util/ArrayList" = true := by first | (simp [plainName, overriddenIn]; done) | decide +kernel
theorem pd_rmAd_0 : parseMethodDescriptor "(Ljava/lang/Object;[Ljava/lang/Object;I)V" = some ⟨[(.object "java/lang/Object"), (.array (.object "java/lang/Object")), .int], none⟩ := by decide +kernel
theorem ef_rmAd (m : MethodId) (a1 : Addr) (a2 : Addr) : entryFrame m #[(.ref a1), (.ref a2)] 2 = (mkF m 0 #[.val (.ref a1), .val (.ref a2)] []) := by first | (simp [entryFrame, mkF, argsToLocals, Value.category]; done) | rfl
def Q_rmAd (Z : State) (a1 : Addr) (a2 : Addr) (ar : Addr) (sz nn mc : Int32) (i : Nat) (P : Addr → Prop) (h0 : Heap) (n0 : Nat) (v : Option Value) (h : Heap) (L : List Loc) : Prop := v = some (.int (1 : Int32)) ∧ Fr n0 L ∧ ∃ h1 h2, Wr h0 h1 a1 (Jvm.RoadKit.slotOf Z "java/util/AbstractList" "modCount" "I") (.int (mc + 1)) ∧ Wr h1 h2 ar sz.toNatClampNeg (.ref a2) ∧ Wr h2 h a1 (Jvm.RoadKit.slotOf Z "java/util/ArrayList" "size" "I") (.int (sz + 1))
set_option maxRecDepth 65536 in
set_option maxHeartbeats 40000000 in
theorem rmAd (l : Launch) (Z : State) (a0 : Array Value) (hw : ∀ d ∈ tables_1, d.before a0 Z = true) (ws : List Jvm.Cond) (a1 : Addr) (a2 : Addr) (ar : Addr) (sz nn mc : Int32) (i : Nat) (P : Addr → Prop) (h0 : Heap) (n0 : Nat) (Z0 : n0 ≤ h0.size) (A : Ali Z h0 a1 (.ref ar) sz mc) (B : PAr Z h0 ar nn i P) (hge : ¬ sz < 0) (hlt : sz < nn) (I2 : Ins Z h0 a2 "java/lang/Object" true) (g_a1 : n0 ≤ a1) (g_ar : n0 ≤ ar) :
    MetFree l (⟨"java/util/ArrayList", "add", "(Ljava/lang/Object;)Z"⟩ : MethodName) (head1 (Jvm.Cond.code (⟨"java/util/ArrayList", "add", "(Ljava/lang/Object;)Z"⟩ : MethodName) jdk_38_method_25_code 2 (some .boolean) :: ws) ({ frames := 1, cells := 0, slots := 0, locals := 15 } : Room)) (fun a U => a = #[(.ref a1), (.ref a2)] ∧ Z.Warmed39 U.vm ∧ U.heap = h0) (fun _ _ _ _ _ => True) (fun _ U o U' => ∃ v L, o = .returned v ∧ Q_rmAd Z a1 a2 ar sz nn mc i P h0 n0 v U'.heap L ∧ FrameEnd U o U' L ({ frames := 1, cells := 0, slots := 0, locals := 15 } : Room).cells ({ frames := 1, cells := 0, slots := 0, locals := 15 } : Room).slots) := by
  refine MetFree.of_bodySF (plainFor_of_name pn_rmAd) hisR ?_
  intro p e s m args below meth c s₁ Bd hml0 hP hK
  obtain ⟨rfl, hZ, hh⟩ := hP
  have hx := Bd.exec
  have hby := Bd.bytes
  have hml : c.maxLocals = 2 := hml0
  have hown : s.vm.findClass "java/util/ArrayList" = some m.cls := findClass_of_methodNamed Bd.named
  have hnm := (name_of_methodNamed Bd.named Bd.method).1
  have X0 : Stand p l e ({ frames := 1, cells := 0, slots := 0, locals := 15 } : Room) s m #[(.ref a1), (.ref a2)] below meth c s₁ [] 0 0 := Stand.of_body Bd
  have e0 : s₁.heap = h0 := by rw [← hh, Bd.state]; rfl
  have N0 := Fr.nil n0
  have pre0 : Steps p.tables e below (s₁.setTop (entryFrame m #[(.ref a1), (.ref a2)] 2)) (s₁.setTop (mkF m 0 #[.val (.ref a1), .val (.ref a2)] [])) := castTop (ef_rmAd m a1 a2) (Steps.refl _)
  have pre1 : Steps p.tables e below _ (s₁.setTop (mkF m 2 #[.val (.ref a1), .val (.ref a2)] [(.ref a1), (.ref a1)])) := pre0.trans (by
    show Steps p.tables e below (s₁.setTop (mkF m 0 #[.val (.ref a1), .val (.ref a2)] [])) _
    refine XS.aloadN X0.here hx rfl (hb hby d12_0) rfl rfl ?_
    show Steps p.tables e below (s₁.setTop (mkF m 1 #[.val (.ref a1), .val (.ref a2)] [(.ref a1)])) _
    refine XS.dup X0.here hx rfl (hb hby d12_1) rfl rfl ?_
    exact Steps.refl _)
  obtain ⟨T2, X2, e2, st2⟩ := getF X0 hx hZ hown (host := "") (Or.inl (hw _ (List.mem_of_getElem? (i := 91) rfl))) (Via.of (hw _ (List.mem_of_getElem? (i := 92) rfl))) e0 A.2.2.2 (g := (mkF m 2 #[.val (.ref a1), .val (.ref a2)] [(.ref a1), (.ref a1)])) rfl rfl (hb hby d12_2)
  have pre2 : Steps p.tables e below _ (T2.setTop (mkF m 5 #[.val (.ref a1), .val (.ref a2)] [(.int mc), (.ref a1)])) := pre1.trans (st2 _ (Steps.refl _))
  have pre3 : Steps p.tables e below _ (T2.setTop (mkF m 7 #[.val (.ref a1), .val (.ref a2)] [(.int (mc + (1 : Int32))), (.ref a1)])) := pre2.trans (by
    show Steps p.tables e below (T2.setTop (mkF m 5 #[.val (.ref a1), .val (.ref a2)] [(.int mc), (.ref a1)])) _
    refine XS.iconst X2.here hx rfl (hb hby d12_5) ?_
    show Steps p.tables e below (T2.setTop (mkF m 6 #[.val (.ref a1), .val (.ref a2)] [(.int (1 : Int32)), (.int mc), (.ref a1)])) _
    refine XS.iadd X2.here hx rfl (hb hby d12_6) rfl ?_
    exact Steps.refl _)
  obtain ⟨T4, h4, X4, e4, W4, st4⟩ := putF X2 hx hZ hown (host := "") (Or.inl (hw _ (List.mem_of_getElem? (i := 91) rfl))) (Via.of (hw _ (List.mem_of_getElem? (i := 92) rfl))) e2 A.2.2.2 A.1 (Or.inl (hw _ (List.mem_of_getElem? (i := 24) rfl))) (hw _ (List.mem_of_getElem? (i := 3) rfl)) (ty := .int) (by decide) rfl rfl (g := (mkF m 7 #[.val (.ref a1), .val (.ref a2)] [(.int (mc + (1 : Int32))), (.ref a1)])) rfl rfl (hb hby d12_7)
  have N4 := Fr.snoc X4 N0 g_a1
  have Z4 : n0 ≤ h4.size := Nat.le_trans Z0 (Keep.of_wr W4).1
  have pre4 : Steps p.tables e below _ (T4.setTop (mkF m 10 #[.val (.ref a1), .val (.ref a2)] [])) := pre3.trans (st4 _ (Steps.refl _))
  have A1 := Ali.wrM hw A W4
  have B1 : PAr Z h4 ar nn i P := B.other W4 (own_ne A B).symm (fun _ q => q)
  have pre5 : Steps p.tables e below _ (T4.setTop (mkF m 13 #[.val (.ref a1), .val (.ref a2)] [(.ref a1), (.ref a2), (.ref a1)])) := pre4.trans (by
    show Steps p.tables e below (T4.setTop (mkF m 10 #[.val (.ref a1), .val (.ref a2)] [])) _
    refine XS.aloadN X4.here hx rfl (hb hby d12_10) rfl rfl ?_
    show Steps p.tables e below (T4.setTop (mkF m 11 #[.val (.ref a1), .val (.ref a2)] [(.ref a1)])) _
    refine XS.aloadN X4.here hx rfl (hb hby d12_11) rfl rfl ?_
    show Steps p.tables e below (T4.setTop (mkF m 12 #[.val (.ref a1), .val (.ref a2)] [(.ref a2), (.ref a1)])) _
    refine XS.aloadN X4.here hx rfl (hb hby d12_12) rfl rfl ?_
    exact Steps.refl _)
  obtain ⟨T6, X6, e6, st6⟩ := getF X4 hx hZ hown (host := "") (Or.inl (hw _ (List.mem_of_getElem? (i := 26) rfl))) Via.refl e4 A1.2.1 (g := (mkF m 13 #[.val (.ref a1), .val (.ref a2)] [(.ref a1), (.ref a2), (.ref a1)])) rfl rfl (hb hby d12_13)
  have pre6 : Steps p.tables e below _ (T6.setTop (mkF m 16 #[.val (.ref a1), .val (.ref a2)] [(.ref ar), (.ref a2), (.ref a1)])) := pre5.trans (st6 _ (Steps.refl _))
  have pre7 : Steps p.tables e below _ (T6.setTop (mkF m 17 #[.val (.ref a1), .val (.ref a2)] [(.ref a1), (.ref ar), (.ref a2), (.ref a1)])) := pre6.trans (by
    show Steps p.tables e below (T6.setTop (mkF m 16 #[.val (.ref a1), .val (.ref a2)] [(.ref ar), (.ref a2), (.ref a1)])) _
    refine XS.aloadN X6.here hx rfl (hb hby d12_16) rfl rfl ?_
    exact Steps.refl _)
  obtain ⟨T8, X8, e8, st8⟩ := getF X6 hx hZ hown (host := "") (Or.inl (hw _ (List.mem_of_getElem? (i := 64) rfl))) Via.refl e6 A1.2.2.1 (g := (mkF m 17 #[.val (.ref a1), .val (.ref a2)] [(.ref a1), (.ref ar), (.ref a2), (.ref a1)])) rfl rfl (hb hby d12_17)
  have pre8 : Steps p.tables e below _ (T8.setTop (mkF m 20 #[.val (.ref a1), .val (.ref a2)] [(.int sz), (.ref ar), (.ref a2), (.ref a1)])) := pre7.trans (st8 _ (Steps.refl _))
  obtain ⟨cq9, kq9, q9a, -, -, q9b, -⟩ := id (A1.1)
  obtain ⟨_, _, ⟨T9, L9, k9, n9⟩, -, X9, ⟨Lc9, hQ9, l9, y9, z9⟩, st9⟩ := X8.privateBack hx (y := (⟨"java/util/ArrayList", "add", "(Ljava/lang/Object;[Ljava/lang/Object;I)V"⟩ : MethodName)) hown (mvT hZ (hw _ (List.mem_of_getElem? (i := 93) rfl))) (mvT hZ (hw _ (List.mem_of_getElem? (i := 94) rfl))) (mvT hZ (hw _ (List.mem_of_getElem? (i := 96) rfl))) (Cond.privateMethod_at (args := #[]) (mvT hZ (hw _ (List.mem_of_getElem? (i := 95) rfl)))) (mvT hZ (hw _ (List.mem_of_getElem? (i := 97) rfl))) (by decide) (backOf (W := 0) (rmAd3 l Z a0 hw [] a1 a2 ar sz (.ref ar) nn (mc + 1) i P h4 n0 Z4 A1 B1 hge hlt (I2.wr W4) g_a1 g_ar) hZ (hw _ (List.mem_of_getElem? (i := 97) rfl)) (hw _ (List.mem_of_getElem? (i := 4) rfl)) (by decide) (by decide)) (g := (mkF m 20 #[.val (.ref a1), .val (.ref a2)] [(.int sz), (.ref ar), (.ref a2), (.ref a1)])) rfl (by rw [hml]; rfl) (Steps.refl _) (a := a1) (cell := cq9) (by rw [e8]; exact q9a) (fun q z => by rw [z] at q9b; cases q9b) (argsL := [(.ref a2), (.ref ar), (.int sz)]) (rest := []) (lenOf pd_rmAd_0 rfl) rfl (by show 2 * 0 + _ ≤ _; exact Nat.le_of_eq rfl) (hb hby d12_20) (fun _ _ => ⟨rfl, e8, (by decide : 0 + 0 ≤ _), (by decide : 0 + 0 ≤ _)⟩)
  dsimp only [Pt.U, Pt.locs, Pt.cells, Pt.slots] at X9 l9 y9 z9 st9 hQ9
  subst l9 y9 z9
  obtain ⟨rfl, N9q, hx2, W2, W3⟩ := hQ9
  have N9 := Fr.app N4 N9q
  have pre9 : Steps p.tables e below _ (T9.setTop (mkF m 23 #[.val (.ref a1), .val (.ref a2)] [])) := pre8.trans (st9)
  have pre10 : Steps p.tables e below _ (T9.setTop (mkF m 24 #[.val (.ref a1), .val (.ref a2)] [(.int (1 : Int32))])) := pre9.trans (by
    show Steps p.tables e below (T9.setTop (mkF m 23 #[.val (.ref a1), .val (.ref a2)] [])) _
    refine XS.iconst X9.here hx rfl (hb hby d12_23) ?_
    exact Steps.refl _)
  obtain ⟨fs, hr, hrun, hended, hW, hsame⟩ := X9.leave (v := some (.int (1 : Int32))) (fun h => by rw [Bd.returns] at h; cases h)
  refine ⟨_, _, pre10.trans ?_, hrun, hended, _, _, rfl, ?_, ⟨_, rfl⟩, hW, hsame.mono (by decide) (by decide)⟩
  · exact retN X9 hx (t := .boolean) Bd.returns (by simp) (hb hby d12_24) hr
  · exact ⟨rfl, N9, h4, hx2, W4, W2, W3⟩
theorem d16_0 : decode jdk_38_method_8_code 0 = .ok (.aload_n 0, 1) := by decide +kernel
theorem d16_1 : decode jdk_38_method_8_code 1 = .ok (.getfield 48, 3) := by decide +kernel
theorem d16_4 : decode jdk_38_method_8_code 4 = .ok (.ireturn, 1) := by decide +kernel
theorem pn_rmSz : plainName "java/util/ArrayList" = true := by first | (simp [plainName, overriddenIn]; done) | decide +kernel
theorem ef_rmSz (m : MethodId) (a1 : Addr) : entryFrame m #[(.ref a1)] 1 = (mkF m 0 #[.val (.ref a1)] []) := by first | (simp [entryFrame, mkF, argsToLocals, Value.category]; done) | rfl
def Q_rmSz (Z : State) (a1 : Addr) (sz : Int32) (h0 : Heap) (n0 : Nat) (v : Option Value) (h : Heap) (L : List Loc) : Prop := v = some (.int sz) ∧ Fr n0 L ∧ h = h0
set_option maxRecDepth 65536 in
set_option maxHeartbeats 40000000 in
theorem rmSz (l : Launch) (Z : State) (a0 : Array Value) (hw : ∀ d ∈ tables_1, d.before a0 Z = true) (ws : List Jvm.Cond) (a1 : Addr) (sz : Int32) (h0 : Heap) (n0 : Nat) (Z0 : n0 ≤ h0.size) (FS : Fld Z h0 a1 "java/util/ArrayList" "size" "I" (.int sz)) :
    MetFree l (⟨"java/util/ArrayList", "size", "()I"⟩ : MethodName) (head1 (Jvm.Cond.code (⟨"java/util/ArrayList", "size", "()I"⟩ : MethodName) jdk_38_method_8_code 1 (some .int) :: ws) ({ frames := 0, cells := 0, slots := 0, locals := 0 } : Room)) (fun a U => a = #[(.ref a1)] ∧ Z.Warmed39 U.vm ∧ U.heap = h0) (fun _ _ _ _ _ => True) (fun _ U o U' => ∃ v L, o = .returned v ∧ Q_rmSz Z a1 sz h0 n0 v U'.heap L ∧ FrameEnd U o U' L ({ frames := 0, cells := 0, slots := 0, locals := 0 } : Room).cells ({ frames := 0, cells := 0, slots := 0, locals := 0 } : Room).slots) := by
  refine MetFree.of_bodySF (plainFor_of_name pn_rmSz) hisR ?_
  intro p e s m args below meth c s₁ Bd hml0 hP hK
  obtain ⟨rfl, hZ, hh⟩ := hP
  have hx := Bd.exec
  have hby := Bd.bytes
  have hml : c.maxLocals = 1 := hml0
  have hown : s.vm.findClass "java/util/ArrayList" = some m.cls := findClass_of_methodNamed Bd.named
  have hnm := (name_of_methodNamed Bd.named Bd.method).1
  have X0 : Stand p l e ({ frames := 0, cells := 0, slots := 0, locals := 0 } : Room) s m #[(.ref a1)] below meth c s₁ [] 0 0 := Stand.of_body Bd
  have e0 : s₁.heap = h0 := by rw [← hh, Bd.state]; rfl
  have N0 := Fr.nil n0
  have pre0 : Steps p.tables e below (s₁.setTop (entryFrame m #[(.ref a1)] 1)) (s₁.setTop (mkF m 0 #[.val (.ref a1)] [])) := castTop (ef_rmSz m a1) (Steps.refl _)
  have pre1 : Steps p.tables e below _ (s₁.setTop (mkF m 1 #[.val (.ref a1)] [(.ref a1)])) := pre0.trans (by
    show Steps p.tables e below (s₁.setTop (mkF m 0 #[.val (.ref a1)] [])) _
    refine XS.aloadN X0.here hx rfl (hb hby d16_0) rfl rfl ?_
    exact Steps.refl _)
  obtain ⟨T2, X2, e2, st2⟩ := getF X0 hx hZ hown (host := "") (Or.inl (hw _ (List.mem_of_getElem? (i := 64) rfl))) Via.refl e0 FS (g := (mkF m 1 #[.val (.ref a1)] [(.ref a1)])) rfl rfl (hb hby d16_1)
  have pre2 : Steps p.tables e below _ (T2.setTop (mkF m 4 #[.val (.ref a1)] [(.int sz)])) := pre1.trans (st2 _ (Steps.refl _))
  obtain ⟨fs, hr, hrun, hended, hW, hsame⟩ := X2.leave (v := some (.int sz)) (fun h => by rw [Bd.returns] at h; cases h)
  refine ⟨_, _, pre2.trans ?_, hrun, hended, _, _, rfl, ?_, ⟨_, rfl⟩, hW, hsame.mono (by decide) (by decide)⟩
  · exact retI X2 hx Bd.returns (hb hby d16_4) hr
  · exact ⟨rfl, N0, e2⟩
theorem d8_0 : decode jdk_38_method_9_code 0 = .ok (.aload_n 0, 1) := by decide +kernel
theorem d8_1 : decode jdk_38_method_9_code 1 = .ok (.getfield 48, 3) := by decide +kernel
theorem d8_4 : decode jdk_38_method_9_code 4 = .ok (.ifCond .ne 7, 3) := by decide +kernel
theorem d8_7 : decode jdk_38_method_9_code 7 = .ok (.iconst 1, 1) := by decide +kernel
theorem d8_8 : decode jdk_38_method_9_code 8 = .ok (.goto 4, 3) := by decide +kernel
theorem d8_11 : decode jdk_38_method_9_code 11 = .ok (.iconst 0, 1) := by decide +kernel
theorem d8_12 : decode jdk_38_method_9_code 12 = .ok (.ireturn, 1) := by decide +kernel
theorem pn_rmIE : plainName "java/util/ArrayList" = true := by first | (simp [plainName, overriddenIn]; done) | decide +kernel
theorem ef_rmIE (m : MethodId) (a1 : Addr) : entryFrame m #[(.ref a1)] 1 = (mkF m 0 #[.val (.ref a1)] []) := by first | (simp [entryFrame, mkF, argsToLocals, Value.category]; done) | rfl
def own_ie_0_1 (sz : Int32) : Int32 := (0 : Int32)
def own_ie_0_2 (sz : Int32) : Int32 := (1 : Int32)
def own_ie_0_3 (sz : Int32) : Int32 := if sz = (0 : Int32) then own_ie_0_2 sz else own_ie_0_1 sz
def Q_rmIE (Z : State) (a1 : Addr) (sz : Int32) (h0 : Heap) (n0 : Nat) (v : Option Value) (h : Heap) (L : List Loc) : Prop := v = some (.int (own_ie_0_3 sz)) ∧ Fr n0 L ∧ h = h0
set_option maxRecDepth 65536 in
set_option maxHeartbeats 40000000 in
theorem rmIE (l : Launch) (Z : State) (a0 : Array Value) (hw : ∀ d ∈ tables_1, d.before a0 Z = true) (ws : List Jvm.Cond) (a1 : Addr) (sz : Int32) (h0 : Heap) (n0 : Nat) (Z0 : n0 ≤ h0.size) (FS : Fld Z h0 a1 "java/util/ArrayList" "size" "I" (.int sz)) :
    MetFree l (⟨"java/util/ArrayList", "isEmpty", "()Z"⟩ : MethodName) (head1 (Jvm.Cond.code (⟨"java/util/ArrayList", "isEmpty", "()Z"⟩ : MethodName) jdk_38_method_9_code 1 (some .boolean) :: ws) ({ frames := 0, cells := 0, slots := 0, locals := 0 } : Room)) (fun a U => a = #[(.ref a1)] ∧ Z.Warmed39 U.vm ∧ U.heap = h0) (fun _ _ _ _ _ => True) (fun _ U o U' => ∃ v L, o = .returned v ∧ Q_rmIE Z a1 sz h0 n0 v U'.heap L ∧ FrameEnd U o U' L ({ frames := 0, cells := 0, slots := 0, locals := 0 } : Room).cells ({ frames := 0, cells := 0, slots := 0, locals := 0 } : Room).slots) := by
  refine MetFree.of_bodySF (plainFor_of_name pn_rmIE) hisR ?_
  intro p e s m args below meth c s₁ Bd hml0 hP hK
  obtain ⟨rfl, hZ, hh⟩ := hP
  have hx := Bd.exec
  have hby := Bd.bytes
  have hml : c.maxLocals = 1 := hml0
  have hown : s.vm.findClass "java/util/ArrayList" = some m.cls := findClass_of_methodNamed Bd.named
  have hnm := (name_of_methodNamed Bd.named Bd.method).1
  have X0 : Stand p l e ({ frames := 0, cells := 0, slots := 0, locals := 0 } : Room) s m #[(.ref a1)] below meth c s₁ [] 0 0 := Stand.of_body Bd
  have e0 : s₁.heap = h0 := by rw [← hh, Bd.state]; rfl
  have N0 := Fr.nil n0
  have pre0 : Steps p.tables e below (s₁.setTop (entryFrame m #[(.ref a1)] 1)) (s₁.setTop (mkF m 0 #[.val (.ref a1)] [])) := castTop (ef_rmIE m a1) (Steps.refl _)
  have pre1 : Steps p.tables e below _ (s₁.setTop (mkF m 1 #[.val (.ref a1)] [(.ref a1)])) := pre0.trans (by
    show Steps p.tables e below (s₁.setTop (mkF m 0 #[.val (.ref a1)] [])) _
    refine XS.aloadN X0.here hx rfl (hb hby d8_0) rfl rfl ?_
    exact Steps.refl _)
  obtain ⟨T2, X2, e2, st2⟩ := getF X0 hx hZ hown (host := "") (Or.inl (hw _ (List.mem_of_getElem? (i := 64) rfl))) Via.refl e0 FS (g := (mkF m 1 #[.val (.ref a1)] [(.ref a1)])) rfl rfl (hb hby d8_1)
  have pre2 : Steps p.tables e below _ (T2.setTop (mkF m 4 #[.val (.ref a1)] [(.int sz)])) := pre1.trans (st2 _ (Steps.refl _))
  obtain ⟨v_ie_0, h_v_ie_0⟩ : ∃ z, z = own_ie_0_3 sz := ⟨_, rfl⟩
  obtain ⟨fs, hr, hrun, hended, hW, hsame⟩ := X2.leave (v := some (.int v_ie_0)) (fun h => by rw [Bd.returns] at h; cases h)
  have Bie_1 (hv0 : v_ie_0 = own_ie_0_1 sz) : Steps p.tables e below (T2.setTop (mkF m 11 #[.val (.ref a1)] [])) (T2.setFrames fs) := by
    have hw0 : v_ie_0 = (0 : Int32) := hv0
    rw [hw0] at hr
    show Steps p.tables e below (T2.setTop (mkF m 11 #[.val (.ref a1)] [])) _
    refine XS.iconst X2.here hx rfl (hb hby d8_11) ?_
    show Steps p.tables e below (T2.setTop (mkF m 12 #[.val (.ref a1)] [(.int (0 : Int32))])) _
    exact retN X2 hx (t := .boolean) Bd.returns (by simp) (hb hby d8_12) hr
  have Bie_2 (hv0 : v_ie_0 = own_ie_0_2 sz) : Steps p.tables e below (T2.setTop (mkF m 7 #[.val (.ref a1)] [])) (T2.setFrames fs) := by
    have hw0 : v_ie_0 = (1 : Int32) := hv0
    rw [hw0] at hr
    show Steps p.tables e below (T2.setTop (mkF m 7 #[.val (.ref a1)] [])) _
    refine XS.iconst X2.here hx rfl (hb hby d8_7) ?_
    show Steps p.tables e below (T2.setTop (mkF m 8 #[.val (.ref a1)] [(.int (1 : Int32))])) _
    refine XS.goto X2.here hx rfl (pc0 := 8) (pc' := 12) rfl (hb hby d8_8) (by decide) (by decide) ?_
    show Steps p.tables e below (T2.setTop (mkF m 12 #[.val (.ref a1)] [(.int (1 : Int32))])) _
    exact retN X2 hx (t := .boolean) Bd.returns (by simp) (hb hby d8_12) hr
  have Bie_3 (hv0 : v_ie_0 = own_ie_0_3 sz) : Steps p.tables e below (T2.setTop (mkF m 4 #[.val (.ref a1)] [(.int sz)])) (T2.setFrames fs) := by
    show Steps p.tables e below (T2.setTop (mkF m 4 #[.val (.ref a1)] [(.int sz)])) _
    by_cases h4 : sz = (0 : Int32)
    · refine XS.ifNo X2.here hx rfl (hb hby d8_4) rfl ((if0 _ _).trans (teq h4).2) ?_
      exact Bie_2 (hv0.trans (if_pos h4))
    · refine XS.ifYes X2.here hx rfl (pc0 := 4) (pc' := 11) rfl (hb hby d8_4) rfl ((if0 _ _).trans (feq h4).2) (by decide) (by decide) ?_
      exact Bie_1 (hv0.trans (if_neg h4))
  have pre3 : Steps p.tables e below _ (T2.setFrames fs) := pre2.trans (Bie_3 h_v_ie_0)
  refine ⟨_, _, pre3, hrun, hended, _, _, rfl, ?_, ⟨_, rfl⟩, hW, hsame.mono (by decide) (by decide)⟩
  exact ⟨by rw [h_v_ie_0], N0, e2⟩
theorem own_ie0 : ¬ own_ie_0_3 0 = 0 := by rw [show own_ie_0_3 0 = 1 from if_pos rfl]; decide
theorem own_ie1 (x : Int32) (q : ¬ x = 0) : own_ie_0_3 x = 0 := if_neg q
theorem d9_0 : decode jdk_40_method_36_code 0 = .ok (.getstatic 90, 3) := by decide +kernel
theorem d9_3 : decode jdk_40_method_36_code 3 = .ok (.areturn, 1) := by decide +kernel
theorem pn_rmL0 : plainName "java/util/List" = true := by first | (simp [plainName, overriddenIn]; done) | decide +kernel
theorem ef_rmL0 (m : MethodId)  : entryFrame m #[] 0 = (mkF m 0 #[] []) := by first | (simp [entryFrame, mkF, argsToLocals, Value.category]; done) | rfl
def Q_rmL0 (Z : State)  (el : Addr) (h0 : Heap) (n0 : Nat) (v : Option Value) (h : Heap) (L : List Loc) : Prop := v = some (.ref el) ∧ Fr n0 L ∧ h = h0
set_option maxRecDepth 65536 in
set_option maxHeartbeats 40000000 in
theorem rmL0 (l : Launch) (Z : State) (a0 : Array Value) (hw : ∀ d ∈ tables_1, d.before a0 Z = true) (ws : List Jvm.Cond)  (el : Addr) (h0 : Heap) (n0 : Nat) (Z0 : n0 ≤ h0.size) (SE : Sta Z h0 "java/util/ImmutableCollections" "EMPTY_LIST" "Ljava/util/ImmutableCollections$ListN;" (.ref el)) :
    MetFree l (⟨"java/util/List", "of", "()Ljava/util/List;"⟩ : MethodName) (head1 (Jvm.Cond.code (⟨"java/util/List", "of", "()Ljava/util/List;"⟩ : MethodName) jdk_40_method_36_code 0 (some (.object "java/util/List")) :: ws) ({ frames := 0, cells := 0, slots := 0, locals := 0 } : Room)) (fun a U => a = #[] ∧ Z.Warmed39 U.vm ∧ U.heap = h0) (fun _ _ _ _ _ => True) (fun _ U o U' => ∃ v L, o = .returned v ∧ Q_rmL0 Z el h0 n0 v U'.heap L ∧ FrameEnd U o U' L ({ frames := 0, cells := 0, slots := 0, locals := 0 } : Room).cells ({ frames := 0, cells := 0, slots := 0, locals := 0 } : Room).slots) := by
  refine MetFree.of_bodySF (plainFor_of_name pn_rmL0) hisR ?_
  intro p e s m args below meth c s₁ Bd hml0 hP hK
  obtain ⟨rfl, hZ, hh⟩ := hP
  have hx := Bd.exec
  have hby := Bd.bytes
  have hml : c.maxLocals = 0 := hml0
  have hown : s.vm.findClass "java/util/List" = some m.cls := findClass_of_methodNamed Bd.named
  have hnm := (name_of_methodNamed Bd.named Bd.method).1
  have X0 : Stand p l e ({ frames := 0, cells := 0, slots := 0, locals := 0 } : Room) s m #[] below meth c s₁ [] 0 0 := Stand.of_body Bd
  have e0 : s₁.heap = h0 := by rw [← hh, Bd.state]; rfl
  have N0 := Fr.nil n0
  have pre0 : Steps p.tables e below (s₁.setTop (entryFrame m #[] 0)) (s₁.setTop (mkF m 0 #[] [])) := castTop (ef_rmL0 m ) (Steps.refl _)
  obtain ⟨T1, X1, e1, st1⟩ := getS (host := "") X0 hx hZ hown (hw _ (List.mem_of_getElem? (i := 69) rfl)) Via.refl e0 SE (g := (mkF m 0 #[] [])) rfl (hb hby d9_0)
  have pre1 : Steps p.tables e below _ (T1.setTop (mkF m 3 #[] [(.ref el)])) := pre0.trans (st1 _ (Steps.refl _))
  obtain ⟨fs, hr, hrun, hended, hW, hsame⟩ := X1.leave (v := some (.ref el)) (fun h => by rw [Bd.returns] at h; cases h)
  refine ⟨_, _, pre1.trans ?_, hrun, hended, _, _, rfl, ?_, ⟨_, rfl⟩, hW, hsame.mono (by decide) (by decide)⟩
  · exact X1.areturnOut hx rfl Bd.returns rfl (hb hby d9_3) hr
  · exact ⟨rfl, N0, e1⟩
theorem d18_0 : decode jdk_49_method_1_code 0 = .ok (.aload_n 0, 1) := by decide +kernel
theorem d18_1 : decode jdk_49_method_1_code 1 = .ok (.aload_n 1, 1) := by decide +kernel
theorem d18_2 : decode jdk_49_method_1_code 2 = .ok (.putfield 1, 3) := by decide +kernel
theorem d18_5 : decode jdk_49_method_1_code 5 = .ok (.aload_n 0, 1) := by decide +kernel
theorem d18_6 : decode jdk_49_method_1_code 6 = .ok (.invokespecial 7, 3) := by decide +kernel
theorem d18_9 : decode jdk_49_method_1_code 9 = .ok (.aload_n 0, 1) := by decide +kernel
theorem d18_10 : decode jdk_49_method_1_code 10 = .ok (.iconst (-1), 1) := by decide +kernel
theorem d18_11 : decode jdk_49_method_1_code 11 = .ok (.putfield 13, 3) := by decide +kernel
theorem d18_14 : decode jdk_49_method_1_code 14 = .ok (.aload_n 0, 1) := by decide +kernel
theorem d18_15 : decode jdk_49_method_1_code 15 = .ok (.aload_n 0, 1) := by decide +kernel
theorem d18_16 : decode jdk_49_method_1_code 16 = .ok (.getfield 1, 3) := by decide +kernel
theorem d18_19 : decode jdk_49_method_1_code 19 = .ok (.getfield 17, 3) := by decide +kernel
theorem d18_22 : decode jdk_49_method_1_code 22 = .ok (.putfield 22, 3) := by decide +kernel
theorem d18_25 : decode jdk_49_method_1_code 25 = .ok (.return_, 1) := by decide +kernel
theorem pn_rmIi : plainName "java/util/ArrayList$Itr" = true := by first | (simp [plainName, overriddenIn]; done) | decide +kernel
theorem ef_rmIi (m : MethodId) (a1 : Addr) (a2 : Addr) : entryFrame m #[(.ref a1), (.ref a2)] 2 = (mkF m 0 #[.val (.ref a1), .val (.ref a2)] []) := by first | (simp [entryFrame, mkF, argsToLocals, Value.category]; done) | rfl
def Q_rmIi (Z : State) (a1 : Addr) (a2 : Addr) (ev : Value) (sz mc : Int32) (h0 : Heap) (n0 : Nat) (v : Option Value) (h : Heap) (L : List Loc) : Prop := v = none ∧ Fr n0 L ∧ Keep h0 h [a1] ∧ Itp Z h a1 a2 0 mc
set_option maxRecDepth 65536 in
set_option maxHeartbeats 40000000 in
theorem rmIi (l : Launch) (Z : State) (a0 : Array Value) (hw : ∀ d ∈ tables_1, d.before a0 Z = true) (ws : List Jvm.Cond) (a1 : Addr) (a2 : Addr) (ev : Value) (sz mc : Int32) (h0 : Heap) (n0 : Nat) (Z0 : n0 ≤ h0.size) (E : Exa Z h0 a1 "java/util/ArrayList$Itr") (F1 : Fld Z h0 a1 "java/util/ArrayList$Itr" "this$0" "Ljava/util/ArrayList;" .null) (F2 : Fld Z h0 a1 "java/util/ArrayList$Itr" "cursor" "I" (.int (0 : Int32))) (F3 : Fld Z h0 a1 "java/util/ArrayList$Itr" "lastRet" "I" (.int (0 : Int32))) (F4 : Fld Z h0 a1 "java/util/ArrayList$Itr" "expectedModCount" "I" (.int (0 : Int32))) (A : Ali Z h0 a2 ev sz mc) (g_a1 : n0 ≤ a1) :
    MetFree l (⟨"java/util/ArrayList$Itr", "<init>", "(Ljava/util/ArrayList;)V"⟩ : MethodName) (head1 (Jvm.Cond.code (⟨"java/util/ArrayList$Itr", "<init>", "(Ljava/util/ArrayList;)V"⟩ : MethodName) jdk_49_method_1_code 2 none :: ws) ({ frames := 1, cells := 0, slots := 0, locals := 12 } : Room)) (fun a U => a = #[(.ref a1), (.ref a2)] ∧ Z.Warmed39 U.vm ∧ U.heap = h0) (fun _ _ _ _ _ => True) (fun _ U o U' => ∃ v L, o = .returned v ∧ Q_rmIi Z a1 a2 ev sz mc h0 n0 v U'.heap L ∧ FrameEnd U o U' L ({ frames := 1, cells := 0, slots := 0, locals := 12 } : Room).cells ({ frames := 1, cells := 0, slots := 0, locals := 12 } : Room).slots) := by
  refine MetFree.of_bodySF (plainFor_of_name pn_rmIi) hisR ?_
  intro p e s m args below meth c s₁ Bd hml0 hP hK
  obtain ⟨rfl, hZ, hh⟩ := hP
  have hx := Bd.exec
  have hby := Bd.bytes
  have hml : c.maxLocals = 2 := hml0
  have hown : s.vm.findClass "java/util/ArrayList$Itr" = some m.cls := findClass_of_methodNamed Bd.named
  have hnm := (name_of_methodNamed Bd.named Bd.method).1
  have X0 : Stand p l e ({ frames := 1, cells := 0, slots := 0, locals := 12 } : Room) s m #[(.ref a1), (.ref a2)] below meth c s₁ [] 0 0 := Stand.of_body Bd
  have e0 : s₁.heap = h0 := by rw [← hh, Bd.state]; rfl
  have N0 := Fr.nil n0
  have pre0 : Steps p.tables e below (s₁.setTop (entryFrame m #[(.ref a1), (.ref a2)] 2)) (s₁.setTop (mkF m 0 #[.val (.ref a1), .val (.ref a2)] [])) := castTop (ef_rmIi m a1 a2) (Steps.refl _)
  have ne : a2 ≠ a1 := ne_exa A.1 E (by decide)
  have pre1 : Steps p.tables e below _ (s₁.setTop (mkF m 2 #[.val (.ref a1), .val (.ref a2)] [(.ref a2), (.ref a1)])) := pre0.trans (by
    show Steps p.tables e below (s₁.setTop (mkF m 0 #[.val (.ref a1), .val (.ref a2)] [])) _
    refine XS.aloadN X0.here hx rfl (hb hby d18_0) rfl rfl ?_
    show Steps p.tables e below (s₁.setTop (mkF m 1 #[.val (.ref a1), .val (.ref a2)] [(.ref a1)])) _
    refine XS.aloadN X0.here hx rfl (hb hby d18_1) rfl rfl ?_
    exact Steps.refl _)
  obtain ⟨T2, h2, X2, e2, W2, st2⟩ := putF X0 hx hZ hown (host := "") (Or.inl (hw _ (List.mem_of_getElem? (i := 134) rfl))) Via.refl e0 F1 E (Or.inr ⟨(hw _ (List.mem_of_getElem? (i := 135) rfl)), rfl, hnm⟩) (hw _ (List.mem_of_getElem? (i := 128) rfl)) (ty := (.object "java/util/ArrayList")) (by decide) rfl rfl (g := (mkF m 2 #[.val (.ref a1), .val (.ref a2)] [(.ref a2), (.ref a1)])) rfl rfl (hb hby d18_2)
  have N2 := Fr.snoc X2 N0 g_a1
  have Z2 : n0 ≤ h2.size := Nat.le_trans Z0 (Keep.of_wr W2).1
  have pre2 : Steps p.tables e below _ (T2.setTop (mkF m 5 #[.val (.ref a1), .val (.ref a2)] [])) := pre1.trans (st2 _ (Steps.refl _))
  have pre3 : Steps p.tables e below _ (T2.setTop (mkF m 6 #[.val (.ref a1), .val (.ref a2)] [(.ref a1)])) := pre2.trans (by
    show Steps p.tables e below (T2.setTop (mkF m 5 #[.val (.ref a1), .val (.ref a2)] [])) _
    refine XS.aloadN X2.here hx rfl (hb hby d18_5) rfl rfl ?_
    exact Steps.refl _)
  obtain ⟨T4, X4, e4, st4⟩ := initO X2 hx hZ hown (hw _ (List.mem_of_getElem? (i := 136) rfl)) (hw _ (List.mem_of_getElem? (i := 21) rfl)) (hw _ (List.mem_of_getElem? (i := 22) rfl)) e2 (g := (mkF m 6 #[.val (.ref a1), .val (.ref a2)] [(.ref a1)])) rfl (by rw [hml]; rfl) rfl (hb hby d18_6) (by decide) (W := 0) (by show 2 * 0 + _ ≤ _; exact Nat.le_of_eq rfl) (by decide)
  have pre4 : Steps p.tables e below _ (T4.setTop (mkF m 9 #[.val (.ref a1), .val (.ref a2)] [])) := pre3.trans (st4 _ (Steps.refl _))
  have pre5 : Steps p.tables e below _ (T4.setTop (mkF m 11 #[.val (.ref a1), .val (.ref a2)] [(.int (-1 : Int32)), (.ref a1)])) := pre4.trans (by
    show Steps p.tables e below (T4.setTop (mkF m 9 #[.val (.ref a1), .val (.ref a2)] [])) _
    refine XS.aloadN X4.here hx rfl (hb hby d18_9) rfl rfl ?_
    show Steps p.tables e below (T4.setTop (mkF m 10 #[.val (.ref a1), .val (.ref a2)] [(.ref a1)])) _
    refine XS.iconst X4.here hx rfl (hb hby d18_10) ?_
    exact Steps.refl _)
  obtain ⟨T6, h6, X6, e6, W6, st6⟩ := putF X4 hx hZ hown (host := "") (Or.inl (hw _ (List.mem_of_getElem? (i := 137) rfl))) Via.refl e4 (F3.other W2 (Or.inr (ne_lastRet_this hw))) (E.wr W2) (Or.inl (hw _ (List.mem_of_getElem? (i := 138) rfl))) (hw _ (List.mem_of_getElem? (i := 128) rfl)) (ty := .int) (by decide) rfl rfl (g := (mkF m 11 #[.val (.ref a1), .val (.ref a2)] [(.int (-1 : Int32)), (.ref a1)])) rfl rfl (hb hby d18_11)
  have N6 := Fr.snoc X6 N2 g_a1
  have Z6 : n0 ≤ h6.size := Nat.le_trans Z2 (Keep.of_wr W6).1
  have pre6 : Steps p.tables e below _ (T6.setTop (mkF m 14 #[.val (.ref a1), .val (.ref a2)] [])) := pre5.trans (st6 _ (Steps.refl _))
  have pre7 : Steps p.tables e below _ (T6.setTop (mkF m 16 #[.val (.ref a1), .val (.ref a2)] [(.ref a1), (.ref a1)])) := pre6.trans (by
    show Steps p.tables e below (T6.setTop (mkF m 14 #[.val (.ref a1), .val (.ref a2)] [])) _
    refine XS.aloadN X6.here hx rfl (hb hby d18_14) rfl rfl ?_
    show Steps p.tables e below (T6.setTop (mkF m 15 #[.val (.ref a1), .val (.ref a2)] [(.ref a1)])) _
    refine XS.aloadN X6.here hx rfl (hb hby d18_15) rfl rfl ?_
    exact Steps.refl _)
  obtain ⟨T8, X8, e8, st8⟩ := getF X6 hx hZ hown (host := "") (Or.inl (hw _ (List.mem_of_getElem? (i := 134) rfl))) Via.refl e6 ((F1.same W2).other W6 (Or.inr (ne_this_lastRet hw))) (g := (mkF m 16 #[.val (.ref a1), .val (.ref a2)] [(.ref a1), (.ref a1)])) rfl rfl (hb hby d18_16)
  have pre8 : Steps p.tables e below _ (T8.setTop (mkF m 19 #[.val (.ref a1), .val (.ref a2)] [(.ref a2), (.ref a1)])) := pre7.trans (st8 _ (Steps.refl _))
  obtain ⟨T9, X9, e9, st9⟩ := getF X8 hx hZ hown (host := "") (Or.inl (hw _ (List.mem_of_getElem? (i := 139) rfl))) (Via.of (hw _ (List.mem_of_getElem? (i := 92) rfl))) e8 ((A.other W2 ne).other W6 ne).2.2.2 (g := (mkF m 19 #[.val (.ref a1), .val (.ref a2)] [(.ref a2), (.ref a1)])) rfl rfl (hb hby d18_19)
  have pre9 : Steps p.tables e below _ (T9.setTop (mkF m 22 #[.val (.ref a1), .val (.ref a2)] [(.int mc), (.ref a1)])) := pre8.trans (st9 _ (Steps.refl _))
  obtain ⟨T10, h10, X10, e10, W10, st10⟩ := putF X9 hx hZ hown (host := "") (Or.inl (hw _ (List.mem_of_getElem? (i := 140) rfl))) Via.refl e9 ((F4.other W2 (Or.inr (ne_expectedModCount_this hw))).other W6 (Or.inr (ne_expectedModCount_lastRet hw))) ((E.wr W2).wr W6) (Or.inl (hw _ (List.mem_of_getElem? (i := 141) rfl))) (hw _ (List.mem_of_getElem? (i := 128) rfl)) (ty := .int) (by decide) rfl rfl (g := (mkF m 22 #[.val (.ref a1), .val (.ref a2)] [(.int mc), (.ref a1)])) rfl rfl (hb hby d18_22)
  have N10 := Fr.snoc X10 N6 g_a1
  have Z10 : n0 ≤ h10.size := Nat.le_trans Z6 (Keep.of_wr W10).1
  have pre10 : Steps p.tables e below _ (T10.setTop (mkF m 25 #[.val (.ref a1), .val (.ref a2)] [])) := pre9.trans (st10 _ (Steps.refl _))
  have KK : Keep h0 h10 [a1] := (((Keep.refl h0 [a1]).wr W2 (Or.inl (List.mem_singleton.mpr rfl))).wr W6 (Or.inl (List.mem_singleton.mpr rfl))).wr W10 (Or.inl (List.mem_singleton.mpr rfl))
  have IP : Itp Z h10 a1 a2 0 mc := ⟨((E.wr W2).wr W6).wr W10, ((F1.same W2).other W6 (Or.inr (ne_this_lastRet hw))).other W10 (Or.inr (ne_this_expectedModCount hw)), ((F2.other W2 (Or.inr (ne_cursor_this hw))).other W6 (Or.inr (ne_cursor_lastRet hw))).other W10 (Or.inr (ne_cursor_expectedModCount hw)), ((F4.other W2 (Or.inr (ne_expectedModCount_this hw))).other W6 (Or.inr (ne_expectedModCount_lastRet hw))).same W10, _, ((F3.other W2 (Or.inr (ne_lastRet_this hw))).same W6).other W10 (Or.inr (ne_lastRet_expectedModCount hw))⟩
  obtain ⟨fs, hr, hrun, hended, hW, hsame⟩ := X10.leave (v := none) (fun h => by rfl)
  refine ⟨_, _, pre10.trans ?_, hrun, hended, _, _, rfl, ?_, ⟨_, rfl⟩, hW, hsame.mono (by decide) (by decide)⟩
  · exact X10.returnOut hx Bd.returns (hb hby d18_25) hr
  · exact ⟨rfl, N10, (by show Keep h0 T10.heap [a1]; rw [e10]; exact KK), (by show Itp Z T10.heap _ _ _ _; rw [e10]; exact IP)⟩
theorem d17_0 : decode jdk_38_method_55_code 0 = .ok (.new 267, 3) := by decide +kernel
theorem d17_3 : decode jdk_38_method_55_code 3 = .ok (.dup, 1) := by decide +kernel
theorem d17_4 : decode jdk_38_method_55_code 4 = .ok (.aload_n 0, 1) := by decide +kernel
theorem d17_5 : decode jdk_38_method_55_code 5 = .ok (.invokespecial 269, 3) := by decide +kernel
theorem d17_8 : decode jdk_38_method_55_code 8 = .ok (.areturn, 1) := by decide +kernel
theorem pn_rmIt : plainName "java/util/ArrayList" = true := by first | (simp [plainName, overriddenIn]; done) | decide +kernel
theorem pd_rmIt_0 : parseMethodDescriptor "(Ljava/util/ArrayList;)V" = some ⟨[(.object "java/util/ArrayList")], none⟩ := by decide +kernel
theorem ef_rmIt (m : MethodId) (a1 : Addr) : entryFrame m #[(.ref a1)] 1 = (mkF m 0 #[.val (.ref a1)] []) := by first | (simp [entryFrame, mkF, argsToLocals, Value.category]; done) | rfl
def Q_rmIt (Z : State) (a1 : Addr) (ev : Value) (sz mc : Int32) (h0 : Heap) (n0 : Nat) (v : Option Value) (h : Heap) (L : List Loc) : Prop := v = some (.ref h0.size) ∧ Fr n0 L ∧ Keep h0 h [] ∧ Itp Z h h0.size a1 0 mc
set_option maxRecDepth 65536 in
set_option maxHeartbeats 40000000 in
theorem rmIt (l : Launch) (Z : State) (a0 : Array Value) (hw : ∀ d ∈ tables_1, d.before a0 Z = true) (ws : List Jvm.Cond) (a1 : Addr) (ev : Value) (sz mc : Int32) (h0 : Heap) (n0 : Nat) (Z0 : n0 ≤ h0.size) (A : Ali Z h0 a1 ev sz mc) :
    MetFree l (⟨"java/util/ArrayList", "iterator", "()Ljava/util/Iterator;"⟩ : MethodName) (head1 (Jvm.Cond.code (⟨"java/util/ArrayList", "iterator", "()Ljava/util/Iterator;"⟩ : MethodName) jdk_38_method_55_code 1 (some (.object "java/util/Iterator")) :: ws) ({ frames := 2, cells := 1, slots := 4, locals := 26 } : Room)) (fun a U => a = #[(.ref a1)] ∧ Z.Warmed39 U.vm ∧ U.heap = h0) (fun _ _ _ _ _ => True) (fun _ U o U' => ∃ v L, o = .returned v ∧ Q_rmIt Z a1 ev sz mc h0 n0 v U'.heap L ∧ FrameEnd U o U' L ({ frames := 2, cells := 1, slots := 4, locals := 26 } : Room).cells ({ frames := 2, cells := 1, slots := 4, locals := 26 } : Room).slots) := by
  refine MetFree.of_bodySF (plainFor_of_name pn_rmIt) hisR ?_
  intro p e s m args below meth c s₁ Bd hml0 hP hK
  obtain ⟨rfl, hZ, hh⟩ := hP
  have hx := Bd.exec
  have hby := Bd.bytes
  have hml : c.maxLocals = 1 := hml0
  have hown : s.vm.findClass "java/util/ArrayList" = some m.cls := findClass_of_methodNamed Bd.named
  have hnm := (name_of_methodNamed Bd.named Bd.method).1
  have X0 : Stand p l e ({ frames := 2, cells := 1, slots := 4, locals := 26 } : Room) s m #[(.ref a1)] below meth c s₁ [] 0 0 := Stand.of_body Bd
  have e0 : s₁.heap = h0 := by rw [← hh, Bd.state]; rfl
  have N0 := Fr.nil n0
  have pre0 : Steps p.tables e below (s₁.setTop (entryFrame m #[(.ref a1)] 1)) (s₁.setTop (mkF m 0 #[.val (.ref a1)] [])) := castTop (ef_rmIt m a1) (Steps.refl _)
  obtain ⟨T1, h1, X1, e1, E1, A1, D1, -, st1⟩ := newO X0 hx hZ hown (hw _ (List.mem_of_getElem? (i := 127) rfl)) (hw _ (List.mem_of_getElem? (i := 128) rfl)) (hw _ (List.mem_of_getElem? (i := 129) rfl)) e0 (g := (mkF m 0 #[.val (.ref a1)] [])) rfl (hb hby d17_0) (by decide : 0 + 1 ≤ _) (by decide : 0 + 4 ≤ _)
  obtain ⟨it, g1⟩ : ∃ z, z = h0.size := ⟨_, rfl⟩
  rw [← g1] at A1 D1 st1
  have g_it : n0 ≤ it := Nat.le_trans Z0 (Nat.le_of_eq g1.symm)
  have Z1 : n0 ≤ h1.size := Nat.le_trans Z0 E1.1
  have pre1 : Steps p.tables e below _ (T1.setTop (mkF m 3 #[.val (.ref a1)] [(.ref it)])) := pre0.trans (st1 _ (Steps.refl _))
  have FF1 : Fld Z h1 it "java/util/ArrayList$Itr" "this$0" "Ljava/util/ArrayList;" .null := D1 (Or.inr (hw _ (List.mem_of_getElem? (i := 135) rfl))) (ty := (.object "java/util/ArrayList")) (by decide)
  have FF2 : Fld Z h1 it "java/util/ArrayList$Itr" "cursor" "I" (.int (0 : Int32)) := D1 (Or.inl (hw _ (List.mem_of_getElem? (i := 152) rfl))) (ty := .int) (by decide)
  have FF3 : Fld Z h1 it "java/util/ArrayList$Itr" "lastRet" "I" (.int (0 : Int32)) := D1 (Or.inl (hw _ (List.mem_of_getElem? (i := 138) rfl))) (ty := .int) (by decide)
  have FF4 : Fld Z h1 it "java/util/ArrayList$Itr" "expectedModCount" "I" (.int (0 : Int32)) := D1 (Or.inl (hw _ (List.mem_of_getElem? (i := 141) rfl))) (ty := .int) (by decide)
  have pre2 : Steps p.tables e below _ (T1.setTop (mkF m 5 #[.val (.ref a1)] [(.ref a1), (.ref it), (.ref it)])) := pre1.trans (by
    show Steps p.tables e below (T1.setTop (mkF m 3 #[.val (.ref a1)] [(.ref it)])) _
    refine XS.dup X1.here hx rfl (hb hby d17_3) rfl rfl ?_
    show Steps p.tables e below (T1.setTop (mkF m 4 #[.val (.ref a1)] [(.ref it), (.ref it)])) _
    refine XS.aloadN X1.here hx rfl (hb hby d17_4) rfl rfl ?_
    exact Steps.refl _)
  obtain ⟨_, _, ⟨T3, L3, k3, n3⟩, -, X3, ⟨Lc3, hQ3, l3, y3, z3⟩, st3⟩ := X1.specialBack hx (y := (⟨"java/util/ArrayList$Itr", "<init>", "(Ljava/util/ArrayList;)V"⟩ : MethodName)) rfl hown (mvT hZ (hw _ (List.mem_of_getElem? (i := 130) rfl))) (mvT hZ (hw _ (List.mem_of_getElem? (i := 131) rfl))) (mvT hZ (hw _ (List.mem_of_getElem? (i := 133) rfl))) (by decide) (backOf (W := 1) (rmIi l Z a0 hw [] it a1 ev sz mc h1 n0 Z1 A1 FF1 FF2 FF3 FF4 (A.ext E1) g_it) hZ (hw _ (List.mem_of_getElem? (i := 133) rfl)) (hw _ (List.mem_of_getElem? (i := 129) rfl)) (by decide) (by decide)) (g := (mkF m 5 #[.val (.ref a1)] [(.ref a1), (.ref it), (.ref it)])) rfl (by rw [hml]; rfl) (Steps.refl _) (a := it) (argsL := [(.ref a1)]) (rest := [(.ref it)]) (lenOf pd_rmIt_0 rfl) rfl (by show 2 * 0 + _ ≤ _; exact Nat.le_of_eq rfl) (hb hby d17_5) (fun _ _ => ⟨rfl, e1, (by decide : 1 + 0 ≤ _), (by decide : 4 + 0 ≤ _)⟩)
  dsimp only [Pt.U, Pt.locs, Pt.cells, Pt.slots] at X3 l3 y3 z3 st3 hQ3
  subst l3 y3 z3
  obtain ⟨rfl, N3q, K3, IP⟩ := hQ3
  have N3 := Fr.app N0 N3q
  have pre3 : Steps p.tables e below _ (T3.setTop (mkF m 8 #[.val (.ref a1)] [(.ref it)])) := pre2.trans (st3)
  have KK : Keep h0 T3.heap [] := ((Keep.refl h0 []).ext E1).trans K3 (fun x hx => Or.inr (by rw [List.mem_singleton.mp hx]; exact Nat.le_of_eq g1.symm))
  obtain ⟨fs, hr, hrun, hended, hW, hsame⟩ := X3.leave (v := some (.ref it)) (fun h => by rw [Bd.returns] at h; cases h)
  refine ⟨_, _, pre3.trans ?_, hrun, hended, _, _, rfl, ?_, ⟨_, rfl⟩, hW, hsame.mono (by decide) (by decide)⟩
  · exact X3.areturnOut hx rfl Bd.returns rfl (hb hby d17_8) hr
  · exact ⟨by rw [g1], N3, KK, by rw [← g1]; exact IP⟩
theorem d19_0 : decode jdk_49_method_2_code 0 = .ok (.aload_n 0, 1) := by decide +kernel
theorem d19_1 : decode jdk_49_method_2_code 1 = .ok (.getfield 25, 3) := by decide +kernel
theorem d19_4 : decode jdk_49_method_2_code 4 = .ok (.aload_n 0, 1) := by decide +kernel
theorem d19_5 : decode jdk_49_method_2_code 5 = .ok (.getfield 1, 3) := by decide +kernel
theorem d19_8 : decode jdk_49_method_2_code 8 = .ok (.getfield 28, 3) := by decide +kernel
theorem d19_11 : decode jdk_49_method_2_code 11 = .ok (.if_icmp .eq 7, 3) := by decide +kernel
theorem d19_14 : decode jdk_49_method_2_code 14 = .ok (.iconst 1, 1) := by decide +kernel
theorem d19_15 : decode jdk_49_method_2_code 15 = .ok (.goto 4, 3) := by decide +kernel
theorem d19_18 : decode jdk_49_method_2_code 18 = .ok (.iconst 0, 1) := by decide +kernel
theorem d19_19 : decode jdk_49_method_2_code 19 = .ok (.ireturn, 1) := by decide +kernel
theorem pn_rmHN : plainName "java/util/ArrayList$Itr" = true := by first | (simp [plainName, overriddenIn]; done) | decide +kernel
theorem ef_rmHN (m : MethodId) (a1 : Addr) : entryFrame m #[(.ref a1)] 1 = (mkF m 0 #[.val (.ref a1)] []) := by first | (simp [entryFrame, mkF, argsToLocals, Value.category]; done) | rfl
def own_hn_0_1 (cur : Int32) (sz : Int32) : Int32 := (0 : Int32)
def own_hn_0_2 (cur : Int32) (sz : Int32) : Int32 := (1 : Int32)
def own_hn_0_3 (cur : Int32) (sz : Int32) : Int32 := if cur = sz then own_hn_0_1 cur sz else own_hn_0_2 cur sz
def Q_rmHN (Z : State) (a1 : Addr) (la : Addr) (ev : Value) (cur ex sz mc : Int32) (h0 : Heap) (n0 : Nat) (v : Option Value) (h : Heap) (L : List Loc) : Prop := v = some (.int (own_hn_0_3 cur sz)) ∧ Fr n0 L ∧ h = h0
set_option maxRecDepth 65536 in
set_option maxHeartbeats 40000000 in
theorem rmHN (l : Launch) (Z : State) (a0 : Array Value) (hw : ∀ d ∈ tables_1, d.before a0 Z = true) (ws : List Jvm.Cond) (a1 : Addr) (la : Addr) (ev : Value) (cur ex sz mc : Int32) (h0 : Heap) (n0 : Nat) (Z0 : n0 ≤ h0.size) (IP : Itp Z h0 a1 la cur ex) (A : Ali Z h0 la ev sz mc) :
    MetFree l (⟨"java/util/ArrayList$Itr", "hasNext", "()Z"⟩ : MethodName) (head1 (Jvm.Cond.code (⟨"java/util/ArrayList$Itr", "hasNext", "()Z"⟩ : MethodName) jdk_49_method_2_code 1 (some .boolean) :: ws) ({ frames := 0, cells := 0, slots := 0, locals := 0 } : Room)) (fun a U => a = #[(.ref a1)] ∧ Z.Warmed39 U.vm ∧ U.heap = h0) (fun _ _ _ _ _ => True) (fun _ U o U' => ∃ v L, o = .returned v ∧ Q_rmHN Z a1 la ev cur ex sz mc h0 n0 v U'.heap L ∧ FrameEnd U o U' L ({ frames := 0, cells := 0, slots := 0, locals := 0 } : Room).cells ({ frames := 0, cells := 0, slots := 0, locals := 0 } : Room).slots) := by
  refine MetFree.of_bodySF (plainFor_of_name pn_rmHN) hisR ?_
  intro p e s m args below meth c s₁ Bd hml0 hP hK
  obtain ⟨rfl, hZ, hh⟩ := hP
  have hx := Bd.exec
  have hby := Bd.bytes
  have hml : c.maxLocals = 1 := hml0
  have hown : s.vm.findClass "java/util/ArrayList$Itr" = some m.cls := findClass_of_methodNamed Bd.named
  have hnm := (name_of_methodNamed Bd.named Bd.method).1
  have X0 : Stand p l e ({ frames := 0, cells := 0, slots := 0, locals := 0 } : Room) s m #[(.ref a1)] below meth c s₁ [] 0 0 := Stand.of_body Bd
  have e0 : s₁.heap = h0 := by rw [← hh, Bd.state]; rfl
  have N0 := Fr.nil n0
  have pre0 : Steps p.tables e below (s₁.setTop (entryFrame m #[(.ref a1)] 1)) (s₁.setTop (mkF m 0 #[.val (.ref a1)] [])) := castTop (ef_rmHN m a1) (Steps.refl _)
  have pre1 : Steps p.tables e below _ (s₁.setTop (mkF m 1 #[.val (.ref a1)] [(.ref a1)])) := pre0.trans (by
    show Steps p.tables e below (s₁.setTop (mkF m 0 #[.val (.ref a1)] [])) _
    refine XS.aloadN X0.here hx rfl (hb hby d19_0) rfl rfl ?_
    exact Steps.refl _)
  obtain ⟨T2, X2, e2, st2⟩ := getF X0 hx hZ hown (host := "") (Or.inl (hw _ (List.mem_of_getElem? (i := 151) rfl))) Via.refl e0 IP.2.2.1 (g := (mkF m 1 #[.val (.ref a1)] [(.ref a1)])) rfl rfl (hb hby d19_1)
  have pre2 : Steps p.tables e below _ (T2.setTop (mkF m 4 #[.val (.ref a1)] [(.int cur)])) := pre1.trans (st2 _ (Steps.refl _))
  have pre3 : Steps p.tables e below _ (T2.setTop (mkF m 5 #[.val (.ref a1)] [(.ref a1), (.int cur)])) := pre2.trans (by
    show Steps p.tables e below (T2.setTop (mkF m 4 #[.val (.ref a1)] [(.int cur)])) _
    refine XS.aloadN X2.here hx rfl (hb hby d19_4) rfl rfl ?_
    exact Steps.refl _)
  obtain ⟨T4, X4, e4, st4⟩ := getF X2 hx hZ hown (host := "") (Or.inl (hw _ (List.mem_of_getElem? (i := 134) rfl))) Via.refl e2 IP.2.1 (g := (mkF m 5 #[.val (.ref a1)] [(.ref a1), (.int cur)])) rfl rfl (hb hby d19_5)
  have pre4 : Steps p.tables e below _ (T4.setTop (mkF m 8 #[.val (.ref a1)] [(.ref la), (.int cur)])) := pre3.trans (st4 _ (Steps.refl _))
  obtain ⟨T5, X5, e5, st5⟩ := getF X4 hx hZ hown (host := "java/util/ArrayList") (Or.inr (hw _ (List.mem_of_getElem? (i := 153) rfl))) Via.refl e4 A.2.2.1 (g := (mkF m 8 #[.val (.ref a1)] [(.ref la), (.int cur)])) rfl rfl (hb hby d19_8)
  have pre5 : Steps p.tables e below _ (T5.setTop (mkF m 11 #[.val (.ref a1)] [(.int sz), (.int cur)])) := pre4.trans (st5 _ (Steps.refl _))
  obtain ⟨v_hn_0, h_v_hn_0⟩ : ∃ z, z = own_hn_0_3 cur sz := ⟨_, rfl⟩
  obtain ⟨fs, hr, hrun, hended, hW, hsame⟩ := X5.leave (v := some (.int v_hn_0)) (fun h => by rw [Bd.returns] at h; cases h)
  have Bhn_1 (hv0 : v_hn_0 = own_hn_0_1 cur sz) : Steps p.tables e below (T5.setTop (mkF m 18 #[.val (.ref a1)] [])) (T5.setFrames fs) := by
    have hw0 : v_hn_0 = (0 : Int32) := hv0
    rw [hw0] at hr
    show Steps p.tables e below (T5.setTop (mkF m 18 #[.val (.ref a1)] [])) _
    refine XS.iconst X5.here hx rfl (hb hby d19_18) ?_
    show Steps p.tables e below (T5.setTop (mkF m 19 #[.val (.ref a1)] [(.int (0 : Int32))])) _
    exact retN X5 hx (t := .boolean) Bd.returns (by simp) (hb hby d19_19) hr
  have Bhn_2 (hv0 : v_hn_0 = own_hn_0_2 cur sz) : Steps p.tables e below (T5.setTop (mkF m 14 #[.val (.ref a1)] [])) (T5.setFrames fs) := by
    have hw0 : v_hn_0 = (1 : Int32) := hv0
    rw [hw0] at hr
    show Steps p.tables e below (T5.setTop (mkF m 14 #[.val (.ref a1)] [])) _
    refine XS.iconst X5.here hx rfl (hb hby d19_14) ?_
    show Steps p.tables e below (T5.setTop (mkF m 15 #[.val (.ref a1)] [(.int (1 : Int32))])) _
    refine XS.goto X5.here hx rfl (pc0 := 15) (pc' := 19) rfl (hb hby d19_15) (by decide) (by decide) ?_
    show Steps p.tables e below (T5.setTop (mkF m 19 #[.val (.ref a1)] [(.int (1 : Int32))])) _
    exact retN X5 hx (t := .boolean) Bd.returns (by simp) (hb hby d19_19) hr
  have Bhn_3 (hv0 : v_hn_0 = own_hn_0_3 cur sz) : Steps p.tables e below (T5.setTop (mkF m 11 #[.val (.ref a1)] [(.int sz), (.int cur)])) (T5.setFrames fs) := by
    show Steps p.tables e below (T5.setTop (mkF m 11 #[.val (.ref a1)] [(.int sz), (.int cur)])) _
    by_cases h11 : cur = sz
    · refine XS.icmpYes X5.here hx rfl (pc0 := 11) (pc' := 18) rfl (hb hby d19_11) rfl (teq h11).1 (by decide) (by decide) ?_
      exact Bhn_1 (hv0.trans (if_pos h11))
    · refine XS.icmpNo X5.here hx rfl (hb hby d19_11) rfl (feq h11).1 ?_
      exact Bhn_2 (hv0.trans (if_neg h11))
  have pre6 : Steps p.tables e below _ (T5.setFrames fs) := pre5.trans (Bhn_3 h_v_hn_0)
  refine ⟨_, _, pre6, hrun, hended, _, _, rfl, ?_, ⟨_, rfl⟩, hW, hsame.mono (by decide) (by decide)⟩
  exact ⟨by rw [h_v_hn_0], N0, e5⟩
theorem own_hn0 (x : Int32) : own_hn_0_3 x x = 0 := if_pos rfl
theorem own_hn1 (x y : Int32) (q : ¬ x = y) : ¬ own_hn_0_3 x y = 0 := by rw [show own_hn_0_3 x y = 1 from if_neg q]; decide
theorem d21_0 : decode jdk_49_method_6_code 0 = .ok (.aload_n 0, 1) := by decide +kernel
theorem d21_1 : decode jdk_49_method_6_code 1 = .ok (.getfield 1, 3) := by decide +kernel
theorem d21_4 : decode jdk_49_method_6_code 4 = .ok (.getfield 17, 3) := by decide +kernel
theorem d21_7 : decode jdk_49_method_6_code 7 = .ok (.aload_n 0, 1) := by decide +kernel
theorem d21_8 : decode jdk_49_method_6_code 8 = .ok (.getfield 22, 3) := by decide +kernel
theorem d21_11 : decode jdk_49_method_6_code 11 = .ok (.if_icmp .eq 11, 3) := by decide +kernel
theorem d21_22 : decode jdk_49_method_6_code 22 = .ok (.return_, 1) := by decide +kernel
theorem pn_rmCM : plainName "java/util/ArrayList$Itr" = true := by first | (simp [plainName, overriddenIn]; done) | decide +kernel
theorem ef_rmCM (m : MethodId) (a1 : Addr) : entryFrame m #[(.ref a1)] 1 = (mkF m 0 #[.val (.ref a1)] []) := by first | (simp [entryFrame, mkF, argsToLocals, Value.category]; done) | rfl
def Q_rmCM (Z : State) (a1 : Addr) (la : Addr) (ev : Value) (cur sz mc : Int32) (h0 : Heap) (n0 : Nat) (v : Option Value) (h : Heap) (L : List Loc) : Prop := v = none ∧ Fr n0 L ∧ h = h0
set_option maxRecDepth 65536 in
set_option maxHeartbeats 40000000 in
theorem rmCM (l : Launch) (Z : State) (a0 : Array Value) (hw : ∀ d ∈ tables_1, d.before a0 Z = true) (ws : List Jvm.Cond) (a1 : Addr) (la : Addr) (ev : Value) (cur sz mc : Int32) (h0 : Heap) (n0 : Nat) (Z0 : n0 ≤ h0.size) (IP : Itp Z h0 a1 la cur mc) (A : Ali Z h0 la ev sz mc) :
    MetFree l (⟨"java/util/ArrayList$Itr", "checkForComodification", "()V"⟩ : MethodName) (head1 (Jvm.Cond.code (⟨"java/util/ArrayList$Itr", "checkForComodification", "()V"⟩ : MethodName) jdk_49_method_6_code 1 none :: ws) ({ frames := 0, cells := 0, slots := 0, locals := 0 } : Room)) (fun a U => a = #[(.ref a1)] ∧ Z.Warmed39 U.vm ∧ U.heap = h0) (fun _ _ _ _ _ => True) (fun _ U o U' => ∃ v L, o = .returned v ∧ Q_rmCM Z a1 la ev cur sz mc h0 n0 v U'.heap L ∧ FrameEnd U o U' L ({ frames := 0, cells := 0, slots := 0, locals := 0 } : Room).cells ({ frames := 0, cells := 0, slots := 0, locals := 0 } : Room).slots) := by
  refine MetFree.of_bodySF (plainFor_of_name pn_rmCM) hisR ?_
  intro p e s m args below meth c s₁ Bd hml0 hP hK
  obtain ⟨rfl, hZ, hh⟩ := hP
  have hx := Bd.exec
  have hby := Bd.bytes
  have hml : c.maxLocals = 1 := hml0
  have hown : s.vm.findClass "java/util/ArrayList$Itr" = some m.cls := findClass_of_methodNamed Bd.named
  have hnm := (name_of_methodNamed Bd.named Bd.method).1
  have X0 : Stand p l e ({ frames := 0, cells := 0, slots := 0, locals := 0 } : Room) s m #[(.ref a1)] below meth c s₁ [] 0 0 := Stand.of_body Bd
  have e0 : s₁.heap = h0 := by rw [← hh, Bd.state]; rfl
  have N0 := Fr.nil n0
  have pre0 : Steps p.tables e below (s₁.setTop (entryFrame m #[(.ref a1)] 1)) (s₁.setTop (mkF m 0 #[.val (.ref a1)] [])) := castTop (ef_rmCM m a1) (Steps.refl _)
  have pre1 : Steps p.tables e below _ (s₁.setTop (mkF m 1 #[.val (.ref a1)] [(.ref a1)])) := pre0.trans (by
    show Steps p.tables e below (s₁.setTop (mkF m 0 #[.val (.ref a1)] [])) _
    refine XS.aloadN X0.here hx rfl (hb hby d21_0) rfl rfl ?_
    exact Steps.refl _)
  obtain ⟨T2, X2, e2, st2⟩ := getF X0 hx hZ hown (host := "") (Or.inl (hw _ (List.mem_of_getElem? (i := 134) rfl))) Via.refl e0 IP.2.1 (g := (mkF m 1 #[.val (.ref a1)] [(.ref a1)])) rfl rfl (hb hby d21_1)
  have pre2 : Steps p.tables e below _ (T2.setTop (mkF m 4 #[.val (.ref a1)] [(.ref la)])) := pre1.trans (st2 _ (Steps.refl _))
  obtain ⟨T3, X3, e3, st3⟩ := getF X2 hx hZ hown (host := "") (Or.inl (hw _ (List.mem_of_getElem? (i := 139) rfl))) (Via.of (hw _ (List.mem_of_getElem? (i := 92) rfl))) e2 A.2.2.2 (g := (mkF m 4 #[.val (.ref a1)] [(.ref la)])) rfl rfl (hb hby d21_4)
  have pre3 : Steps p.tables e below _ (T3.setTop (mkF m 7 #[.val (.ref a1)] [(.int mc)])) := pre2.trans (st3 _ (Steps.refl _))
  have pre4 : Steps p.tables e below _ (T3.setTop (mkF m 8 #[.val (.ref a1)] [(.ref a1), (.int mc)])) := pre3.trans (by
    show Steps p.tables e below (T3.setTop (mkF m 7 #[.val (.ref a1)] [(.int mc)])) _
    refine XS.aloadN X3.here hx rfl (hb hby d21_7) rfl rfl ?_
    exact Steps.refl _)
  obtain ⟨T5, X5, e5, st5⟩ := getF X3 hx hZ hown (host := "") (Or.inl (hw _ (List.mem_of_getElem? (i := 140) rfl))) Via.refl e3 IP.2.2.2.1 (g := (mkF m 8 #[.val (.ref a1)] [(.ref a1), (.int mc)])) rfl rfl (hb hby d21_8)
  have pre5 : Steps p.tables e below _ (T5.setTop (mkF m 11 #[.val (.ref a1)] [(.int mc), (.int mc)])) := pre4.trans (st5 _ (Steps.refl _))
  have pre6 : Steps p.tables e below _ (T5.setTop (mkF m 22 #[.val (.ref a1)] [])) := pre5.trans (by
    show Steps p.tables e below (T5.setTop (mkF m 11 #[.val (.ref a1)] [(.int mc), (.int mc)])) _
    refine XS.icmpYes X5.here hx rfl (pc0 := 11) (pc' := 22) rfl (hb hby d21_11) rfl (teq (rfl : mc = mc)).1 (by decide) (by decide) ?_
    exact Steps.refl _)
  obtain ⟨fs, hr, hrun, hended, hW, hsame⟩ := X5.leave (v := none) (fun h => by rfl)
  refine ⟨_, _, pre6.trans ?_, hrun, hended, _, _, rfl, ?_, ⟨_, rfl⟩, hW, hsame.mono (by decide) (by decide)⟩
  · exact X5.returnOut hx Bd.returns (hb hby d21_22) hr
  · exact ⟨rfl, N0, e5⟩
theorem d20_0 : decode jdk_49_method_3_code 0 = .ok (.aload_n 0, 1) := by decide +kernel
theorem d20_1 : decode jdk_49_method_3_code 1 = .ok (.invokevirtual 31, 3) := by decide +kernel
theorem d20_4 : decode jdk_49_method_3_code 4 = .ok (.aload_n 0, 1) := by decide +kernel
theorem d20_5 : decode jdk_49_method_3_code 5 = .ok (.getfield 25, 3) := by decide +kernel
theorem d20_8 : decode jdk_49_method_3_code 8 = .ok (.istore_n 1, 1) := by decide +kernel
theorem d20_9 : decode jdk_49_method_3_code 9 = .ok (.iload_n 1, 1) := by decide +kernel
theorem d20_10 : decode jdk_49_method_3_code 10 = .ok (.aload_n 0, 1) := by decide +kernel
theorem d20_11 : decode jdk_49_method_3_code 11 = .ok (.getfield 1, 3) := by decide +kernel
theorem d20_14 : decode jdk_49_method_3_code 14 = .ok (.getfield 28, 3) := by decide +kernel
theorem d20_17 : decode jdk_49_method_3_code 17 = .ok (.if_icmp .lt 11, 3) := by decide +kernel
theorem d20_28 : decode jdk_49_method_3_code 28 = .ok (.aload_n 0, 1) := by decide +kernel
theorem d20_29 : decode jdk_49_method_3_code 29 = .ok (.getfield 1, 3) := by decide +kernel
theorem d20_32 : decode jdk_49_method_3_code 32 = .ok (.getfield 37, 3) := by decide +kernel
theorem d20_35 : decode jdk_49_method_3_code 35 = .ok (.astore_n 2, 1) := by decide +kernel
theorem d20_36 : decode jdk_49_method_3_code 36 = .ok (.iload_n 1, 1) := by decide +kernel
theorem d20_37 : decode jdk_49_method_3_code 37 = .ok (.aload_n 2, 1) := by decide +kernel
theorem d20_38 : decode jdk_49_method_3_code 38 = .ok (.arraylength, 1) := by decide +kernel
theorem d20_39 : decode jdk_49_method_3_code 39 = .ok (.if_icmp .lt 11, 3) := by decide +kernel
theorem d20_50 : decode jdk_49_method_3_code 50 = .ok (.aload_n 0, 1) := by decide +kernel
theorem d20_51 : decode jdk_49_method_3_code 51 = .ok (.iload_n 1, 1) := by decide +kernel
theorem d20_52 : decode jdk_49_method_3_code 52 = .ok (.iconst 1, 1) := by decide +kernel
theorem d20_53 : decode jdk_49_method_3_code 53 = .ok (.iadd, 1) := by decide +kernel
theorem d20_54 : decode jdk_49_method_3_code 54 = .ok (.putfield 25, 3) := by decide +kernel
theorem d20_57 : decode jdk_49_method_3_code 57 = .ok (.aload_n 2, 1) := by decide +kernel
theorem d20_58 : decode jdk_49_method_3_code 58 = .ok (.aload_n 0, 1) := by decide +kernel
theorem d20_59 : decode jdk_49_method_3_code 59 = .ok (.iload_n 1, 1) := by decide +kernel
theorem d20_60 : decode jdk_49_method_3_code 60 = .ok (.dup_x1, 1) := by decide +kernel
theorem d20_61 : decode jdk_49_method_3_code 61 = .ok (.putfield 13, 3) := by decide +kernel
theorem d20_64 : decode jdk_49_method_3_code 64 = .ok (.aaload, 1) := by decide +kernel
theorem d20_65 : decode jdk_49_method_3_code 65 = .ok (.areturn, 1) := by decide +kernel
theorem pn_rmNx : plainName "java/util/ArrayList$Itr" = true := by first | (simp [plainName, overriddenIn]; done) | decide +kernel
theorem pd_rmNx_0 : parseMethodDescriptor "()V" = some ⟨[], none⟩ := by decide +kernel
theorem ef_rmNx (m : MethodId) (a1 : Addr) : entryFrame m #[(.ref a1)] 3 = (mkF m 0 #[.val (.ref a1), .unset, .unset] []) := by first | (simp [entryFrame, mkF, argsToLocals, Value.category]; done) | rfl
def Q_rmNx (Z : State) (a1 : Addr) (la ar : Addr) (cur nn mc : Int32) (P : Addr → Prop) (h0 : Heap) (n0 : Nat) (v : Option Value) (h : Heap) (L : List Loc) : Prop := ∃ b, v = some (.ref b) ∧ Fr n0 L ∧ P b ∧ ∃ h1, Wr h0 h1 a1 (Jvm.RoadKit.slotOf Z "java/util/ArrayList$Itr" "cursor" "I") (.int (cur + 1)) ∧ Wr h1 h a1 (Jvm.RoadKit.slotOf Z "java/util/ArrayList$Itr" "lastRet" "I") (.int cur)
set_option maxRecDepth 65536 in
set_option maxHeartbeats 40000000 in
theorem rmNx (l : Launch) (Z : State) (a0 : Array Value) (hw : ∀ d ∈ tables_1, d.before a0 Z = true) (ws : List Jvm.Cond) (a1 : Addr) (la ar : Addr) (cur nn mc : Int32) (P : Addr → Prop) (h0 : Heap) (n0 : Nat) (Z0 : n0 ≤ h0.size) (IP : Itp Z h0 a1 la cur mc) (A : Ali Z h0 la (.ref ar) nn mc) (B : PAr Z h0 ar nn nn.toNatClampNeg P) (hge : ¬ cur < 0) (hlt : cur < nn) (hk : cur.toNatClampNeg < nn.toNatClampNeg) (g_a1 : n0 ≤ a1) :
    MetFree l (⟨"java/util/ArrayList$Itr", "next", "()Ljava/lang/Object;"⟩ : MethodName) (head1 (Jvm.Cond.code (⟨"java/util/ArrayList$Itr", "next", "()Ljava/lang/Object;"⟩ : MethodName) jdk_49_method_3_code 3 (some (.object "java/lang/Object")) :: ws) ({ frames := 1, cells := 0, slots := 0, locals := 12 } : Room)) (fun a U => a = #[(.ref a1)] ∧ Z.Warmed39 U.vm ∧ U.heap = h0) (fun _ _ _ _ _ => True) (fun _ U o U' => ∃ v L, o = .returned v ∧ Q_rmNx Z a1 la ar cur nn mc P h0 n0 v U'.heap L ∧ FrameEnd U o U' L ({ frames := 1, cells := 0, slots := 0, locals := 12 } : Room).cells ({ frames := 1, cells := 0, slots := 0, locals := 12 } : Room).slots) := by
  refine MetFree.of_bodySF (plainFor_of_name pn_rmNx) hisR ?_
  intro p e s m args below meth c s₁ Bd hml0 hP hK
  obtain ⟨rfl, hZ, hh⟩ := hP
  have hx := Bd.exec
  have hby := Bd.bytes
  have hml : c.maxLocals = 3 := hml0
  have hown : s.vm.findClass "java/util/ArrayList$Itr" = some m.cls := findClass_of_methodNamed Bd.named
  have hnm := (name_of_methodNamed Bd.named Bd.method).1
  have X0 : Stand p l e ({ frames := 1, cells := 0, slots := 0, locals := 12 } : Room) s m #[(.ref a1)] below meth c s₁ [] 0 0 := Stand.of_body Bd
  have e0 : s₁.heap = h0 := by rw [← hh, Bd.state]; rfl
  have N0 := Fr.nil n0
  have pre0 : Steps p.tables e below (s₁.setTop (entryFrame m #[(.ref a1)] 3)) (s₁.setTop (mkF m 0 #[.val (.ref a1), .unset, .unset] [])) := castTop (ef_rmNx m a1) (Steps.refl _)
  obtain ⟨cb, Ab, Ob, Eb, Sb, Mb, Hb⟩ := id B
  have nit : ar ≠ a1 := ne_exa Eb IP.1 (by decide)
  have pre1 : Steps p.tables e below _ (s₁.setTop (mkF m 1 #[.val (.ref a1), .unset, .unset] [(.ref a1)])) := pre0.trans (by
    show Steps p.tables e below (s₁.setTop (mkF m 0 #[.val (.ref a1), .unset, .unset] [])) _
    refine XS.aloadN X0.here hx rfl (hb hby d20_0) rfl rfl ?_
    exact Steps.refl _)
  obtain ⟨cq2, kq2, q2a, q2b, q2c⟩ := isOf hZ e0 IP.1
  obtain ⟨_, _, ⟨T2, L2, k2, n2⟩, -, X2, ⟨Lc2, hQ2, l2, y2, z2⟩, st2⟩ := X0.virtualBack hx (y := (⟨"java/util/ArrayList$Itr", "checkForComodification", "()V"⟩ : MethodName)) (z := (⟨"java/util/ArrayList$Itr", "checkForComodification", "()V"⟩ : MethodName)) hown (mvT hZ (hw _ (List.mem_of_getElem? (i := 162) rfl))) (mvT hZ (hw _ (List.mem_of_getElem? (i := 163) rfl))) (notFace_of_selects (args := #[]) (mvT hZ (hw _ (List.mem_of_getElem? (i := 165) rfl)))) (mvT hZ (hw _ (List.mem_of_getElem? (i := 165) rfl))) (mvT hZ (hw _ (List.mem_of_getElem? (i := 164) rfl))) (by decide) (backOf (W := 0) (rmCM l Z a0 hw [] a1 la (.ref ar) cur nn mc h0 n0 Z0 IP A) hZ (hw _ (List.mem_of_getElem? (i := 166) rfl)) (hw _ (List.mem_of_getElem? (i := 129) rfl)) (by decide) (by decide)) q2a q2c (g := (mkF m 1 #[.val (.ref a1), .unset, .unset] [(.ref a1)])) rfl (by rw [hml]; rfl) (Steps.refl _) (argsL := []) (rest := []) (lenOf pd_rmNx_0 rfl) rfl (by show 2 * 0 + _ ≤ _; exact Nat.le_of_eq rfl) (hb hby d20_1) (fun _ _ => ⟨rfl, e0, (by decide : 0 + 0 ≤ _), (by decide : 0 + 0 ≤ _)⟩)
  dsimp only [Pt.U, Pt.locs, Pt.cells, Pt.slots] at X2 l2 y2 z2 st2 hQ2
  subst l2 y2 z2
  obtain ⟨rfl, N2q, hh2⟩ := hQ2
  have N2 := Fr.app N0 N2q
  have pre2 : Steps p.tables e below _ (T2.setTop (mkF m 4 #[.val (.ref a1), .unset, .unset] [])) := pre1.trans (st2)
  have pre3 : Steps p.tables e below _ (T2.setTop (mkF m 5 #[.val (.ref a1), .unset, .unset] [(.ref a1)])) := pre2.trans (by
    show Steps p.tables e below (T2.setTop (mkF m 4 #[.val (.ref a1), .unset, .unset] [])) _
    refine XS.aloadN X2.here hx rfl (hb hby d20_4) rfl rfl ?_
    exact Steps.refl _)
  obtain ⟨T4, X4, e4, st4⟩ := getF X2 hx hZ hown (host := "") (Or.inl (hw _ (List.mem_of_getElem? (i := 151) rfl))) Via.refl hh2 IP.2.2.1 (g := (mkF m 5 #[.val (.ref a1), .unset, .unset] [(.ref a1)])) rfl rfl (hb hby d20_5)
  have pre4 : Steps p.tables e below _ (T4.setTop (mkF m 8 #[.val (.ref a1), .unset, .unset] [(.int cur)])) := pre3.trans (st4 _ (Steps.refl _))
  have pre5 : Steps p.tables e below _ (T4.setTop (mkF m 11 #[.val (.ref a1), .val (.int cur), .unset] [(.ref a1), (.int cur)])) := pre4.trans (by
    show Steps p.tables e below (T4.setTop (mkF m 8 #[.val (.ref a1), .unset, .unset] [(.int cur)])) _
    refine XS.istoreN X4.here hx rfl (hb hby d20_8) rfl (l' := #[.val (.ref a1), .val (.int cur), .unset]) rfl ?_
    show Steps p.tables e below (T4.setTop (mkF m 9 #[.val (.ref a1), .val (.int cur), .unset] [])) _
    refine XS.iloadN X4.here hx rfl (hb hby d20_9) rfl ?_
    show Steps p.tables e below (T4.setTop (mkF m 10 #[.val (.ref a1), .val (.int cur), .unset] [(.int cur)])) _
    refine XS.aloadN X4.here hx rfl (hb hby d20_10) rfl rfl ?_
    exact Steps.refl _)
  obtain ⟨T6, X6, e6, st6⟩ := getF X4 hx hZ hown (host := "") (Or.inl (hw _ (List.mem_of_getElem? (i := 134) rfl))) Via.refl e4 IP.2.1 (g := (mkF m 11 #[.val (.ref a1), .val (.int cur), .unset] [(.ref a1), (.int cur)])) rfl rfl (hb hby d20_11)
  have pre6 : Steps p.tables e below _ (T6.setTop (mkF m 14 #[.val (.ref a1), .val (.int cur), .unset] [(.ref la), (.int cur)])) := pre5.trans (st6 _ (Steps.refl _))
  obtain ⟨T7, X7, e7, st7⟩ := getF X6 hx hZ hown (host := "java/util/ArrayList") (Or.inr (hw _ (List.mem_of_getElem? (i := 153) rfl))) Via.refl e6 A.2.2.1 (g := (mkF m 14 #[.val (.ref a1), .val (.int cur), .unset] [(.ref la), (.int cur)])) rfl rfl (hb hby d20_14)
  have pre7 : Steps p.tables e below _ (T7.setTop (mkF m 17 #[.val (.ref a1), .val (.int cur), .unset] [(.int nn), (.int cur)])) := pre6.trans (st7 _ (Steps.refl _))
  have pre8 : Steps p.tables e below _ (T7.setTop (mkF m 29 #[.val (.ref a1), .val (.int cur), .unset] [(.ref a1)])) := pre7.trans (by
    show Steps p.tables e below (T7.setTop (mkF m 17 #[.val (.ref a1), .val (.int cur), .unset] [(.int nn), (.int cur)])) _
    refine XS.icmpYes X7.here hx rfl (pc0 := 17) (pc' := 28) rfl (hb hby d20_17) rfl (tlt hlt).1 (by decide) (by decide) ?_
    show Steps p.tables e below (T7.setTop (mkF m 28 #[.val (.ref a1), .val (.int cur), .unset] [])) _
    refine XS.aloadN X7.here hx rfl (hb hby d20_28) rfl rfl ?_
    exact Steps.refl _)
  obtain ⟨T9, X9, e9, st9⟩ := getF X7 hx hZ hown (host := "") (Or.inl (hw _ (List.mem_of_getElem? (i := 134) rfl))) Via.refl e7 IP.2.1 (g := (mkF m 29 #[.val (.ref a1), .val (.int cur), .unset] [(.ref a1)])) rfl rfl (hb hby d20_29)
  have pre9 : Steps p.tables e below _ (T9.setTop (mkF m 32 #[.val (.ref a1), .val (.int cur), .unset] [(.ref la)])) := pre8.trans (st9 _ (Steps.refl _))
  obtain ⟨T10, X10, e10, st10⟩ := getF X9 hx hZ hown (host := "") (Or.inl (hw _ (List.mem_of_getElem? (i := 167) rfl))) Via.refl e9 A.2.1 (g := (mkF m 32 #[.val (.ref a1), .val (.int cur), .unset] [(.ref la)])) rfl rfl (hb hby d20_32)
  have pre10 : Steps p.tables e below _ (T10.setTop (mkF m 35 #[.val (.ref a1), .val (.int cur), .unset] [(.ref ar)])) := pre9.trans (st10 _ (Steps.refl _))
  have pre11 : Steps p.tables e below _ (T10.setTop (mkF m 54 #[.val (.ref a1), .val (.int cur), .val (.ref ar)] [(.int (cur + (1 : Int32))), (.ref a1)])) := pre10.trans (by
    show Steps p.tables e below (T10.setTop (mkF m 35 #[.val (.ref a1), .val (.int cur), .unset] [(.ref ar)])) _
    refine XS.astoreN X10.here hx rfl (hb hby d20_35) rfl rfl (l' := #[.val (.ref a1), .val (.int cur), .val (.ref ar)]) rfl ?_
    show Steps p.tables e below (T10.setTop (mkF m 36 #[.val (.ref a1), .val (.int cur), .val (.ref ar)] [])) _
    refine XS.iloadN X10.here hx rfl (hb hby d20_36) rfl ?_
    show Steps p.tables e below (T10.setTop (mkF m 37 #[.val (.ref a1), .val (.int cur), .val (.ref ar)] [(.int cur)])) _
    refine XS.aloadN X10.here hx rfl (hb hby d20_37) rfl rfl ?_
    show Steps p.tables e below (T10.setTop (mkF m 38 #[.val (.ref a1), .val (.int cur), .val (.ref ar)] [(.ref ar), (.int cur)])) _
    refine X10.arraylength hx (by rw [e10]; exact Ab.1) (State.isArrayOf_alike hZ.alike Ab.2.1) (g := (mkF m 38 #[.val (.ref a1), .val (.int cur), .val (.ref ar)] [(.ref ar), (.int cur)])) rfl rfl (hb hby d20_38) _ ?_
    rw [len_of Sb Mb]
    show Steps p.tables e below (T10.setTop (mkF m 39 #[.val (.ref a1), .val (.int cur), .val (.ref ar)] [(.int nn), (.int cur)])) _
    refine XS.icmpYes X10.here hx rfl (pc0 := 39) (pc' := 50) rfl (hb hby d20_39) rfl (tlt hlt).1 (by decide) (by decide) ?_
    show Steps p.tables e below (T10.setTop (mkF m 50 #[.val (.ref a1), .val (.int cur), .val (.ref ar)] [])) _
    refine XS.aloadN X10.here hx rfl (hb hby d20_50) rfl rfl ?_
    show Steps p.tables e below (T10.setTop (mkF m 51 #[.val (.ref a1), .val (.int cur), .val (.ref ar)] [(.ref a1)])) _
    refine XS.iloadN X10.here hx rfl (hb hby d20_51) rfl ?_
    show Steps p.tables e below (T10.setTop (mkF m 52 #[.val (.ref a1), .val (.int cur), .val (.ref ar)] [(.int cur), (.ref a1)])) _
    refine XS.iconst X10.here hx rfl (hb hby d20_52) ?_
    show Steps p.tables e below (T10.setTop (mkF m 53 #[.val (.ref a1), .val (.int cur), .val (.ref ar)] [(.int (1 : Int32)), (.int cur), (.ref a1)])) _
    refine XS.iadd X10.here hx rfl (hb hby d20_53) rfl ?_
    exact Steps.refl _)
  obtain ⟨T12, h12, X12, e12, W12, st12⟩ := putF X10 hx hZ hown (host := "") (Or.inl (hw _ (List.mem_of_getElem? (i := 151) rfl))) Via.refl e10 IP.2.2.1 IP.1 (Or.inl (hw _ (List.mem_of_getElem? (i := 152) rfl))) (hw _ (List.mem_of_getElem? (i := 128) rfl)) (ty := .int) (by decide) rfl rfl (g := (mkF m 54 #[.val (.ref a1), .val (.int cur), .val (.ref ar)] [(.int (cur + (1 : Int32))), (.ref a1)])) rfl rfl (hb hby d20_54)
  have N12 := Fr.snoc X12 N2 g_a1
  have Z12 : n0 ≤ h12.size := Nat.le_trans Z0 (Keep.of_wr W12).1
  have pre12 : Steps p.tables e below _ (T12.setTop (mkF m 57 #[.val (.ref a1), .val (.int cur), .val (.ref ar)] [])) := pre11.trans (st12 _ (Steps.refl _))
  obtain ⟨lr, FL⟩ := IP.2.2.2.2
  have pre13 : Steps p.tables e below _ (T12.setTop (mkF m 61 #[.val (.ref a1), .val (.int cur), .val (.ref ar)] [(.int cur), (.ref a1), (.int cur), (.ref ar)])) := pre12.trans (by
    show Steps p.tables e below (T12.setTop (mkF m 57 #[.val (.ref a1), .val (.int cur), .val (.ref ar)] [])) _
    refine XS.aloadN X12.here hx rfl (hb hby d20_57) rfl rfl ?_
    show Steps p.tables e below (T12.setTop (mkF m 58 #[.val (.ref a1), .val (.int cur), .val (.ref ar)] [(.ref ar)])) _
    refine XS.aloadN X12.here hx rfl (hb hby d20_58) rfl rfl ?_
    show Steps p.tables e below (T12.setTop (mkF m 59 #[.val (.ref a1), .val (.int cur), .val (.ref ar)] [(.ref a1), (.ref ar)])) _
    refine XS.iloadN X12.here hx rfl (hb hby d20_59) rfl ?_
    show Steps p.tables e below (T12.setTop (mkF m 60 #[.val (.ref a1), .val (.int cur), .val (.ref ar)] [(.int cur), (.ref a1), (.ref ar)])) _
    refine own_dupX1 X12.here hx rfl (hb hby d20_60) rfl rfl rfl ?_
    exact Steps.refl _)
  obtain ⟨T14, h14, X14, e14, W14, st14⟩ := putF X12 hx hZ hown (host := "") (Or.inl (hw _ (List.mem_of_getElem? (i := 137) rfl))) Via.refl e12 (FL.other W12 (Or.inr (ne_lastRet_cursor hw))) (IP.1.wr W12) (Or.inl (hw _ (List.mem_of_getElem? (i := 138) rfl))) (hw _ (List.mem_of_getElem? (i := 128) rfl)) (ty := .int) (by decide) rfl rfl (g := (mkF m 61 #[.val (.ref a1), .val (.int cur), .val (.ref ar)] [(.int cur), (.ref a1), (.int cur), (.ref ar)])) rfl rfl (hb hby d20_61)
  have N14 := Fr.snoc X14 N12 g_a1
  have Z14 : n0 ≤ h14.size := Nat.le_trans Z12 (Keep.of_wr W14).1
  have pre14 : Steps p.tables e below _ (T14.setTop (mkF m 64 #[.val (.ref a1), .val (.int cur), .val (.ref ar)] [(.int cur), (.ref ar)])) := pre13.trans (st14 _ (Steps.refl _))
  obtain ⟨cb2, Ab2, Ob2, Eb2, Sb2, Mb2, Hb2⟩ := (B.other W12 nit (P' := P) (fun _ q => q)).other W14 nit (P' := P) (fun _ q => q)
  have hin := inb_of Sb2 ⟨hge, hlt⟩
  obtain ⟨eb, hat, hPb⟩ := Hb2 cur.toNatClampNeg hk
  have pre15 : Steps p.tables e below _ (T14.setTop (mkF m 65 #[.val (.ref a1), .val (.int cur), .val (.ref ar)] [(.ref eb)])) := pre14.trans (X14.aaload hx (j := cur) (v := (.ref eb)) (by rw [e14]; exact Ab2.1) (State.isArrayOf_alike hZ.alike Ab2.2.1) rfl Ab2.2.2 hin hat (g := (mkF m 64 #[.val (.ref a1), .val (.int cur), .val (.ref ar)] [(.int cur), (.ref ar)])) rfl rfl (hb hby d20_64) _ (Steps.refl _))
  obtain ⟨fs, hr, hrun, hended, hW, hsame⟩ := X14.leave (v := some (.ref eb)) (fun h => by rw [Bd.returns] at h; cases h)
  refine ⟨_, _, pre15.trans ?_, hrun, hended, _, _, rfl, ?_, ⟨_, rfl⟩, hW, hsame.mono (by decide) (by decide)⟩
  · exact X14.areturnOut hx rfl Bd.returns rfl (hb hby d20_65) hr
  · exact ⟨eb, rfl, N14, hPb, h12, W12, (by show Wr h12 T14.heap _ _ _; rw [e14]; exact W14)⟩
theorem d25_0 : decode jdk_29_method_69_code 0 = .ok (.iload_n 0, 1) := by decide +kernel
theorem d25_1 : decode jdk_29_method_69_code 1 = .ok (.iload_n 1, 1) := by decide +kernel
theorem d25_2 : decode jdk_29_method_69_code 2 = .ok (.if_icmp .gt 7, 3) := by decide +kernel
theorem d25_5 : decode jdk_29_method_69_code 5 = .ok (.iload_n 0, 1) := by decide +kernel
theorem d25_6 : decode jdk_29_method_69_code 6 = .ok (.goto 4, 3) := by decide +kernel
theorem d25_9 : decode jdk_29_method_69_code 9 = .ok (.iload_n 1, 1) := by decide +kernel
theorem d25_10 : decode jdk_29_method_69_code 10 = .ok (.ireturn, 1) := by decide +kernel
theorem pn_rmMn : plainFor (⟨"java/lang/Math", "min", "(II)I"⟩ : MethodName) = true := by decide +kernel
theorem ef_rmMn (m : MethodId) (p1 : Int32) (p2 : Int32) : entryFrame m #[(.int p1), (.int p2)] 2 = (mkF m 0 #[.val (.int p1), .val (.int p2)] []) := by first | (simp [entryFrame, mkF, argsToLocals, Value.category]; done) | rfl
def own_mn_0_1 (p1 : Int32) (p2 : Int32) : Int32 := p2
def own_mn_0_2 (p1 : Int32) (p2 : Int32) : Int32 := p1
def own_mn_0_3 (p1 : Int32) (p2 : Int32) : Int32 := if p2 < p1 then own_mn_0_1 p1 p2 else own_mn_0_2 p1 p2
def Q_rmMn (Z : State) (p1 : Int32) (p2 : Int32)  (h0 : Heap) (n0 : Nat) (v : Option Value) (h : Heap) (L : List Loc) : Prop := v = some (.int (own_mn_0_3 p1 p2)) ∧ Fr n0 L ∧ h = h0
set_option maxRecDepth 65536 in
set_option maxHeartbeats 40000000 in
theorem rmMn (l : Launch) (Z : State) (a0 : Array Value) (hw : ∀ d ∈ tables_1, d.before a0 Z = true) (ws : List Jvm.Cond) (p1 : Int32) (p2 : Int32)  (h0 : Heap) (n0 : Nat) (Z0 : n0 ≤ h0.size)  :
    MetFree l (⟨"java/lang/Math", "min", "(II)I"⟩ : MethodName) (head1 (Jvm.Cond.code (⟨"java/lang/Math", "min", "(II)I"⟩ : MethodName) jdk_29_method_69_code 2 (some .int) :: ws) ({ frames := 0, cells := 0, slots := 0, locals := 0 } : Room)) (fun a U => a = #[(.int p1), (.int p2)] ∧ Z.Warmed39 U.vm ∧ U.heap = h0) (fun _ _ _ _ _ => True) (fun _ U o U' => ∃ v L, o = .returned v ∧ Q_rmMn Z p1 p2 h0 n0 v U'.heap L ∧ FrameEnd U o U' L ({ frames := 0, cells := 0, slots := 0, locals := 0 } : Room).cells ({ frames := 0, cells := 0, slots := 0, locals := 0 } : Room).slots) := by
  refine MetFree.of_bodySF pn_rmMn hisR ?_
  intro p e s m args below meth c s₁ Bd hml0 hP hK
  obtain ⟨rfl, hZ, hh⟩ := hP
  have hx := Bd.exec
  have hby := Bd.bytes
  have hml : c.maxLocals = 2 := hml0
  have hown : s.vm.findClass "java/lang/Math" = some m.cls := findClass_of_methodNamed Bd.named
  have hnm := (name_of_methodNamed Bd.named Bd.method).1
  have X0 : Stand p l e ({ frames := 0, cells := 0, slots := 0, locals := 0 } : Room) s m #[(.int p1), (.int p2)] below meth c s₁ [] 0 0 := Stand.of_body Bd
  have e0 : s₁.heap = h0 := by rw [← hh, Bd.state]; rfl
  have N0 := Fr.nil n0
  have pre0 : Steps p.tables e below (s₁.setTop (entryFrame m #[(.int p1), (.int p2)] 2)) (s₁.setTop (mkF m 0 #[.val (.int p1), .val (.int p2)] [])) := castTop (ef_rmMn m p1 p2) (Steps.refl _)
  obtain ⟨v_mn_0, h_v_mn_0⟩ : ∃ z, z = own_mn_0_3 p1 p2 := ⟨_, rfl⟩
  obtain ⟨fs, hr, hrun, hended, hW, hsame⟩ := X0.leave (v := some (.int v_mn_0)) (fun h => by rw [Bd.returns] at h; cases h)
  have Bmn_1 (hv0 : v_mn_0 = own_mn_0_1 p1 p2) : Steps p.tables e below (s₁.setTop (mkF m 9 #[.val (.int p1), .val (.int p2)] [])) (s₁.setFrames fs) := by
    have hw0 : v_mn_0 = p2 := hv0
    rw [hw0] at hr
    show Steps p.tables e below (s₁.setTop (mkF m 9 #[.val (.int p1), .val (.int p2)] [])) _
    refine XS.iloadN X0.here hx rfl (hb hby d25_9) rfl ?_
    show Steps p.tables e below (s₁.setTop (mkF m 10 #[.val (.int p1), .val (.int p2)] [(.int p2)])) _
    exact retI X0 hx Bd.returns (hb hby d25_10) hr
  have Bmn_2 (hv0 : v_mn_0 = own_mn_0_2 p1 p2) : Steps p.tables e below (s₁.setTop (mkF m 5 #[.val (.int p1), .val (.int p2)] [])) (s₁.setFrames fs) := by
    have hw0 : v_mn_0 = p1 := hv0
    rw [hw0] at hr
    show Steps p.tables e below (s₁.setTop (mkF m 5 #[.val (.int p1), .val (.int p2)] [])) _
    refine XS.iloadN X0.here hx rfl (hb hby d25_5) rfl ?_
    show Steps p.tables e below (s₁.setTop (mkF m 6 #[.val (.int p1), .val (.int p2)] [(.int p1)])) _
    refine XS.goto X0.here hx rfl (pc0 := 6) (pc' := 10) rfl (hb hby d25_6) (by decide) (by decide) ?_
    show Steps p.tables e below (s₁.setTop (mkF m 10 #[.val (.int p1), .val (.int p2)] [(.int p1)])) _
    exact retI X0 hx Bd.returns (hb hby d25_10) hr
  have Bmn_3 (hv0 : v_mn_0 = own_mn_0_3 p1 p2) : Steps p.tables e below (s₁.setTop (mkF m 0 #[.val (.int p1), .val (.int p2)] [])) (s₁.setFrames fs) := by
    show Steps p.tables e below (s₁.setTop (mkF m 0 #[.val (.int p1), .val (.int p2)] [])) _
    refine XS.iloadN X0.here hx rfl (hb hby d25_0) rfl ?_
    show Steps p.tables e below (s₁.setTop (mkF m 1 #[.val (.int p1), .val (.int p2)] [(.int p1)])) _
    refine XS.iloadN X0.here hx rfl (hb hby d25_1) rfl ?_
    show Steps p.tables e below (s₁.setTop (mkF m 2 #[.val (.int p1), .val (.int p2)] [(.int p2), (.int p1)])) _
    by_cases h2 : p2 < p1
    · refine XS.icmpYes X0.here hx rfl (pc0 := 2) (pc' := 9) rfl (hb hby d25_2) rfl (tlt h2).2.2.1 (by decide) (by decide) ?_
      exact Bmn_1 (hv0.trans (if_pos h2))
    · refine XS.icmpNo X0.here hx rfl (hb hby d25_2) rfl (flt h2).2.2.1 ?_
      exact Bmn_2 (hv0.trans (if_neg h2))
  have pre1 : Steps p.tables e below _ (s₁.setFrames fs) := pre0.trans (Bmn_3 h_v_mn_0)
  refine ⟨_, _, pre1, hrun, hended, _, _, rfl, ?_, ⟨_, rfl⟩, hW, hsame.mono (by decide) (by decide)⟩
  exact ⟨by rw [h_v_mn_0], N0, e0⟩
theorem own_mns (x : Int32) : own_mn_0_3 x x = x := by
  by_cases q : x < x
  · exact if_pos q
  · exact if_neg q
theorem d24_0 : decode jdk_65_method_120_code 0 = .ok (.aload_n 2, 1) := by decide +kernel
theorem d24_1 : decode jdk_65_method_120_code 1 = .ok (.ldc 110, 2) := by decide +kernel
theorem d24_3 : decode jdk_65_method_120_code 3 = .ok (.if_acmp .ne 10, 3) := by decide +kernel
theorem d24_6 : decode jdk_65_method_120_code 6 = .ok (.iload_n 1, 1) := by decide +kernel
theorem d24_7 : decode jdk_65_method_120_code 7 = .ok (.anewarray 2, 3) := by decide +kernel
theorem d24_10 : decode jdk_65_method_120_code 10 = .ok (.goto 14, 3) := by decide +kernel
theorem d24_24 : decode jdk_65_method_120_code 24 = .ok (.astore_n 3, 1) := by decide +kernel
theorem d24_25 : decode jdk_65_method_120_code 25 = .ok (.aload_n 0, 1) := by decide +kernel
theorem d24_26 : decode jdk_65_method_120_code 26 = .ok (.iconst 0, 1) := by decide +kernel
theorem d24_27 : decode jdk_65_method_120_code 27 = .ok (.aload_n 3, 1) := by decide +kernel
theorem d24_28 : decode jdk_65_method_120_code 28 = .ok (.iconst 0, 1) := by decide +kernel
theorem d24_29 : decode jdk_65_method_120_code 29 = .ok (.aload_n 0, 1) := by decide +kernel
theorem d24_30 : decode jdk_65_method_120_code 30 = .ok (.arraylength, 1) := by decide +kernel
theorem d24_31 : decode jdk_65_method_120_code 31 = .ok (.iload_n 1, 1) := by decide +kernel
theorem d24_32 : decode jdk_65_method_120_code 32 = .ok (.invokestatic 304, 3) := by decide +kernel
theorem d24_35 : decode jdk_65_method_120_code 35 = .ok (.invokestatic 150, 3) := by decide +kernel
theorem d24_38 : decode jdk_65_method_120_code 38 = .ok (.aload_n 3, 1) := by decide +kernel
theorem d24_39 : decode jdk_65_method_120_code 39 = .ok (.areturn, 1) := by decide +kernel
theorem pn_rmAc3 : plainName "java/util/Arrays" = true := by first | (simp [plainName, overriddenIn]; done) | decide +kernel
theorem pd_rmAc3_0 : parseMethodDescriptor "(II)I" = some ⟨[.int, .int], some .int⟩ := by decide +kernel
theorem ef_rmAc3 (m : MethodId) (a1 : Addr) (p2 : Int32) (mr : Addr) : entryFrame m #[(.ref a1), (.int p2), (.ref mr)] 4 = (mkF m 0 #[.val (.ref a1), .val (.int p2), .val (.ref mr), .unset] []) := by first | (simp [entryFrame, mkF, argsToLocals, Value.category]; done) | rfl
def Q_rmAc3 (Z : State) (a1 : Addr) (p2 : Int32) (mr : Addr) (P : Addr → Prop) (h0 : Heap) (n0 : Nat) (v : Option Value) (h : Heap) (L : List Loc) : Prop := v = some (.ref h0.size) ∧ Fr n0 L ∧ Keep h0 h [] ∧ PAr Z h h0.size p2 p2.toNatClampNeg P
set_option maxRecDepth 65536 in
set_option maxHeartbeats 40000000 in
theorem rmAc3 (l : Launch) (Z : State) (a0 : Array Value) (hw : ∀ d ∈ tables_1, d.before a0 Z = true) (ws : List Jvm.Cond) (a1 : Addr) (p2 : Int32) (mr : Addr) (P : Addr → Prop) (h0 : Heap) (n0 : Nat) (Z0 : n0 ≤ h0.size) (B : PAr Z h0 a1 p2 p2.toNatClampNeg P) (hI : ∀ x, P x → Ins Z h0 x "java/lang/Object" true) (M : Mir Z "[Ljava/lang/Object;" mr) (hp1 : 2 ≤ p2.toInt) (hp2 : p2.toInt ≤ 65) :
    MetFree l (⟨"java/util/Arrays", "copyOf", "([Ljava/lang/Object;ILjava/lang/Class;)[Ljava/lang/Object;"⟩ : MethodName) (head1 (Jvm.Cond.code (⟨"java/util/Arrays", "copyOf", "([Ljava/lang/Object;ILjava/lang/Class;)[Ljava/lang/Object;"⟩ : MethodName) jdk_65_method_120_code 4 (some (.array (.object "java/lang/Object"))) :: ws) ({ frames := 1, cells := 1, slots := 65, locals := 18 } : Room)) (fun a U => a = #[(.ref a1), (.int p2), (.ref mr)] ∧ Z.Warmed39 U.vm ∧ U.heap = h0) (fun _ _ _ _ _ => True) (fun _ U o U' => ∃ v L, o = .returned v ∧ Q_rmAc3 Z a1 p2 mr P h0 n0 v U'.heap L ∧ FrameEnd U o U' L ({ frames := 1, cells := 1, slots := 65, locals := 18 } : Room).cells ({ frames := 1, cells := 1, slots := 65, locals := 18 } : Room).slots) := by
  refine MetFree.of_bodySF (plainFor_of_name pn_rmAc3) hisR ?_
  intro p e s m args below meth c s₁ Bd hml0 hP hK
  obtain ⟨rfl, hZ, hh⟩ := hP
  have hx := Bd.exec
  have hby := Bd.bytes
  have hml : c.maxLocals = 4 := hml0
  have hown : s.vm.findClass "java/util/Arrays" = some m.cls := findClass_of_methodNamed Bd.named
  have hnm := (name_of_methodNamed Bd.named Bd.method).1
  have X0 : Stand p l e ({ frames := 1, cells := 1, slots := 65, locals := 18 } : Room) s m #[(.ref a1), (.int p2), (.ref mr)] below meth c s₁ [] 0 0 := Stand.of_body Bd
  have e0 : s₁.heap = h0 := by rw [← hh, Bd.state]; rfl
  have N0 := Fr.nil n0
  have pre0 : Steps p.tables e below (s₁.setTop (entryFrame m #[(.ref a1), (.int p2), (.ref mr)] 4)) (s₁.setTop (mkF m 0 #[.val (.ref a1), .val (.int p2), .val (.ref mr), .unset] [])) := castTop (ef_rmAc3 m a1 p2 mr) (Steps.refl _)
  have e00 : (0 : Int32).toInt = 0 := rfl
  have u2 : ¬ p2 < 0 := by rw [own_lt]; omega
  have u3 : p2.toNatClampNeg ≤ 65 := by have q := own_nat p2 (by omega); omega
  have pre1 : Steps p.tables e below _ (s₁.setTop (mkF m 1 #[.val (.ref a1), .val (.int p2), .val (.ref mr), .unset] [(.ref mr)])) := pre0.trans (by
    show Steps p.tables e below (s₁.setTop (mkF m 0 #[.val (.ref a1), .val (.int p2), .val (.ref mr), .unset] [])) _
    refine XS.aloadN X0.here hx rfl (hb hby d24_0) rfl rfl ?_
    exact Steps.refl _)
  obtain ⟨T2, X2, e2, st2⟩ := own_ldcM X0 hx hZ hown (hw _ (List.mem_of_getElem? (i := 191) rfl)) e0 M (g := (mkF m 1 #[.val (.ref a1), .val (.int p2), .val (.ref mr), .unset] [(.ref mr)])) rfl (hb hby d24_1)
  have pre2 : Steps p.tables e below _ (T2.setTop (mkF m 3 #[.val (.ref a1), .val (.int p2), .val (.ref mr), .unset] [(.ref mr), (.ref mr)])) := pre1.trans (st2 _ (Steps.refl _))
  have pre3 : Steps p.tables e below _ (T2.setTop (mkF m 7 #[.val (.ref a1), .val (.int p2), .val (.ref mr), .unset] [(.int p2)])) := pre2.trans (by
    show Steps p.tables e below (T2.setTop (mkF m 3 #[.val (.ref a1), .val (.int p2), .val (.ref mr), .unset] [(.ref mr), (.ref mr)])) _
    refine XS.acmpNo X2.here hx rfl (hb hby d24_3) rfl (by simp [if_acmp.holds]) ?_
    show Steps p.tables e below (T2.setTop (mkF m 6 #[.val (.ref a1), .val (.int p2), .val (.ref mr), .unset] [])) _
    refine XS.iloadN X2.here hx rfl (hb hby d24_6) rfl ?_
    exact Steps.refl _)
  obtain ⟨T4, h4, k4, X4, e4, E4, A4, EX4, O4, st4⟩ := newRE X2 hx hZ hown (hw _ (List.mem_of_getElem? (i := 192) rfl)) (hw _ (List.mem_of_getElem? (i := 80) rfl)) e2 (g := (mkF m 7 #[.val (.ref a1), .val (.int p2), .val (.ref mr), .unset] [(.int p2)])) rfl (hb hby d24_7) rfl u2 (cap := 65) u3 (by decide) (by decide : 0 + 1 ≤ _) (by decide : 0 + 65 ≤ _) (ad := "[Ljava/lang/Object;") (by decide)
  obtain ⟨na, g4⟩ : ∃ z, z = h0.size := ⟨_, rfl⟩
  rw [← g4] at A4 EX4 st4
  have g_na : n0 ≤ na := Nat.le_trans Z0 (Nat.le_of_eq g4.symm)
  have P4 : PAr Z h4 na p2 0 (fun _ => False) := ⟨_, A4, O4, EX4, sz_new _ _ _, u2, fun k hk => absurd hk (Nat.not_lt_zero _)⟩
  have Z4 : n0 ≤ h4.size := Nat.le_trans Z0 E4.1
  have pre4 : Steps p.tables e below _ (T4.setTop (mkF m 10 #[.val (.ref a1), .val (.int p2), .val (.ref mr), .unset] [(.ref na)])) := pre3.trans (st4 _ (Steps.refl _))
  have B1 : PAr Z h4 a1 p2 p2.toNatClampNeg P := B.ext E4 (fun _ q => q)
  obtain ⟨cb, Ab, Ob, Eb, Sb, Mb, -⟩ := id B1
  have pre5 : Steps p.tables e below _ (T4.setTop (mkF m 32 #[.val (.ref a1), .val (.int p2), .val (.ref mr), .val (.ref na)] [(.int p2), (.int p2), (.int (0 : Int32)), (.ref na), (.int (0 : Int32)), (.ref a1)])) := pre4.trans (by
    show Steps p.tables e below (T4.setTop (mkF m 10 #[.val (.ref a1), .val (.int p2), .val (.ref mr), .unset] [(.ref na)])) _
    refine XS.goto X4.here hx rfl (pc0 := 10) (pc' := 24) rfl (hb hby d24_10) (by decide) (by decide) ?_
    show Steps p.tables e below (T4.setTop (mkF m 24 #[.val (.ref a1), .val (.int p2), .val (.ref mr), .unset] [(.ref na)])) _
    refine XS.astoreN X4.here hx rfl (hb hby d24_24) rfl rfl (l' := #[.val (.ref a1), .val (.int p2), .val (.ref mr), .val (.ref na)]) rfl ?_
    show Steps p.tables e below (T4.setTop (mkF m 25 #[.val (.ref a1), .val (.int p2), .val (.ref mr), .val (.ref na)] [])) _
    refine XS.aloadN X4.here hx rfl (hb hby d24_25) rfl rfl ?_
    show Steps p.tables e below (T4.setTop (mkF m 26 #[.val (.ref a1), .val (.int p2), .val (.ref mr), .val (.ref na)] [(.ref a1)])) _
    refine XS.iconst X4.here hx rfl (hb hby d24_26) ?_
    show Steps p.tables e below (T4.setTop (mkF m 27 #[.val (.ref a1), .val (.int p2), .val (.ref mr), .val (.ref na)] [(.int (0 : Int32)), (.ref a1)])) _
    refine XS.aloadN X4.here hx rfl (hb hby d24_27) rfl rfl ?_
    show Steps p.tables e below (T4.setTop (mkF m 28 #[.val (.ref a1), .val (.int p2), .val (.ref mr), .val (.ref na)] [(.ref na), (.int (0 : Int32)), (.ref a1)])) _
    refine XS.iconst X4.here hx rfl (hb hby d24_28) ?_
    show Steps p.tables e below (T4.setTop (mkF m 29 #[.val (.ref a1), .val (.int p2), .val (.ref mr), .val (.ref na)] [(.int (0 : Int32)), (.ref na), (.int (0 : Int32)), (.ref a1)])) _
    refine XS.aloadN X4.here hx rfl (hb hby d24_29) rfl rfl ?_
    show Steps p.tables e below (T4.setTop (mkF m 30 #[.val (.ref a1), .val (.int p2), .val (.ref mr), .val (.ref na)] [(.ref a1), (.int (0 : Int32)), (.ref na), (.int (0 : Int32)), (.ref a1)])) _
    refine X4.arraylength hx (by rw [e4]; exact Ab.1) (State.isArrayOf_alike hZ.alike Ab.2.1) (g := (mkF m 30 #[.val (.ref a1), .val (.int p2), .val (.ref mr), .val (.ref na)] [(.ref a1), (.int (0 : Int32)), (.ref na), (.int (0 : Int32)), (.ref a1)])) rfl rfl (hb hby d24_30) _ ?_
    rw [len_of Sb Mb]
    show Steps p.tables e below (T4.setTop (mkF m 31 #[.val (.ref a1), .val (.int p2), .val (.ref mr), .val (.ref na)] [(.int p2), (.int (0 : Int32)), (.ref na), (.int (0 : Int32)), (.ref a1)])) _
    refine XS.iloadN X4.here hx rfl (hb hby d24_31) rfl ?_
    exact Steps.refl _)
  obtain ⟨_, _, ⟨T6, L6, k6, n6⟩, -, X6, ⟨Lc6, hQ6, l6, y6, z6⟩, st6⟩ := Jvm.LawKit.callS X4 hx (y := (⟨"java/lang/Math", "min", "(II)I"⟩ : MethodName)) hown (mvT hZ (hw _ (List.mem_of_getElem? (i := 193) rfl))) (mvT hZ (hw _ (List.mem_of_getElem? (i := 194) rfl))) (mvT hZ (hw _ (List.mem_of_getElem? (i := 195) rfl))) (mvT hZ (hw _ (List.mem_of_getElem? (i := 196) rfl))) (by decide) (backOf (W := 4) (rmMn l Z a0 hw [] p2 p2 h4 n0 Z4) hZ (hw _ (List.mem_of_getElem? (i := 196) rfl)) (hw _ (List.mem_of_getElem? (i := 195) rfl)) (by decide) (by decide)) (g := (mkF m 32 #[.val (.ref a1), .val (.int p2), .val (.ref mr), .val (.ref na)] [(.int p2), (.int p2), (.int (0 : Int32)), (.ref na), (.int (0 : Int32)), (.ref a1)])) rfl (by rw [hml]; rfl) (argsL := [(.int p2), (.int p2)]) (rest := [(.int (0 : Int32)), (.ref na), (.int (0 : Int32)), (.ref a1)]) (lenOf pd_rmAc3_0 rfl) rfl (by show 2 * 0 + _ ≤ _; exact Nat.le_of_eq rfl) (hb hby d24_32) (fun _ _ => ⟨rfl, e4, (by decide : 1 + 0 ≤ _), (by decide : 65 + 0 ≤ _)⟩)
  dsimp only [Pt.U, Pt.locs, Pt.cells, Pt.slots] at X6 l6 y6 z6 st6 hQ6
  subst l6 y6 z6
  obtain ⟨rfl, N6q, hh6⟩ := hQ6
  have N6 := Fr.app N0 N6q
  have pre6 : Steps p.tables e below _ (T6.setTop (mkF m 35 #[.val (.ref a1), .val (.int p2), .val (.ref mr), .val (.ref na)] [(.int (own_mn_0_3 p2 p2)), (.int (0 : Int32)), (.ref na), (.int (0 : Int32)), (.ref a1)])) := pre5.trans (st6 _ (Steps.refl _))
  rw [own_mns p2] at pre6
  obtain ⟨ks, vs, AV, HV⟩ := B1.toArv
  have NV : Arv Z h4 na k4 (.object "java/lang/Object") p2 ([] ++ List.replicate p2.toNatClampNeg .null) .null := (Arv.new A4 u2).pad (pad_rep [] .null p2.toNatClampNeg)
  have SL : StoL Z h4 na ((List.range p2.toNatClampNeg).map fun i => vs.getD ((0 : Int32).toNatClampNeg + i) .null) := own_stoL _ (fun v hv => by
      obtain ⟨i, hi, rfl⟩ := List.mem_map.mp hv
      obtain ⟨b, e, q⟩ := HV ((0 : Int32).toNatClampNeg + i) (by rw [show (0 : Int32).toNatClampNeg = 0 from by decide]; have := List.mem_range.mp hi; omega)
      rw [e]; exact Sto.of A4 O4 ((hI b q).ext E4))
  obtain ⟨T7, h7, L7, X7, e7, N7, K7, AR7, st7⟩ := cpA X6 hx hZ hown (hw _ (List.mem_of_getElem? (i := 197) rfl)) (hw _ (List.mem_of_getElem? (i := 200) rfl)) (hw _ (List.mem_of_getElem? (i := 198) rfl)) (hw _ (List.mem_of_getElem? (i := 199) rfl)) hh6 AV NV (Or.inr ⟨rfl, rfl, SL⟩) (sp := (0 : Int32)) (dp := (0 : Int32)) (nn := p2) (by decide) (by decide) u2 (by rw [show (0 : Int32).toNatClampNeg = 0 from by decide]; omega) (by rw [show (0 : Int32).toNatClampNeg = 0 from by decide]; omega) rfl (by rw [show (0 : Int32).toNatClampNeg = 0 from by decide]; simp) N6 g_na (g := (mkF m 35 #[.val (.ref a1), .val (.int p2), .val (.ref mr), .val (.ref na)] [(.int p2), (.int (0 : Int32)), (.ref na), (.int (0 : Int32)), (.ref a1)])) rfl (by rw [hml]; rfl) rfl (hb hby d24_35) (by decide) (W := 0) (by show 2 * 0 + _ ≤ _; exact Nat.le_of_eq rfl) (by decide)
  rw [show (0 : Int32).toNatClampNeg = 0 from by decide] at AR7
  have pre7 : Steps p.tables e below _ (T7.setTop (mkF m 38 #[.val (.ref a1), .val (.int p2), .val (.ref mr), .val (.ref na)] [])) := pre6.trans (st7 _ (Steps.refl _))
  have KK : Keep h0 h7 [] := ((Keep.refl h0 []).ext E4).trans K7 (fun x hx => Or.inr (by rw [List.mem_singleton.mp hx]; exact Nat.le_of_eq g4.symm))
  have PP : PAr Z h7 na p2 p2.toNatClampNeg P := PAr.ofArv AR7 O4 (EX4.keep K7) (Nat.le_refl _) (fun j hj => by
      obtain ⟨b, e, q⟩ := HV j hj
      exact ⟨b, (own_cp hj).trans e, q⟩)
  have pre8 : Steps p.tables e below _ (T7.setTop (mkF m 39 #[.val (.ref a1), .val (.int p2), .val (.ref mr), .val (.ref na)] [(.ref na)])) := pre7.trans (by
    show Steps p.tables e below (T7.setTop (mkF m 38 #[.val (.ref a1), .val (.int p2), .val (.ref mr), .val (.ref na)] [])) _
    refine XS.aloadN X7.here hx rfl (hb hby d24_38) rfl rfl ?_
    exact Steps.refl _)
  obtain ⟨fs, hr, hrun, hended, hW, hsame⟩ := X7.leave (v := some (.ref na)) (fun h => by rw [Bd.returns] at h; cases h)
  refine ⟨_, _, pre8.trans ?_, hrun, hended, _, _, rfl, ?_, ⟨_, rfl⟩, hW, hsame.mono (by decide) (by decide)⟩
  · exact X7.areturnOut hx rfl Bd.returns rfl (hb hby d24_39) hr
  · exact ⟨by rw [g4], N7, (by show Keep h0 T7.heap []; rw [e7]; exact KK), (by show PAr Z T7.heap _ _ _ _; rw [e7, ← g4]; exact PP)⟩
theorem d23_0 : decode jdk_65_method_119_code 0 = .ok (.aload_n 0, 1) := by decide +kernel
theorem d23_1 : decode jdk_65_method_119_code 1 = .ok (.iload_n 1, 1) := by decide +kernel
theorem d23_2 : decode jdk_65_method_119_code 2 = .ok (.aload_n 0, 1) := by decide +kernel
theorem d23_3 : decode jdk_65_method_119_code 3 = .ok (.invokevirtual 86, 3) := by decide +kernel
theorem d23_6 : decode jdk_65_method_119_code 6 = .ok (.invokestatic 300, 3) := by decide +kernel
theorem d23_9 : decode jdk_65_method_119_code 9 = .ok (.areturn, 1) := by decide +kernel
theorem pn_rmAc2 : plainName "java/util/Arrays" = true := by first | (simp [plainName, overriddenIn]; done) | decide +kernel
theorem pd_rmAc2_0 : parseMethodDescriptor "([Ljava/lang/Object;ILjava/lang/Class;)[Ljava/lang/Object;" = some ⟨[(.array (.object "java/lang/Object")), .int, (.object "java/lang/Class")], some (.array (.object "java/lang/Object"))⟩ := by decide +kernel
theorem ef_rmAc2 (m : MethodId) (a1 : Addr) (p2 : Int32) : entryFrame m #[(.ref a1), (.int p2)] 2 = (mkF m 0 #[.val (.ref a1), .val (.int p2)] []) := by first | (simp [entryFrame, mkF, argsToLocals, Value.category]; done) | rfl
def Q_rmAc2 (Z : State) (a1 : Addr) (p2 : Int32) (mr : Addr) (P : Addr → Prop) (h0 : Heap) (n0 : Nat) (v : Option Value) (h : Heap) (L : List Loc) : Prop := v = some (.ref h0.size) ∧ Fr n0 L ∧ Keep h0 h [] ∧ PAr Z h h0.size p2 p2.toNatClampNeg P
set_option maxRecDepth 65536 in
set_option maxHeartbeats 40000000 in
theorem rmAc2 (l : Launch) (Z : State) (a0 : Array Value) (hw : ∀ d ∈ tables_1, d.before a0 Z = true) (ws : List Jvm.Cond) (a1 : Addr) (p2 : Int32) (mr : Addr) (P : Addr → Prop) (h0 : Heap) (n0 : Nat) (Z0 : n0 ≤ h0.size) (B : PAr Z h0 a1 p2 p2.toNatClampNeg P) (hI : ∀ x, P x → Ins Z h0 x "java/lang/Object" true) (M : Mir Z "[Ljava/lang/Object;" mr) (hp1 : 2 ≤ p2.toInt) (hp2 : p2.toInt ≤ 65) :
    MetFree l (⟨"java/util/Arrays", "copyOf", "([Ljava/lang/Object;I)[Ljava/lang/Object;"⟩ : MethodName) (head1 (Jvm.Cond.code (⟨"java/util/Arrays", "copyOf", "([Ljava/lang/Object;I)[Ljava/lang/Object;"⟩ : MethodName) jdk_65_method_119_code 2 (some (.array (.object "java/lang/Object"))) :: ws) ({ frames := 2, cells := 1, slots := 65, locals := 33 } : Room)) (fun a U => a = #[(.ref a1), (.int p2)] ∧ Z.Warmed39 U.vm ∧ U.heap = h0) (fun _ _ _ _ _ => True) (fun _ U o U' => ∃ v L, o = .returned v ∧ Q_rmAc2 Z a1 p2 mr P h0 n0 v U'.heap L ∧ FrameEnd U o U' L ({ frames := 2, cells := 1, slots := 65, locals := 33 } : Room).cells ({ frames := 2, cells := 1, slots := 65, locals := 33 } : Room).slots) := by
  refine MetFree.of_bodySF (plainFor_of_name pn_rmAc2) hisR ?_
  intro p e s m args below meth c s₁ Bd hml0 hP hK
  obtain ⟨rfl, hZ, hh⟩ := hP
  have hx := Bd.exec
  have hby := Bd.bytes
  have hml : c.maxLocals = 2 := hml0
  have hown : s.vm.findClass "java/util/Arrays" = some m.cls := findClass_of_methodNamed Bd.named
  have hnm := (name_of_methodNamed Bd.named Bd.method).1
  have X0 : Stand p l e ({ frames := 2, cells := 1, slots := 65, locals := 33 } : Room) s m #[(.ref a1), (.int p2)] below meth c s₁ [] 0 0 := Stand.of_body Bd
  have e0 : s₁.heap = h0 := by rw [← hh, Bd.state]; rfl
  have N0 := Fr.nil n0
  have pre0 : Steps p.tables e below (s₁.setTop (entryFrame m #[(.ref a1), (.int p2)] 2)) (s₁.setTop (mkF m 0 #[.val (.ref a1), .val (.int p2)] [])) := castTop (ef_rmAc2 m a1 p2) (Steps.refl _)
  have pre1 : Steps p.tables e below _ (s₁.setTop (mkF m 3 #[.val (.ref a1), .val (.int p2)] [(.ref a1), (.int p2), (.ref a1)])) := pre0.trans (by
    show Steps p.tables e below (s₁.setTop (mkF m 0 #[.val (.ref a1), .val (.int p2)] [])) _
    refine XS.aloadN X0.here hx rfl (hb hby d23_0) rfl rfl ?_
    show Steps p.tables e below (s₁.setTop (mkF m 1 #[.val (.ref a1), .val (.int p2)] [(.ref a1)])) _
    refine XS.iloadN X0.here hx rfl (hb hby d23_1) rfl ?_
    show Steps p.tables e below (s₁.setTop (mkF m 2 #[.val (.ref a1), .val (.int p2)] [(.int p2), (.ref a1)])) _
    refine XS.aloadN X0.here hx rfl (hb hby d23_2) rfl rfl ?_
    exact Steps.refl _)
  obtain ⟨T2, X2, e2, st2⟩ := gcls X0 hx hZ hown (hw _ (List.mem_of_getElem? (i := 182) rfl)) (hw _ (List.mem_of_getElem? (i := 183) rfl)) (hw _ (List.mem_of_getElem? (i := 53) rfl)) (hw _ (List.mem_of_getElem? (i := 185) rfl)) (hw _ (List.mem_of_getElem? (i := 184) rfl)) (hw _ (List.mem_of_getElem? (i := 186) rfl)) e0 B.exa M (g := (mkF m 3 #[.val (.ref a1), .val (.int p2)] [(.ref a1), (.int p2), (.ref a1)])) rfl (by rw [hml]; rfl) rfl (hb hby d23_3) (by decide) (W := 2) (by show 2 * 0 + _ ≤ _; exact Nat.le_of_eq rfl) (by decide)
  have pre2 : Steps p.tables e below _ (T2.setTop (mkF m 6 #[.val (.ref a1), .val (.int p2)] [(.ref mr), (.int p2), (.ref a1)])) := pre1.trans (st2 _ (Steps.refl _))
  obtain ⟨_, _, ⟨T3, L3, k3, n3⟩, -, X3, ⟨Lc3, hQ3, l3, y3, z3⟩, st3⟩ := Jvm.LawKit.callS X2 hx (y := (⟨"java/util/Arrays", "copyOf", "([Ljava/lang/Object;ILjava/lang/Class;)[Ljava/lang/Object;"⟩ : MethodName)) hown (mvT hZ (hw _ (List.mem_of_getElem? (i := 188) rfl))) (mvT hZ (hw _ (List.mem_of_getElem? (i := 189) rfl))) (mvT hZ (hw _ (List.mem_of_getElem? (i := 180) rfl))) (mvT hZ (hw _ (List.mem_of_getElem? (i := 190) rfl))) (by decide) (backOf (W := 0) (rmAc3 l Z a0 hw [] a1 p2 mr P h0 n0 Z0 B hI M hp1 hp2) hZ (hw _ (List.mem_of_getElem? (i := 190) rfl)) (hw _ (List.mem_of_getElem? (i := 180) rfl)) (by decide) (by decide)) (g := (mkF m 6 #[.val (.ref a1), .val (.int p2)] [(.ref mr), (.int p2), (.ref a1)])) rfl (by rw [hml]; rfl) (argsL := [(.ref a1), (.int p2), (.ref mr)]) (rest := []) (lenOf pd_rmAc2_0 rfl) rfl (by show 2 * 0 + _ ≤ _; exact Nat.le_of_eq rfl) (hb hby d23_6) (fun _ _ => ⟨rfl, e2, (by decide : 0 + 1 ≤ _), (by decide : 0 + 65 ≤ _)⟩)
  dsimp only [Pt.U, Pt.locs, Pt.cells, Pt.slots] at X3 l3 y3 z3 st3 hQ3
  subst l3 y3 z3
  obtain ⟨rfl, N3q, K3, PP⟩ := hQ3
  have N3 := Fr.app N0 N3q
  have pre3 : Steps p.tables e below _ (T3.setTop (mkF m 9 #[.val (.ref a1), .val (.int p2)] [(.ref h0.size)])) := pre2.trans (st3 _ (Steps.refl _))
  obtain ⟨fs, hr, hrun, hended, hW, hsame⟩ := X3.leave (v := some (.ref h0.size)) (fun h => by rw [Bd.returns] at h; cases h)
  refine ⟨_, _, pre3.trans ?_, hrun, hended, _, _, rfl, ?_, ⟨_, rfl⟩, hW, hsame.mono (by decide) (by decide)⟩
  · exact X3.areturnOut hx rfl Bd.returns rfl (hb hby d23_9) hr
  · exact ⟨rfl, N3, K3, PP⟩
theorem d22_0 : decode jdk_38_method_16_code 0 = .ok (.aload_n 0, 1) := by decide +kernel
theorem d22_1 : decode jdk_38_method_16_code 1 = .ok (.getfield 9, 3) := by decide +kernel
theorem d22_4 : decode jdk_38_method_16_code 4 = .ok (.aload_n 0, 1) := by decide +kernel
theorem d22_5 : decode jdk_38_method_16_code 5 = .ok (.getfield 48, 3) := by decide +kernel
theorem d22_8 : decode jdk_38_method_16_code 8 = .ok (.invokestatic 66, 3) := by decide +kernel
theorem d22_11 : decode jdk_38_method_16_code 11 = .ok (.areturn, 1) := by decide +kernel
theorem pn_rmTA : plainName "java/util/ArrayList" = true := by first | (simp [plainName, overriddenIn]; done) | decide +kernel
theorem pd_rmTA_0 : parseMethodDescriptor "([Ljava/lang/Object;I)[Ljava/lang/Object;" = some ⟨[(.array (.object "java/lang/Object")), .int], some (.array (.object "java/lang/Object"))⟩ := by decide +kernel
theorem ef_rmTA (m : MethodId) (a1 : Addr) : entryFrame m #[(.ref a1)] 1 = (mkF m 0 #[.val (.ref a1)] []) := by first | (simp [entryFrame, mkF, argsToLocals, Value.category]; done) | rfl
def Q_rmTA (Z : State) (a1 : Addr) (ar mr : Addr) (nn mc : Int32) (P : Addr → Prop) (h0 : Heap) (n0 : Nat) (v : Option Value) (h : Heap) (L : List Loc) : Prop := v = some (.ref h0.size) ∧ Fr n0 L ∧ Keep h0 h [] ∧ PAr Z h h0.size nn nn.toNatClampNeg P
set_option maxRecDepth 65536 in
set_option maxHeartbeats 40000000 in
theorem rmTA (l : Launch) (Z : State) (a0 : Array Value) (hw : ∀ d ∈ tables_1, d.before a0 Z = true) (ws : List Jvm.Cond) (a1 : Addr) (ar mr : Addr) (nn mc : Int32) (P : Addr → Prop) (h0 : Heap) (n0 : Nat) (Z0 : n0 ≤ h0.size) (A : Ali Z h0 a1 (.ref ar) nn mc) (B : PAr Z h0 ar nn nn.toNatClampNeg P) (hI : ∀ x, P x → Ins Z h0 x "java/lang/Object" true) (M : Mir Z "[Ljava/lang/Object;" mr) (hp1 : 2 ≤ nn.toInt) (hp2 : nn.toInt ≤ 65) :
    MetFree l (⟨"java/util/ArrayList", "toArray", "()[Ljava/lang/Object;"⟩ : MethodName) (head1 (Jvm.Cond.code (⟨"java/util/ArrayList", "toArray", "()[Ljava/lang/Object;"⟩ : MethodName) jdk_38_method_16_code 1 (some (.array (.object "java/lang/Object"))) :: ws) ({ frames := 3, cells := 1, slots := 65, locals := 46 } : Room)) (fun a U => a = #[(.ref a1)] ∧ Z.Warmed39 U.vm ∧ U.heap = h0) (fun _ _ _ _ _ => True) (fun _ U o U' => ∃ v L, o = .returned v ∧ Q_rmTA Z a1 ar mr nn mc P h0 n0 v U'.heap L ∧ FrameEnd U o U' L ({ frames := 3, cells := 1, slots := 65, locals := 46 } : Room).cells ({ frames := 3, cells := 1, slots := 65, locals := 46 } : Room).slots) := by
  refine MetFree.of_bodySF (plainFor_of_name pn_rmTA) hisR ?_
  intro p e s m args below meth c s₁ Bd hml0 hP hK
  obtain ⟨rfl, hZ, hh⟩ := hP
  have hx := Bd.exec
  have hby := Bd.bytes
  have hml : c.maxLocals = 1 := hml0
  have hown : s.vm.findClass "java/util/ArrayList" = some m.cls := findClass_of_methodNamed Bd.named
  have hnm := (name_of_methodNamed Bd.named Bd.method).1
  have X0 : Stand p l e ({ frames := 3, cells := 1, slots := 65, locals := 46 } : Room) s m #[(.ref a1)] below meth c s₁ [] 0 0 := Stand.of_body Bd
  have e0 : s₁.heap = h0 := by rw [← hh, Bd.state]; rfl
  have N0 := Fr.nil n0
  have pre0 : Steps p.tables e below (s₁.setTop (entryFrame m #[(.ref a1)] 1)) (s₁.setTop (mkF m 0 #[.val (.ref a1)] [])) := castTop (ef_rmTA m a1) (Steps.refl _)
  have pre1 : Steps p.tables e below _ (s₁.setTop (mkF m 1 #[.val (.ref a1)] [(.ref a1)])) := pre0.trans (by
    show Steps p.tables e below (s₁.setTop (mkF m 0 #[.val (.ref a1)] [])) _
    refine XS.aloadN X0.here hx rfl (hb hby d22_0) rfl rfl ?_
    exact Steps.refl _)
  obtain ⟨T2, X2, e2, st2⟩ := getF X0 hx hZ hown (host := "") (Or.inl (hw _ (List.mem_of_getElem? (i := 26) rfl))) Via.refl e0 A.2.1 (g := (mkF m 1 #[.val (.ref a1)] [(.ref a1)])) rfl rfl (hb hby d22_1)
  have pre2 : Steps p.tables e below _ (T2.setTop (mkF m 4 #[.val (.ref a1)] [(.ref ar)])) := pre1.trans (st2 _ (Steps.refl _))
  have pre3 : Steps p.tables e below _ (T2.setTop (mkF m 5 #[.val (.ref a1)] [(.ref a1), (.ref ar)])) := pre2.trans (by
    show Steps p.tables e below (T2.setTop (mkF m 4 #[.val (.ref a1)] [(.ref ar)])) _
    refine XS.aloadN X2.here hx rfl (hb hby d22_4) rfl rfl ?_
    exact Steps.refl _)
  obtain ⟨T4, X4, e4, st4⟩ := getF X2 hx hZ hown (host := "") (Or.inl (hw _ (List.mem_of_getElem? (i := 64) rfl))) Via.refl e2 A.2.2.1 (g := (mkF m 5 #[.val (.ref a1)] [(.ref a1), (.ref ar)])) rfl rfl (hb hby d22_5)
  have pre4 : Steps p.tables e below _ (T4.setTop (mkF m 8 #[.val (.ref a1)] [(.int nn), (.ref ar)])) := pre3.trans (st4 _ (Steps.refl _))
  obtain ⟨_, _, ⟨T5, L5, k5, n5⟩, -, X5, ⟨Lc5, hQ5, l5, y5, z5⟩, st5⟩ := Jvm.LawKit.callS X4 hx (y := (⟨"java/util/Arrays", "copyOf", "([Ljava/lang/Object;I)[Ljava/lang/Object;"⟩ : MethodName)) hown (mvT hZ (hw _ (List.mem_of_getElem? (i := 178) rfl))) (mvT hZ (hw _ (List.mem_of_getElem? (i := 179) rfl))) (mvT hZ (hw _ (List.mem_of_getElem? (i := 180) rfl))) (mvT hZ (hw _ (List.mem_of_getElem? (i := 181) rfl))) (by decide) (backOf (W := 0) (rmAc2 l Z a0 hw [] ar nn mr P h0 n0 Z0 B hI M hp1 hp2) hZ (hw _ (List.mem_of_getElem? (i := 181) rfl)) (hw _ (List.mem_of_getElem? (i := 180) rfl)) (by decide) (by decide)) (g := (mkF m 8 #[.val (.ref a1)] [(.int nn), (.ref ar)])) rfl (by rw [hml]; rfl) (argsL := [(.ref ar), (.int nn)]) (rest := []) (lenOf pd_rmTA_0 rfl) rfl (by show 2 * 0 + _ ≤ _; exact Nat.le_of_eq rfl) (hb hby d22_8) (fun _ _ => ⟨rfl, e4, (by decide : 0 + 1 ≤ _), (by decide : 0 + 65 ≤ _)⟩)
  dsimp only [Pt.U, Pt.locs, Pt.cells, Pt.slots] at X5 l5 y5 z5 st5 hQ5
  subst l5 y5 z5
  obtain ⟨rfl, N5q, K5, PP⟩ := hQ5
  have N5 := Fr.app N0 N5q
  have pre5 : Steps p.tables e below _ (T5.setTop (mkF m 11 #[.val (.ref a1)] [(.ref h0.size)])) := pre4.trans (st5 _ (Steps.refl _))
  obtain ⟨fs, hr, hrun, hended, hW, hsame⟩ := X5.leave (v := some (.ref h0.size)) (fun h => by rw [Bd.returns] at h; cases h)
  refine ⟨_, _, pre5.trans ?_, hrun, hended, _, _, rfl, ?_, ⟨_, rfl⟩, hW, hsame.mono (by decide) (by decide)⟩
  · exact X5.areturnOut hx rfl Bd.returns rfl (hb hby d22_11) hr
  · exact ⟨rfl, N5, K5, PP⟩
theorem d30_0 : decode jdk_31_method_10_code 0 = .ok (.aload_n 0, 1) := by decide +kernel
theorem d30_1 : decode jdk_31_method_10_code 1 = .ok (.ifnonnull 11, 3) := by decide +kernel
theorem d30_12 : decode jdk_31_method_10_code 12 = .ok (.aload_n 0, 1) := by decide +kernel
theorem d30_13 : decode jdk_31_method_10_code 13 = .ok (.areturn, 1) := by decide +kernel
theorem pn_rmRN : plainName "java/util/Objects" = true := by first | (simp [plainName, overriddenIn]; done) | decide +kernel
theorem ef_rmRN (m : MethodId) (a1 : Addr) : entryFrame m #[(.ref a1)] 1 = (mkF m 0 #[.val (.ref a1)] []) := by first | (simp [entryFrame, mkF, argsToLocals, Value.category]; done) | rfl
def Q_rmRN (Z : State) (a1 : Addr)  (h0 : Heap) (n0 : Nat) (v : Option Value) (h : Heap) (L : List Loc) : Prop := v = some (.ref a1) ∧ Fr n0 L ∧ h = h0
set_option maxRecDepth 65536 in
set_option maxHeartbeats 40000000 in
theorem rmRN (l : Launch) (Z : State) (a0 : Array Value) (hw : ∀ d ∈ tables_1, d.before a0 Z = true) (ws : List Jvm.Cond) (a1 : Addr)  (h0 : Heap) (n0 : Nat) (Z0 : n0 ≤ h0.size)  :
    MetFree l (⟨"java/util/Objects", "requireNonNull", "(Ljava/lang/Object;)Ljava/lang/Object;"⟩ : MethodName) (head1 (Jvm.Cond.code (⟨"java/util/Objects", "requireNonNull", "(Ljava/lang/Object;)Ljava/lang/Object;"⟩ : MethodName) jdk_31_method_10_code 1 (some (.object "java/lang/Object")) :: ws) ({ frames := 0, cells := 0, slots := 0, locals := 0 } : Room)) (fun a U => a = #[(.ref a1)] ∧ Z.Warmed39 U.vm ∧ U.heap = h0) (fun _ _ _ _ _ => True) (fun _ U o U' => ∃ v L, o = .returned v ∧ Q_rmRN Z a1 h0 n0 v U'.heap L ∧ FrameEnd U o U' L ({ frames := 0, cells := 0, slots := 0, locals := 0 } : Room).cells ({ frames := 0, cells := 0, slots := 0, locals := 0 } : Room).slots) := by
  refine MetFree.of_bodySF (plainFor_of_name pn_rmRN) hisR ?_
  intro p e s m args below meth c s₁ Bd hml0 hP hK
  obtain ⟨rfl, hZ, hh⟩ := hP
  have hx := Bd.exec
  have hby := Bd.bytes
  have hml : c.maxLocals = 1 := hml0
  have hown : s.vm.findClass "java/util/Objects" = some m.cls := findClass_of_methodNamed Bd.named
  have hnm := (name_of_methodNamed Bd.named Bd.method).1
  have X0 : Stand p l e ({ frames := 0, cells := 0, slots := 0, locals := 0 } : Room) s m #[(.ref a1)] below meth c s₁ [] 0 0 := Stand.of_body Bd
  have e0 : s₁.heap = h0 := by rw [← hh, Bd.state]; rfl
  have N0 := Fr.nil n0
  have pre0 : Steps p.tables e below (s₁.setTop (entryFrame m #[(.ref a1)] 1)) (s₁.setTop (mkF m 0 #[.val (.ref a1)] [])) := castTop (ef_rmRN m a1) (Steps.refl _)
  have pre1 : Steps p.tables e below _ (s₁.setTop (mkF m 13 #[.val (.ref a1)] [(.ref a1)])) := pre0.trans (by
    show Steps p.tables e below (s₁.setTop (mkF m 0 #[.val (.ref a1)] [])) _
    refine XS.aloadN X0.here hx rfl (hb hby d30_0) rfl rfl ?_
    show Steps p.tables e below (s₁.setTop (mkF m 1 #[.val (.ref a1)] [(.ref a1)])) _
    refine XS.ifnonnullYes X0.here hx rfl (pc0 := 1) (pc' := 12) rfl (hb hby d30_1) rfl (by decide) (by decide) ?_
    show Steps p.tables e below (s₁.setTop (mkF m 12 #[.val (.ref a1)] [])) _
    refine XS.aloadN X0.here hx rfl (hb hby d30_12) rfl rfl ?_
    exact Steps.refl _)
  obtain ⟨fs, hr, hrun, hended, hW, hsame⟩ := X0.leave (v := some (.ref a1)) (fun h => by rw [Bd.returns] at h; cases h)
  refine ⟨_, _, pre1.trans ?_, hrun, hended, _, _, rfl, ?_, ⟨_, rfl⟩, hW, hsame.mono (by decide) (by decide)⟩
  · exact X0.areturnOut hx rfl Bd.returns rfl (hb hby d30_13) hr
  · exact ⟨rfl, N0, e0⟩
theorem d29_0 : decode jdk_47_method_1_code 0 = .ok (.aload_n 0, 1) := by decide +kernel
theorem d29_1 : decode jdk_47_method_1_code 1 = .ok (.invokespecial 1, 3) := by decide +kernel
theorem d29_4 : decode jdk_47_method_1_code 4 = .ok (.return_, 1) := by decide +kernel
theorem pn_rmAIC : plainName "java/util/ImmutableCollections$AbstractImmutableCollection" = true := by first | (simp [plainName, overriddenIn]; done) | decide +kernel
theorem pd_rmAIC_0 : parseMethodDescriptor "()V" = some ⟨[], none⟩ := by decide +kernel
theorem ef_rmAIC (m : MethodId) (a1 : Addr) : entryFrame m #[(.ref a1)] 1 = (mkF m 0 #[.val (.ref a1)] []) := by first | (simp [entryFrame, mkF, argsToLocals, Value.category]; done) | rfl
def Q_rmAIC (Z : State) (a1 : Addr)  (h0 : Heap) (n0 : Nat) (v : Option Value) (h : Heap) (L : List Loc) : Prop := v = none ∧ Fr n0 L ∧ h = h0
set_option maxRecDepth 65536 in
set_option maxHeartbeats 40000000 in
theorem rmAIC (l : Launch) (Z : State) (a0 : Array Value) (hw : ∀ d ∈ tables_1, d.before a0 Z = true) (ws : List Jvm.Cond) (a1 : Addr)  (h0 : Heap) (n0 : Nat) (Z0 : n0 ≤ h0.size)  :
    MetFree l (⟨"java/util/ImmutableCollections$AbstractImmutableCollection", "<init>", "()V"⟩ : MethodName) (head1 (Jvm.Cond.code (⟨"java/util/ImmutableCollections$AbstractImmutableCollection", "<init>", "()V"⟩ : MethodName) jdk_47_method_1_code 1 none :: ws) ({ frames := 2, cells := 0, slots := 0, locals := 24 } : Room)) (fun a U => a = #[(.ref a1)] ∧ Z.Warmed39 U.vm ∧ U.heap = h0) (fun _ _ _ _ _ => True) (fun _ U o U' => ∃ v L, o = .returned v ∧ Q_rmAIC Z a1 h0 n0 v U'.heap L ∧ FrameEnd U o U' L ({ frames := 2, cells := 0, slots := 0, locals := 24 } : Room).cells ({ frames := 2, cells := 0, slots := 0, locals := 24 } : Room).slots) := by
  refine MetFree.of_bodySF (plainFor_of_name pn_rmAIC) hisR ?_
  intro p e s m args below meth c s₁ Bd hml0 hP hK
  obtain ⟨rfl, hZ, hh⟩ := hP
  have hx := Bd.exec
  have hby := Bd.bytes
  have hml : c.maxLocals = 1 := hml0
  have hown : s.vm.findClass "java/util/ImmutableCollections$AbstractImmutableCollection" = some m.cls := findClass_of_methodNamed Bd.named
  have hnm := (name_of_methodNamed Bd.named Bd.method).1
  have X0 : Stand p l e ({ frames := 2, cells := 0, slots := 0, locals := 24 } : Room) s m #[(.ref a1)] below meth c s₁ [] 0 0 := Stand.of_body Bd
  have e0 : s₁.heap = h0 := by rw [← hh, Bd.state]; rfl
  have N0 := Fr.nil n0
  have pre0 : Steps p.tables e below (s₁.setTop (entryFrame m #[(.ref a1)] 1)) (s₁.setTop (mkF m 0 #[.val (.ref a1)] [])) := castTop (ef_rmAIC m a1) (Steps.refl _)
  have pre1 : Steps p.tables e below _ (s₁.setTop (mkF m 1 #[.val (.ref a1)] [(.ref a1)])) := pre0.trans (by
    show Steps p.tables e below (s₁.setTop (mkF m 0 #[.val (.ref a1)] [])) _
    refine XS.aloadN X0.here hx rfl (hb hby d29_0) rfl rfl ?_
    exact Steps.refl _)
  obtain ⟨_, _, ⟨T2, L2, k2, n2⟩, -, X2, ⟨Lc2, hQ2, l2, y2, z2⟩, st2⟩ := X0.specialBack hx (y := (⟨"java/util/AbstractCollection", "<init>", "()V"⟩ : MethodName)) rfl hown (mvT hZ (hw _ (List.mem_of_getElem? (i := 223) rfl))) (mvT hZ (hw _ (List.mem_of_getElem? (i := 15) rfl))) (mvT hZ (hw _ (List.mem_of_getElem? (i := 19) rfl))) (by decide) (backOf (W := 0) (rmAC l Z a0 hw [] a1 h0 n0 Z0) hZ (hw _ (List.mem_of_getElem? (i := 19) rfl)) (hw _ (List.mem_of_getElem? (i := 18) rfl)) (by decide) (by decide)) (g := (mkF m 1 #[.val (.ref a1)] [(.ref a1)])) rfl (by rw [hml]; rfl) (Steps.refl _) (a := a1) (argsL := []) (rest := []) (lenOf pd_rmAIC_0 rfl) rfl (by show 2 * 0 + _ ≤ _; exact Nat.le_of_eq rfl) (hb hby d29_1) (fun _ _ => ⟨rfl, e0, (by decide : 0 + 0 ≤ _), (by decide : 0 + 0 ≤ _)⟩)
  dsimp only [Pt.U, Pt.locs, Pt.cells, Pt.slots] at X2 l2 y2 z2 st2 hQ2
  subst l2 y2 z2
  obtain ⟨rfl, N2q, hh2⟩ := hQ2
  have N2 := Fr.app N0 N2q
  have pre2 : Steps p.tables e below _ (T2.setTop (mkF m 4 #[.val (.ref a1)] [])) := pre1.trans (st2)
  obtain ⟨fs, hr, hrun, hended, hW, hsame⟩ := X2.leave (v := none) (fun h => by rfl)
  refine ⟨_, _, pre2.trans ?_, hrun, hended, _, _, rfl, ?_, ⟨_, rfl⟩, hW, hsame.mono (by decide) (by decide)⟩
  · exact X2.returnOut hx Bd.returns (hb hby d29_4) hr
  · exact ⟨rfl, N2, hh2⟩
theorem d28_0 : decode jdk_46_method_1_code 0 = .ok (.aload_n 0, 1) := by decide +kernel
theorem d28_1 : decode jdk_46_method_1_code 1 = .ok (.invokespecial 1, 3) := by decide +kernel
theorem d28_4 : decode jdk_46_method_1_code 4 = .ok (.return_, 1) := by decide +kernel
theorem pn_rmAIL : plainName "java/util/ImmutableCollections$AbstractImmutableList" = true := by first | (simp [plainName, overriddenIn]; done) | decide +kernel
theorem pd_rmAIL_0 : parseMethodDescriptor "()V" = some ⟨[], none⟩ := by decide +kernel
theorem ef_rmAIL (m : MethodId) (a1 : Addr) : entryFrame m #[(.ref a1)] 1 = (mkF m 0 #[.val (.ref a1)] []) := by first | (simp [entryFrame, mkF, argsToLocals, Value.category]; done) | rfl
def Q_rmAIL (Z : State) (a1 : Addr)  (h0 : Heap) (n0 : Nat) (v : Option Value) (h : Heap) (L : List Loc) : Prop := v = none ∧ Fr n0 L ∧ h = h0
set_option maxRecDepth 65536 in
set_option maxHeartbeats 40000000 in
theorem rmAIL (l : Launch) (Z : State) (a0 : Array Value) (hw : ∀ d ∈ tables_1, d.before a0 Z = true) (ws : List Jvm.Cond) (a1 : Addr)  (h0 : Heap) (n0 : Nat) (Z0 : n0 ≤ h0.size)  :
    MetFree l (⟨"java/util/ImmutableCollections$AbstractImmutableList", "<init>", "()V"⟩ : MethodName) (head1 (Jvm.Cond.code (⟨"java/util/ImmutableCollections$AbstractImmutableList", "<init>", "()V"⟩ : MethodName) jdk_46_method_1_code 1 none :: ws) ({ frames := 3, cells := 0, slots := 0, locals := 36 } : Room)) (fun a U => a = #[(.ref a1)] ∧ Z.Warmed39 U.vm ∧ U.heap = h0) (fun _ _ _ _ _ => True) (fun _ U o U' => ∃ v L, o = .returned v ∧ Q_rmAIL Z a1 h0 n0 v U'.heap L ∧ FrameEnd U o U' L ({ frames := 3, cells := 0, slots := 0, locals := 36 } : Room).cells ({ frames := 3, cells := 0, slots := 0, locals := 36 } : Room).slots) := by
  refine MetFree.of_bodySF (plainFor_of_name pn_rmAIL) hisR ?_
  intro p e s m args below meth c s₁ Bd hml0 hP hK
  obtain ⟨rfl, hZ, hh⟩ := hP
  have hx := Bd.exec
  have hby := Bd.bytes
  have hml : c.maxLocals = 1 := hml0
  have hown : s.vm.findClass "java/util/ImmutableCollections$AbstractImmutableList" = some m.cls := findClass_of_methodNamed Bd.named
  have hnm := (name_of_methodNamed Bd.named Bd.method).1
  have X0 : Stand p l e ({ frames := 3, cells := 0, slots := 0, locals := 36 } : Room) s m #[(.ref a1)] below meth c s₁ [] 0 0 := Stand.of_body Bd
  have e0 : s₁.heap = h0 := by rw [← hh, Bd.state]; rfl
  have N0 := Fr.nil n0
  have pre0 : Steps p.tables e below (s₁.setTop (entryFrame m #[(.ref a1)] 1)) (s₁.setTop (mkF m 0 #[.val (.ref a1)] [])) := castTop (ef_rmAIL m a1) (Steps.refl _)
  have pre1 : Steps p.tables e below _ (s₁.setTop (mkF m 1 #[.val (.ref a1)] [(.ref a1)])) := pre0.trans (by
    show Steps p.tables e below (s₁.setTop (mkF m 0 #[.val (.ref a1)] [])) _
    refine XS.aloadN X0.here hx rfl (hb hby d28_0) rfl rfl ?_
    exact Steps.refl _)
  obtain ⟨_, _, ⟨T2, L2, k2, n2⟩, -, X2, ⟨Lc2, hQ2, l2, y2, z2⟩, st2⟩ := X0.specialBack hx (y := (⟨"java/util/ImmutableCollections$AbstractImmutableCollection", "<init>", "()V"⟩ : MethodName)) rfl hown (mvT hZ (hw _ (List.mem_of_getElem? (i := 217) rfl))) (mvT hZ (hw _ (List.mem_of_getElem? (i := 218) rfl))) (mvT hZ (hw _ (List.mem_of_getElem? (i := 222) rfl))) (by decide) (backOf (W := 0) (rmAIC l Z a0 hw [] a1 h0 n0 Z0) hZ (hw _ (List.mem_of_getElem? (i := 222) rfl)) (hw _ (List.mem_of_getElem? (i := 221) rfl)) (by decide) (by decide)) (g := (mkF m 1 #[.val (.ref a1)] [(.ref a1)])) rfl (by rw [hml]; rfl) (Steps.refl _) (a := a1) (argsL := []) (rest := []) (lenOf pd_rmAIL_0 rfl) rfl (by show 2 * 0 + _ ≤ _; exact Nat.le_of_eq rfl) (hb hby d28_1) (fun _ _ => ⟨rfl, e0, (by decide : 0 + 0 ≤ _), (by decide : 0 + 0 ≤ _)⟩)
  dsimp only [Pt.U, Pt.locs, Pt.cells, Pt.slots] at X2 l2 y2 z2 st2 hQ2
  subst l2 y2 z2
  obtain ⟨rfl, N2q, hh2⟩ := hQ2
  have N2 := Fr.app N0 N2q
  have pre2 : Steps p.tables e below _ (T2.setTop (mkF m 4 #[.val (.ref a1)] [])) := pre1.trans (st2)
  obtain ⟨fs, hr, hrun, hended, hW, hsame⟩ := X2.leave (v := none) (fun h => by rfl)
  refine ⟨_, _, pre2.trans ?_, hrun, hended, _, _, rfl, ?_, ⟨_, rfl⟩, hW, hsame.mono (by decide) (by decide)⟩
  · exact X2.returnOut hx Bd.returns (hb hby d28_4) hr
  · exact ⟨rfl, N2, hh2⟩
theorem d27_0 : decode jdk_44_method_2_code 0 = .ok (.aload_n 0, 1) := by decide +kernel
theorem d27_1 : decode jdk_44_method_2_code 1 = .ok (.invokespecial 1, 3) := by decide +kernel
theorem d27_4 : decode jdk_44_method_2_code 4 = .ok (.aload_n 0, 1) := by decide +kernel
theorem d27_5 : decode jdk_44_method_2_code 5 = .ok (.aload_n 1, 1) := by decide +kernel
theorem d27_6 : decode jdk_44_method_2_code 6 = .ok (.invokestatic 7, 3) := by decide +kernel
theorem d27_9 : decode jdk_44_method_2_code 9 = .ok (.putfield 13, 3) := by decide +kernel
theorem d27_12 : decode jdk_44_method_2_code 12 = .ok (.aload_n 0, 1) := by decide +kernel
theorem d27_13 : decode jdk_44_method_2_code 13 = .ok (.aload_n 2, 1) := by decide +kernel
theorem d27_14 : decode jdk_44_method_2_code 14 = .ok (.invokestatic 7, 3) := by decide +kernel
theorem d27_17 : decode jdk_44_method_2_code 17 = .ok (.putfield 24, 3) := by decide +kernel
theorem d27_20 : decode jdk_44_method_2_code 20 = .ok (.return_, 1) := by decide +kernel
theorem pn_rm12 : plainName "java/util/ImmutableCollections$List12" = true := by first | (simp [plainName, overriddenIn]; done) | decide +kernel
theorem pd_rm12_0 : parseMethodDescriptor "()V" = some ⟨[], none⟩ := by decide +kernel
theorem pd_rm12_1 : parseMethodDescriptor "(Ljava/lang/Object;)Ljava/lang/Object;" = some ⟨[(.object "java/lang/Object")], some (.object "java/lang/Object")⟩ := by decide +kernel
theorem ef_rm12 (m : MethodId) (a1 : Addr) (a2 : Addr) (a3 : Addr) : entryFrame m #[(.ref a1), (.ref a2), (.ref a3)] 3 = (mkF m 0 #[.val (.ref a1), .val (.ref a2), .val (.ref a3)] []) := by first | (simp [entryFrame, mkF, argsToLocals, Value.category]; done) | rfl
def Q_rm12 (Z : State) (a1 : Addr) (a2 : Addr) (a3 : Addr)  (h0 : Heap) (n0 : Nat) (v : Option Value) (h : Heap) (L : List Loc) : Prop := v = none ∧ Fr n0 L ∧ Keep h0 h [a1]
set_option maxRecDepth 65536 in
set_option maxHeartbeats 40000000 in
theorem rm12 (l : Launch) (Z : State) (a0 : Array Value) (hw : ∀ d ∈ tables_1, d.before a0 Z = true) (ws : List Jvm.Cond) (a1 : Addr) (a2 : Addr) (a3 : Addr)  (h0 : Heap) (n0 : Nat) (Z0 : n0 ≤ h0.size) (E : Exa Z h0 a1 "java/util/ImmutableCollections$List12") (F1 : Fld Z h0 a1 "java/util/ImmutableCollections$List12" "e0" "Ljava/lang/Object;" .null) (F2 : Fld Z h0 a1 "java/util/ImmutableCollections$List12" "e1" "Ljava/lang/Object;" .null) (g_a1 : n0 ≤ a1) :
    MetFree l (⟨"java/util/ImmutableCollections$List12", "<init>", "(Ljava/lang/Object;Ljava/lang/Object;)V"⟩ : MethodName) (head1 (Jvm.Cond.code (⟨"java/util/ImmutableCollections$List12", "<init>", "(Ljava/lang/Object;Ljava/lang/Object;)V"⟩ : MethodName) jdk_44_method_2_code 3 none :: ws) ({ frames := 4, cells := 0, slots := 0, locals := 48 } : Room)) (fun a U => a = #[(.ref a1), (.ref a2), (.ref a3)] ∧ Z.Warmed39 U.vm ∧ U.heap = h0) (fun _ _ _ _ _ => True) (fun _ U o U' => ∃ v L, o = .returned v ∧ Q_rm12 Z a1 a2 a3 h0 n0 v U'.heap L ∧ FrameEnd U o U' L ({ frames := 4, cells := 0, slots := 0, locals := 48 } : Room).cells ({ frames := 4, cells := 0, slots := 0, locals := 48 } : Room).slots) := by
  refine MetFree.of_bodySF (plainFor_of_name pn_rm12) hisR ?_
  intro p e s m args below meth c s₁ Bd hml0 hP hK
  obtain ⟨rfl, hZ, hh⟩ := hP
  have hx := Bd.exec
  have hby := Bd.bytes
  have hml : c.maxLocals = 3 := hml0
  have hown : s.vm.findClass "java/util/ImmutableCollections$List12" = some m.cls := findClass_of_methodNamed Bd.named
  have hnm := (name_of_methodNamed Bd.named Bd.method).1
  have X0 : Stand p l e ({ frames := 4, cells := 0, slots := 0, locals := 48 } : Room) s m #[(.ref a1), (.ref a2), (.ref a3)] below meth c s₁ [] 0 0 := Stand.of_body Bd
  have e0 : s₁.heap = h0 := by rw [← hh, Bd.state]; rfl
  have N0 := Fr.nil n0
  have pre0 : Steps p.tables e below (s₁.setTop (entryFrame m #[(.ref a1), (.ref a2), (.ref a3)] 3)) (s₁.setTop (mkF m 0 #[.val (.ref a1), .val (.ref a2), .val (.ref a3)] [])) := castTop (ef_rm12 m a1 a2 a3) (Steps.refl _)
  have pre1 : Steps p.tables e below _ (s₁.setTop (mkF m 1 #[.val (.ref a1), .val (.ref a2), .val (.ref a3)] [(.ref a1)])) := pre0.trans (by
    show Steps p.tables e below (s₁.setTop (mkF m 0 #[.val (.ref a1), .val (.ref a2), .val (.ref a3)] [])) _
    refine XS.aloadN X0.here hx rfl (hb hby d27_0) rfl rfl ?_
    exact Steps.refl _)
  obtain ⟨_, _, ⟨T2, L2, k2, n2⟩, -, X2, ⟨Lc2, hQ2, l2, y2, z2⟩, st2⟩ := X0.specialBack hx (y := (⟨"java/util/ImmutableCollections$AbstractImmutableList", "<init>", "()V"⟩ : MethodName)) rfl hown (mvT hZ (hw _ (List.mem_of_getElem? (i := 211) rfl))) (mvT hZ (hw _ (List.mem_of_getElem? (i := 212) rfl))) (mvT hZ (hw _ (List.mem_of_getElem? (i := 216) rfl))) (by decide) (backOf (W := 0) (rmAIL l Z a0 hw [] a1 h0 n0 Z0) hZ (hw _ (List.mem_of_getElem? (i := 216) rfl)) (hw _ (List.mem_of_getElem? (i := 215) rfl)) (by decide) (by decide)) (g := (mkF m 1 #[.val (.ref a1), .val (.ref a2), .val (.ref a3)] [(.ref a1)])) rfl (by rw [hml]; rfl) (Steps.refl _) (a := a1) (argsL := []) (rest := []) (lenOf pd_rm12_0 rfl) rfl (by show 2 * 0 + _ ≤ _; exact Nat.le_of_eq rfl) (hb hby d27_1) (fun _ _ => ⟨rfl, e0, (by decide : 0 + 0 ≤ _), (by decide : 0 + 0 ≤ _)⟩)
  dsimp only [Pt.U, Pt.locs, Pt.cells, Pt.slots] at X2 l2 y2 z2 st2 hQ2
  subst l2 y2 z2
  obtain ⟨rfl, N2q, hh2⟩ := hQ2
  have N2 := Fr.app N0 N2q
  have pre2 : Steps p.tables e below _ (T2.setTop (mkF m 4 #[.val (.ref a1), .val (.ref a2), .val (.ref a3)] [])) := pre1.trans (st2)
  have pre3 : Steps p.tables e below _ (T2.setTop (mkF m 6 #[.val (.ref a1), .val (.ref a2), .val (.ref a3)] [(.ref a2), (.ref a1)])) := pre2.trans (by
    show Steps p.tables e below (T2.setTop (mkF m 4 #[.val (.ref a1), .val (.ref a2), .val (.ref a3)] [])) _
    refine XS.aloadN X2.here hx rfl (hb hby d27_4) rfl rfl ?_
    show Steps p.tables e below (T2.setTop (mkF m 5 #[.val (.ref a1), .val (.ref a2), .val (.ref a3)] [(.ref a1)])) _
    refine XS.aloadN X2.here hx rfl (hb hby d27_5) rfl rfl ?_
    exact Steps.refl _)
  obtain ⟨_, _, ⟨T4, L4, k4, n4⟩, -, X4, ⟨Lc4, hQ4, l4, y4, z4⟩, st4⟩ := Jvm.LawKit.callS X2 hx (y := (⟨"java/util/Objects", "requireNonNull", "(Ljava/lang/Object;)Ljava/lang/Object;"⟩ : MethodName)) hown (mvT hZ (hw _ (List.mem_of_getElem? (i := 225) rfl))) (mvT hZ (hw _ (List.mem_of_getElem? (i := 226) rfl))) (mvT hZ (hw _ (List.mem_of_getElem? (i := 227) rfl))) (mvT hZ (hw _ (List.mem_of_getElem? (i := 228) rfl))) (by decide) (backOf (W := 1) (rmRN l Z a0 hw [] a2 h0 n0 Z0) hZ (hw _ (List.mem_of_getElem? (i := 228) rfl)) (hw _ (List.mem_of_getElem? (i := 227) rfl)) (by decide) (by decide)) (g := (mkF m 6 #[.val (.ref a1), .val (.ref a2), .val (.ref a3)] [(.ref a2), (.ref a1)])) rfl (by rw [hml]; rfl) (argsL := [(.ref a2)]) (rest := [(.ref a1)]) (lenOf pd_rm12_1 rfl) rfl (by show 2 * 0 + _ ≤ _; exact Nat.le_of_eq rfl) (hb hby d27_6) (fun _ _ => ⟨rfl, hh2, (by decide : 0 + 0 ≤ _), (by decide : 0 + 0 ≤ _)⟩)
  dsimp only [Pt.U, Pt.locs, Pt.cells, Pt.slots] at X4 l4 y4 z4 st4 hQ4
  subst l4 y4 z4
  obtain ⟨rfl, N4q, hh4⟩ := hQ4
  have N4 := Fr.app N2 N4q
  have pre4 : Steps p.tables e below _ (T4.setTop (mkF m 9 #[.val (.ref a1), .val (.ref a2), .val (.ref a3)] [(.ref a2), (.ref a1)])) := pre3.trans (st4 _ (Steps.refl _))
  obtain ⟨T5, h5, X5, e5, W5, st5⟩ := putF X4 hx hZ hown (host := "") (Or.inl (hw _ (List.mem_of_getElem? (i := 229) rfl))) Via.refl hh4 F1 E (Or.inr ⟨(hw _ (List.mem_of_getElem? (i := 230) rfl)), rfl, hnm⟩) (hw _ (List.mem_of_getElem? (i := 205) rfl)) (ty := (.object "java/lang/Object")) (by decide) rfl rfl (g := (mkF m 9 #[.val (.ref a1), .val (.ref a2), .val (.ref a3)] [(.ref a2), (.ref a1)])) rfl rfl (hb hby d27_9)
  have N5 := Fr.snoc X5 N4 g_a1
  have Z5 : n0 ≤ h5.size := Nat.le_trans Z0 (Keep.of_wr W5).1
  have pre5 : Steps p.tables e below _ (T5.setTop (mkF m 12 #[.val (.ref a1), .val (.ref a2), .val (.ref a3)] [])) := pre4.trans (st5 _ (Steps.refl _))
  have pre6 : Steps p.tables e below _ (T5.setTop (mkF m 14 #[.val (.ref a1), .val (.ref a2), .val (.ref a3)] [(.ref a3), (.ref a1)])) := pre5.trans (by
    show Steps p.tables e below (T5.setTop (mkF m 12 #[.val (.ref a1), .val (.ref a2), .val (.ref a3)] [])) _
    refine XS.aloadN X5.here hx rfl (hb hby d27_12) rfl rfl ?_
    show Steps p.tables e below (T5.setTop (mkF m 13 #[.val (.ref a1), .val (.ref a2), .val (.ref a3)] [(.ref a1)])) _
    refine XS.aloadN X5.here hx rfl (hb hby d27_13) rfl rfl ?_
    exact Steps.refl _)
  obtain ⟨_, _, ⟨T7, L7, k7, n7⟩, -, X7, ⟨Lc7, hQ7, l7, y7, z7⟩, st7⟩ := Jvm.LawKit.callS X5 hx (y := (⟨"java/util/Objects", "requireNonNull", "(Ljava/lang/Object;)Ljava/lang/Object;"⟩ : MethodName)) hown (mvT hZ (hw _ (List.mem_of_getElem? (i := 225) rfl))) (mvT hZ (hw _ (List.mem_of_getElem? (i := 226) rfl))) (mvT hZ (hw _ (List.mem_of_getElem? (i := 227) rfl))) (mvT hZ (hw _ (List.mem_of_getElem? (i := 228) rfl))) (by decide) (backOf (W := 1) (rmRN l Z a0 hw [] a3 h5 n0 Z5) hZ (hw _ (List.mem_of_getElem? (i := 228) rfl)) (hw _ (List.mem_of_getElem? (i := 227) rfl)) (by decide) (by decide)) (g := (mkF m 14 #[.val (.ref a1), .val (.ref a2), .val (.ref a3)] [(.ref a3), (.ref a1)])) rfl (by rw [hml]; rfl) (argsL := [(.ref a3)]) (rest := [(.ref a1)]) (lenOf pd_rm12_1 rfl) rfl (by show 2 * 0 + _ ≤ _; exact Nat.le_of_eq rfl) (hb hby d27_14) (fun _ _ => ⟨rfl, e5, (by decide : 0 + 0 ≤ _), (by decide : 0 + 0 ≤ _)⟩)
  dsimp only [Pt.U, Pt.locs, Pt.cells, Pt.slots] at X7 l7 y7 z7 st7 hQ7
  subst l7 y7 z7
  obtain ⟨rfl, N7q, hh7⟩ := hQ7
  have N7 := Fr.app N5 N7q
  have pre7 : Steps p.tables e below _ (T7.setTop (mkF m 17 #[.val (.ref a1), .val (.ref a2), .val (.ref a3)] [(.ref a3), (.ref a1)])) := pre6.trans (st7 _ (Steps.refl _))
  obtain ⟨T8, h8, X8, e8, W8, st8⟩ := putF X7 hx hZ hown (host := "") (Or.inl (hw _ (List.mem_of_getElem? (i := 231) rfl))) Via.refl hh7 (F2.other W5 (Or.inr (ne_e1_e0 hw))) (E.wr W5) (Or.inr ⟨(hw _ (List.mem_of_getElem? (i := 232) rfl)), rfl, hnm⟩) (hw _ (List.mem_of_getElem? (i := 205) rfl)) (ty := (.object "java/lang/Object")) (by decide) rfl rfl (g := (mkF m 17 #[.val (.ref a1), .val (.ref a2), .val (.ref a3)] [(.ref a3), (.ref a1)])) rfl rfl (hb hby d27_17)
  have N8 := Fr.snoc X8 N7 g_a1
  have Z8 : n0 ≤ h8.size := Nat.le_trans Z5 (Keep.of_wr W8).1
  have pre8 : Steps p.tables e below _ (T8.setTop (mkF m 20 #[.val (.ref a1), .val (.ref a2), .val (.ref a3)] [])) := pre7.trans (st8 _ (Steps.refl _))
  obtain ⟨fs, hr, hrun, hended, hW, hsame⟩ := X8.leave (v := none) (fun h => by rfl)
  refine ⟨_, _, pre8.trans ?_, hrun, hended, _, _, rfl, ?_, ⟨_, rfl⟩, hW, hsame.mono (by decide) (by decide)⟩
  · exact X8.returnOut hx Bd.returns (hb hby d27_20) hr
  · exact ⟨rfl, N8, (by show Keep h0 T8.heap [a1]; rw [e8]; exact ((Keep.refl h0 [a1]).wr W5 (Or.inl (List.mem_singleton.mpr rfl))).wr W8 (Or.inl (List.mem_singleton.mpr rfl)))⟩
theorem d34_0 : decode jdk_45_method_1_code 0 = .ok (.aload_n 0, 1) := by decide +kernel
theorem d34_1 : decode jdk_45_method_1_code 1 = .ok (.invokespecial 1, 3) := by decide +kernel
theorem d34_4 : decode jdk_45_method_1_code 4 = .ok (.aload_n 0, 1) := by decide +kernel
theorem d34_5 : decode jdk_45_method_1_code 5 = .ok (.aload_n 1, 1) := by decide +kernel
theorem d34_6 : decode jdk_45_method_1_code 6 = .ok (.putfield 7, 3) := by decide +kernel
theorem d34_9 : decode jdk_45_method_1_code 9 = .ok (.aload_n 0, 1) := by decide +kernel
theorem d34_10 : decode jdk_45_method_1_code 10 = .ok (.iload_n 2, 1) := by decide +kernel
theorem d34_11 : decode jdk_45_method_1_code 11 = .ok (.putfield 13, 3) := by decide +kernel
theorem d34_14 : decode jdk_45_method_1_code 14 = .ok (.return_, 1) := by decide +kernel
theorem pn_rmLNi : plainName "java/util/ImmutableCollections$ListN" = true := by first | (simp [plainName, overriddenIn]; done) | decide +kernel
theorem pd_rmLNi_0 : parseMethodDescriptor "()V" = some ⟨[], none⟩ := by decide +kernel
theorem ef_rmLNi (m : MethodId) (a1 : Addr) (a2 : Addr) (p3 : Int32) : entryFrame m #[(.ref a1), (.ref a2), (.int p3)] 3 = (mkF m 0 #[.val (.ref a1), .val (.ref a2), .val (.int p3)] []) := by first | (simp [entryFrame, mkF, argsToLocals, Value.category]; done) | rfl
def Q_rmLNi (Z : State) (a1 : Addr) (a2 : Addr) (p3 : Int32)  (h0 : Heap) (n0 : Nat) (v : Option Value) (h : Heap) (L : List Loc) : Prop := v = none ∧ Fr n0 L ∧ Keep h0 h [a1]
set_option maxRecDepth 65536 in
set_option maxHeartbeats 40000000 in
theorem rmLNi (l : Launch) (Z : State) (a0 : Array Value) (hw : ∀ d ∈ tables_1, d.before a0 Z = true) (ws : List Jvm.Cond) (a1 : Addr) (a2 : Addr) (p3 : Int32)  (h0 : Heap) (n0 : Nat) (Z0 : n0 ≤ h0.size) (h3 : p3 = 0) (E : Exa Z h0 a1 "java/util/ImmutableCollections$ListN") (F1 : Fld Z h0 a1 "java/util/ImmutableCollections$ListN" "elements" "[Ljava/lang/Object;" .null) (F2 : Fld Z h0 a1 "java/util/ImmutableCollections$ListN" "allowNulls" "Z" (.int (0 : Int32))) (g_a1 : n0 ≤ a1) :
    MetFree l (⟨"java/util/ImmutableCollections$ListN", "<init>", "([Ljava/lang/Object;Z)V"⟩ : MethodName) (head1 (Jvm.Cond.code (⟨"java/util/ImmutableCollections$ListN", "<init>", "([Ljava/lang/Object;Z)V"⟩ : MethodName) jdk_45_method_1_code 3 none :: ws) ({ frames := 4, cells := 0, slots := 0, locals := 48 } : Room)) (fun a U => a = #[(.ref a1), (.ref a2), (.int p3)] ∧ Z.Warmed39 U.vm ∧ U.heap = h0) (fun _ _ _ _ _ => True) (fun _ U o U' => ∃ v L, o = .returned v ∧ Q_rmLNi Z a1 a2 p3 h0 n0 v U'.heap L ∧ FrameEnd U o U' L ({ frames := 4, cells := 0, slots := 0, locals := 48 } : Room).cells ({ frames := 4, cells := 0, slots := 0, locals := 48 } : Room).slots) := by
  refine MetFree.of_bodySF (plainFor_of_name pn_rmLNi) hisR ?_
  intro p e s m args below meth c s₁ Bd hml0 hP hK
  obtain ⟨rfl, hZ, hh⟩ := hP
  have hx := Bd.exec
  have hby := Bd.bytes
  have hml : c.maxLocals = 3 := hml0
  have hown : s.vm.findClass "java/util/ImmutableCollections$ListN" = some m.cls := findClass_of_methodNamed Bd.named
  have hnm := (name_of_methodNamed Bd.named Bd.method).1
  have X0 : Stand p l e ({ frames := 4, cells := 0, slots := 0, locals := 48 } : Room) s m #[(.ref a1), (.ref a2), (.int p3)] below meth c s₁ [] 0 0 := Stand.of_body Bd
  have e0 : s₁.heap = h0 := by rw [← hh, Bd.state]; rfl
  have N0 := Fr.nil n0
  have pre0 : Steps p.tables e below (s₁.setTop (entryFrame m #[(.ref a1), (.ref a2), (.int p3)] 3)) (s₁.setTop (mkF m 0 #[.val (.ref a1), .val (.ref a2), .val (.int p3)] [])) := castTop (ef_rmLNi m a1 a2 p3) (Steps.refl _)
  subst h3
  have pre1 : Steps p.tables e below _ (s₁.setTop (mkF m 1 #[.val (.ref a1), .val (.ref a2), .val (.int (0 : Int32))] [(.ref a1)])) := pre0.trans (by
    show Steps p.tables e below (s₁.setTop (mkF m 0 #[.val (.ref a1), .val (.ref a2), .val (.int (0 : Int32))] [])) _
    refine XS.aloadN X0.here hx rfl (hb hby d34_0) rfl rfl ?_
    exact Steps.refl _)
  obtain ⟨_, _, ⟨T2, L2, k2, n2⟩, -, X2, ⟨Lc2, hQ2, l2, y2, z2⟩, st2⟩ := X0.specialBack hx (y := (⟨"java/util/ImmutableCollections$AbstractImmutableList", "<init>", "()V"⟩ : MethodName)) rfl hown (mvT hZ (hw _ (List.mem_of_getElem? (i := 257) rfl))) (mvT hZ (hw _ (List.mem_of_getElem? (i := 212) rfl))) (mvT hZ (hw _ (List.mem_of_getElem? (i := 216) rfl))) (by decide) (backOf (W := 0) (rmAIL l Z a0 hw [] a1 h0 n0 Z0) hZ (hw _ (List.mem_of_getElem? (i := 216) rfl)) (hw _ (List.mem_of_getElem? (i := 215) rfl)) (by decide) (by decide)) (g := (mkF m 1 #[.val (.ref a1), .val (.ref a2), .val (.int (0 : Int32))] [(.ref a1)])) rfl (by rw [hml]; rfl) (Steps.refl _) (a := a1) (argsL := []) (rest := []) (lenOf pd_rmLNi_0 rfl) rfl (by show 2 * 0 + _ ≤ _; exact Nat.le_of_eq rfl) (hb hby d34_1) (fun _ _ => ⟨rfl, e0, (by decide : 0 + 0 ≤ _), (by decide : 0 + 0 ≤ _)⟩)
  dsimp only [Pt.U, Pt.locs, Pt.cells, Pt.slots] at X2 l2 y2 z2 st2 hQ2
  subst l2 y2 z2
  obtain ⟨rfl, N2q, hh2⟩ := hQ2
  have N2 := Fr.app N0 N2q
  have pre2 : Steps p.tables e below _ (T2.setTop (mkF m 4 #[.val (.ref a1), .val (.ref a2), .val (.int (0 : Int32))] [])) := pre1.trans (st2)
  have pre3 : Steps p.tables e below _ (T2.setTop (mkF m 6 #[.val (.ref a1), .val (.ref a2), .val (.int (0 : Int32))] [(.ref a2), (.ref a1)])) := pre2.trans (by
    show Steps p.tables e below (T2.setTop (mkF m 4 #[.val (.ref a1), .val (.ref a2), .val (.int (0 : Int32))] [])) _
    refine XS.aloadN X2.here hx rfl (hb hby d34_4) rfl rfl ?_
    show Steps p.tables e below (T2.setTop (mkF m 5 #[.val (.ref a1), .val (.ref a2), .val (.int (0 : Int32))] [(.ref a1)])) _
    refine XS.aloadN X2.here hx rfl (hb hby d34_5) rfl rfl ?_
    exact Steps.refl _)
  obtain ⟨T4, h4, X4, e4, W4, st4⟩ := putF X2 hx hZ hown (host := "") (Or.inl (hw _ (List.mem_of_getElem? (i := 109) rfl))) Via.refl hh2 F1 E (Or.inr ⟨(hw _ (List.mem_of_getElem? (i := 110) rfl)), rfl, hnm⟩) (hw _ (List.mem_of_getElem? (i := 252) rfl)) (ty := (.array (.object "java/lang/Object"))) (by decide) rfl rfl (g := (mkF m 6 #[.val (.ref a1), .val (.ref a2), .val (.int (0 : Int32))] [(.ref a2), (.ref a1)])) rfl rfl (hb hby d34_6)
  have N4 := Fr.snoc X4 N2 g_a1
  have Z4 : n0 ≤ h4.size := Nat.le_trans Z0 (Keep.of_wr W4).1
  have pre4 : Steps p.tables e below _ (T4.setTop (mkF m 9 #[.val (.ref a1), .val (.ref a2), .val (.int (0 : Int32))] [])) := pre3.trans (st4 _ (Steps.refl _))
  have pre5 : Steps p.tables e below _ (T4.setTop (mkF m 11 #[.val (.ref a1), .val (.ref a2), .val (.int (0 : Int32))] [(.int (0 : Int32)), (.ref a1)])) := pre4.trans (by
    show Steps p.tables e below (T4.setTop (mkF m 9 #[.val (.ref a1), .val (.ref a2), .val (.int (0 : Int32))] [])) _
    refine XS.aloadN X4.here hx rfl (hb hby d34_9) rfl rfl ?_
    show Steps p.tables e below (T4.setTop (mkF m 10 #[.val (.ref a1), .val (.ref a2), .val (.int (0 : Int32))] [(.ref a1)])) _
    refine XS.iloadN X4.here hx rfl (hb hby d34_10) rfl ?_
    exact Steps.refl _)
  obtain ⟨T6, h6, X6, e6, W6, st6⟩ := putFN X4 hx hZ hown (hw _ (List.mem_of_getElem? (i := 261) rfl)) Via.refl e4 (F2.other W4 (Or.inr (ne_allowNulls_elements hw))) (E.wr W4) (Or.inr ⟨(hw _ (List.mem_of_getElem? (i := 262) rfl)), rfl, hnm⟩) (hw _ (List.mem_of_getElem? (i := 252) rfl)) (ty := .boolean) (v' := (.int (0 : Int32))) (by decide) rfl rfl (g := (mkF m 11 #[.val (.ref a1), .val (.ref a2), .val (.int (0 : Int32))] [(.int (0 : Int32)), (.ref a1)])) rfl rfl (hb hby d34_11)
  have N6 := Fr.snoc X6 N4 g_a1
  have Z6 : n0 ≤ h6.size := Nat.le_trans Z4 (Keep.of_wr W6).1
  have pre6 : Steps p.tables e below _ (T6.setTop (mkF m 14 #[.val (.ref a1), .val (.ref a2), .val (.int (0 : Int32))] [])) := pre5.trans (st6 _ (Steps.refl _))
  obtain ⟨fs, hr, hrun, hended, hW, hsame⟩ := X6.leave (v := none) (fun h => by rfl)
  refine ⟨_, _, pre6.trans ?_, hrun, hended, _, _, rfl, ?_, ⟨_, rfl⟩, hW, hsame.mono (by decide) (by decide)⟩
  · exact X6.returnOut hx Bd.returns (hb hby d34_14) hr
  · exact ⟨rfl, N6, (by show Keep h0 T6.heap [a1]; rw [e6]; exact ((Keep.refl h0 [a1]).wr W4 (Or.inl (List.mem_singleton.mpr rfl))).wr W6 (Or.inl (List.mem_singleton.mpr rfl)))⟩
theorem d33_0 : decode jdk_56_method_4_code 0 = .ok (.aload_n 0, 1) := by decide +kernel
theorem d33_1 : decode jdk_56_method_4_code 1 = .ok (.arraylength, 1) := by decide +kernel
theorem d33_2 : decode jdk_56_method_4_code 2 = .ok (.anewarray 2, 3) := by decide +kernel
theorem d33_5 : decode jdk_56_method_4_code 5 = .ok (.astore_n 1, 1) := by decide +kernel
theorem d33_6 : decode jdk_56_method_4_code 6 = .ok (.iconst 0, 1) := by decide +kernel
theorem d33_7 : decode jdk_56_method_4_code 7 = .ok (.istore_n 2, 1) := by decide +kernel
theorem d33_8 : decode jdk_56_method_4_code 8 = .ok (.iload_n 2, 1) := by decide +kernel
theorem d33_9 : decode jdk_56_method_4_code 9 = .ok (.aload_n 0, 1) := by decide +kernel
theorem d33_10 : decode jdk_56_method_4_code 10 = .ok (.arraylength, 1) := by decide +kernel
theorem d33_11 : decode jdk_56_method_4_code 11 = .ok (.if_icmp .ge 18, 3) := by decide +kernel
theorem d33_14 : decode jdk_56_method_4_code 14 = .ok (.aload_n 1, 1) := by decide +kernel
theorem d33_15 : decode jdk_56_method_4_code 15 = .ok (.iload_n 2, 1) := by decide +kernel
theorem d33_16 : decode jdk_56_method_4_code 16 = .ok (.aload_n 0, 1) := by decide +kernel
theorem d33_17 : decode jdk_56_method_4_code 17 = .ok (.iload_n 2, 1) := by decide +kernel
theorem d33_18 : decode jdk_56_method_4_code 18 = .ok (.aaload, 1) := by decide +kernel
theorem d33_19 : decode jdk_56_method_4_code 19 = .ok (.invokestatic 37, 3) := by decide +kernel
theorem d33_22 : decode jdk_56_method_4_code 22 = .ok (.aastore, 1) := by decide +kernel
theorem d33_23 : decode jdk_56_method_4_code 23 = .ok (.iinc 2 1, 3) := by decide +kernel
theorem d33_26 : decode jdk_56_method_4_code 26 = .ok (.goto (-18), 3) := by decide +kernel
theorem d33_29 : decode jdk_56_method_4_code 29 = .ok (.new 12, 3) := by decide +kernel
theorem d33_32 : decode jdk_56_method_4_code 32 = .ok (.dup, 1) := by decide +kernel
theorem d33_33 : decode jdk_56_method_4_code 33 = .ok (.aload_n 1, 1) := by decide +kernel
theorem d33_34 : decode jdk_56_method_4_code 34 = .ok (.iconst 0, 1) := by decide +kernel
theorem d33_35 : decode jdk_56_method_4_code 35 = .ok (.invokespecial 43, 3) := by decide +kernel
theorem d33_38 : decode jdk_56_method_4_code 38 = .ok (.areturn, 1) := by decide +kernel
theorem pn_rmLF : plainName "java/util/ImmutableCollections" = true := by first | (simp [plainName, overriddenIn]; done) | decide +kernel
theorem pd_rmLF_0 : parseMethodDescriptor "(Ljava/lang/Object;)Ljava/lang/Object;" = some ⟨[(.object "java/lang/Object")], some (.object "java/lang/Object")⟩ := by decide +kernel
theorem pd_rmLF_1 : parseMethodDescriptor "([Ljava/lang/Object;Z)V" = some ⟨[(.array (.object "java/lang/Object")), .boolean], none⟩ := by decide +kernel
theorem ef_rmLF (m : MethodId) (a1 : Addr) : entryFrame m #[(.ref a1)] 3 = (mkF m 0 #[.val (.ref a1), .unset, .unset] []) := by first | (simp [entryFrame, mkF, argsToLocals, Value.category]; done) | rfl
def Q_rmLF (Z : State) (a1 : Addr) (nn : Int32) (P : Addr → Prop) (h0 : Heap) (n0 : Nat) (v : Option Value) (h : Heap) (L : List Loc) : Prop := ∃ r, v = some (.ref r) ∧ Fr n0 L ∧ Keep h0 h []
set_option maxRecDepth 65536 in
set_option maxHeartbeats 40000000 in
theorem rmLF (l : Launch) (Z : State) (a0 : Array Value) (hw : ∀ d ∈ tables_1, d.before a0 Z = true) (ws : List Jvm.Cond) (a1 : Addr) (nn : Int32) (P : Addr → Prop) (h0 : Heap) (n0 : Nat) (Z0 : n0 ≤ h0.size) (B : PAr Z h0 a1 nn nn.toNatClampNeg P) (hI : ∀ x, P x → Ins Z h0 x "java/lang/Object" true) (hp1 : 2 ≤ nn.toInt) (hp2 : nn.toInt ≤ 65) :
    MetFree l (⟨"java/util/ImmutableCollections", "listFromArray", "([Ljava/lang/Object;)Ljava/util/List;"⟩ : MethodName) (head1 (Jvm.Cond.code (⟨"java/util/ImmutableCollections", "listFromArray", "([Ljava/lang/Object;)Ljava/util/List;"⟩ : MethodName) jdk_56_method_4_code 3 (some (.object "java/util/List")) :: ws) ({ frames := 5, cells := 2, slots := 67, locals := 63 } : Room)) (fun a U => a = #[(.ref a1)] ∧ Z.Warmed39 U.vm ∧ U.heap = h0) (fun _ _ _ _ _ => True) (fun _ U o U' => ∃ v L, o = .returned v ∧ Q_rmLF Z a1 nn P h0 n0 v U'.heap L ∧ FrameEnd U o U' L ({ frames := 5, cells := 2, slots := 67, locals := 63 } : Room).cells ({ frames := 5, cells := 2, slots := 67, locals := 63 } : Room).slots) := by
  refine MetFree.of_bodySF (plainFor_of_name pn_rmLF) hisR ?_
  intro p e s m args below meth c s₁ Bd hml0 hP hK
  obtain ⟨rfl, hZ, hh⟩ := hP
  have hx := Bd.exec
  have hby := Bd.bytes
  have hml : c.maxLocals = 3 := hml0
  have hown : s.vm.findClass "java/util/ImmutableCollections" = some m.cls := findClass_of_methodNamed Bd.named
  have hnm := (name_of_methodNamed Bd.named Bd.method).1
  have X0 : Stand p l e ({ frames := 5, cells := 2, slots := 67, locals := 63 } : Room) s m #[(.ref a1)] below meth c s₁ [] 0 0 := Stand.of_body Bd
  have e0 : s₁.heap = h0 := by rw [← hh, Bd.state]; rfl
  have N0 := Fr.nil n0
  have pre0 : Steps p.tables e below (s₁.setTop (entryFrame m #[(.ref a1)] 3)) (s₁.setTop (mkF m 0 #[.val (.ref a1), .unset, .unset] [])) := castTop (ef_rmLF m a1) (Steps.refl _)
  have e00 : (0 : Int32).toInt = 0 := rfl
  have u2 : ¬ nn < 0 := by rw [own_lt]; omega
  have u3 : nn.toNatClampNeg ≤ 65 := by have q := own_nat nn (by omega); omega
  obtain ⟨cb0, Ab0, Ob0, Eb0, Sb0, Mb0, -⟩ := id B
  have pre1 : Steps p.tables e below _ (s₁.setTop (mkF m 2 #[.val (.ref a1), .unset, .unset] [(.int nn)])) := pre0.trans (by
    show Steps p.tables e below (s₁.setTop (mkF m 0 #[.val (.ref a1), .unset, .unset] [])) _
    refine XS.aloadN X0.here hx rfl (hb hby d33_0) rfl rfl ?_
    show Steps p.tables e below (s₁.setTop (mkF m 1 #[.val (.ref a1), .unset, .unset] [(.ref a1)])) _
    refine X0.arraylength hx (by rw [e0]; exact Ab0.1) (State.isArrayOf_alike hZ.alike Ab0.2.1) (g := (mkF m 1 #[.val (.ref a1), .unset, .unset] [(.ref a1)])) rfl rfl (hb hby d33_1) _ ?_
    rw [len_of Sb0 Mb0]
    exact Steps.refl _)
  obtain ⟨T2, h2, k2, X2, e2, E2, A2, EX2, O2, st2⟩ := newRE X0 hx hZ hown (hw _ (List.mem_of_getElem? (i := 250) rfl)) (hw _ (List.mem_of_getElem? (i := 80) rfl)) e0 (g := (mkF m 2 #[.val (.ref a1), .unset, .unset] [(.int nn)])) rfl (hb hby d33_2) rfl u2 (cap := 65) u3 (by decide) (by decide : 0 + 1 ≤ _) (by decide : 0 + 65 ≤ _) (ad := "[Ljava/lang/Object;") (by decide)
  obtain ⟨na, g2⟩ : ∃ z, z = h0.size := ⟨_, rfl⟩
  rw [← g2] at A2 EX2 st2
  have g_na : n0 ≤ na := Nat.le_trans Z0 (Nat.le_of_eq g2.symm)
  have P2 : PAr Z h2 na nn 0 (fun _ => False) := ⟨_, A2, O2, EX2, sz_new _ _ _, u2, fun k hk => absurd hk (Nat.not_lt_zero _)⟩
  have Z2 : n0 ≤ h2.size := Nat.le_trans Z0 E2.1
  have pre2 : Steps p.tables e below _ (T2.setTop (mkF m 5 #[.val (.ref a1), .unset, .unset] [(.ref na)])) := pre1.trans (st2 _ (Steps.refl _))
  have gna0 : h0.size ≤ na := Nat.le_of_eq g2.symm
  have pre3 : Steps p.tables e below _ (T2.setTop (mkF m 8 #[.val (.ref a1), .val (.ref na), .val (.int (0 : Int32))] [])) := pre2.trans (by
    show Steps p.tables e below (T2.setTop (mkF m 5 #[.val (.ref a1), .unset, .unset] [(.ref na)])) _
    refine XS.astoreN X2.here hx rfl (hb hby d33_5) rfl rfl (l' := #[.val (.ref a1), .val (.ref na), .unset]) rfl ?_
    show Steps p.tables e below (T2.setTop (mkF m 6 #[.val (.ref a1), .val (.ref na), .unset] [])) _
    refine XS.iconst X2.here hx rfl (hb hby d33_6) ?_
    show Steps p.tables e below (T2.setTop (mkF m 7 #[.val (.ref a1), .val (.ref na), .unset] [(.int (0 : Int32))])) _
    refine XS.istoreN X2.here hx rfl (hb hby d33_7) rfl (l' := #[.val (.ref a1), .val (.ref na), .val (.int (0 : Int32))]) rfl ?_
    exact Steps.refl _)
  have loop : ∀ (k kk : Nat) (i : Int32) (T : State) (locs : List Loc), Stand p l e ({ frames := 5, cells := 2, slots := 67, locals := 63 } : Room) s m #[(.ref a1)] below meth c T locs 1 65 → Fr n0 locs → i.toInt = kk → (kk : Int) + k = nn.toInt → Keep h0 T.heap [] → PAr Z T.heap na nn kk (fun _ => True) → ∃ (T' : State) (locs' : List Loc), Stand p l e ({ frames := 5, cells := 2, slots := 67, locals := 63 } : Room) s m #[(.ref a1)] below meth c T' locs' 1 65 ∧ Fr n0 locs' ∧ Keep h0 T'.heap [] ∧ Steps p.tables e below (T.setTop (mkF m 8 #[.val (.ref a1), .val (.ref na), .val (.int i)] [])) (T'.setTop (mkF m 29 #[.val (.ref a1), .val (.ref na), .val (.int nn)] [])) := by
    intro k
    induction k with
    | zero =>
      intro kk i T locs X Nf hi ik K B2
      have hi2 : nn = i := Int32.toInt_inj.mp (by omega)
      subst hi2
      have preL : Steps p.tables e below (T.setTop (mkF m 8 #[.val (.ref a1), .val (.ref na), .val (.int nn)] [])) (T.setTop (mkF m 8 #[.val (.ref a1), .val (.ref na), .val (.int nn)] [])) := Steps.refl _
      have ZT : n0 ≤ T.heap.size := Nat.le_trans Z0 K.1
      have B3 : PAr Z T.heap a1 nn nn.toNatClampNeg P := B.keep K nin0 (fun _ q => q)
      obtain ⟨cb, Ab, Ob, Eb, Sb, Mb, Hb⟩ := id B3
      have pre4 : Steps p.tables e below _ (T.setTop (mkF m 29 #[.val (.ref a1), .val (.ref na), .val (.int nn)] [])) := preL.trans (by
        show Steps p.tables e below (T.setTop (mkF m 8 #[.val (.ref a1), .val (.ref na), .val (.int nn)] [])) _
        refine XS.iloadN X.here hx rfl (hb hby d33_8) rfl ?_
        show Steps p.tables e below (T.setTop (mkF m 9 #[.val (.ref a1), .val (.ref na), .val (.int nn)] [(.int nn)])) _
        refine XS.aloadN X.here hx rfl (hb hby d33_9) rfl rfl ?_
        show Steps p.tables e below (T.setTop (mkF m 10 #[.val (.ref a1), .val (.ref na), .val (.int nn)] [(.ref a1), (.int nn)])) _
        refine X.arraylength hx (by rw [(rfl : T.heap = T.heap)]; exact Ab.1) (State.isArrayOf_alike hZ.alike Ab.2.1) (g := (mkF m 10 #[.val (.ref a1), .val (.ref na), .val (.int nn)] [(.ref a1), (.int nn)])) rfl rfl (hb hby d33_10) _ ?_
        rw [len_of Sb Mb]
        show Steps p.tables e below (T.setTop (mkF m 11 #[.val (.ref a1), .val (.ref na), .val (.int nn)] [(.int nn), (.int nn)])) _
        refine XS.icmpYes X.here hx rfl (pc0 := 11) (pc' := 29) rfl (hb hby d33_11) rfl (flt (own_irr nn)).2.1 (by decide) (by decide) ?_
        exact Steps.refl _)
      exact ⟨T, locs, X, Nf, K, pre4⟩
    | succ k ih =>
      intro kk i T locs X Nf hi ik K B2
      have preL : Steps p.tables e below (T.setTop (mkF m 8 #[.val (.ref a1), .val (.ref na), .val (.int i)] [])) (T.setTop (mkF m 8 #[.val (.ref a1), .val (.ref na), .val (.int i)] [])) := Steps.refl _
      have ZT : n0 ≤ T.heap.size := Nat.le_trans Z0 K.1
      have B3 : PAr Z T.heap a1 nn nn.toNatClampNeg P := B.keep K nin0 (fun _ q => q)
      obtain ⟨cb, Ab, Ob, Eb, Sb, Mb, Hb⟩ := id B3
      have hlt : i < nn := by rw [own_lt]; omega
      have hge : ¬ i < 0 := by rw [own_lt]; omega
      have hki : i.toNatClampNeg = kk := by have q := own_nat i (by omega); omega
      have hkn : kk < nn.toNatClampNeg := by have q := own_nat nn (by omega); omega
      have hin := inb_of Sb ⟨hge, hlt⟩
      obtain ⟨eb, hat, hPb⟩ := Hb i.toNatClampNeg (by rw [hki]; exact hkn)
      have pre5 : Steps p.tables e below _ (T.setTop (mkF m 18 #[.val (.ref a1), .val (.ref na), .val (.int i)] [(.int i), (.ref a1), (.int i), (.ref na)])) := preL.trans (by
        show Steps p.tables e below (T.setTop (mkF m 8 #[.val (.ref a1), .val (.ref na), .val (.int i)] [])) _
        refine XS.iloadN X.here hx rfl (hb hby d33_8) rfl ?_
        show Steps p.tables e below (T.setTop (mkF m 9 #[.val (.ref a1), .val (.ref na), .val (.int i)] [(.int i)])) _
        refine XS.aloadN X.here hx rfl (hb hby d33_9) rfl rfl ?_
        show Steps p.tables e below (T.setTop (mkF m 10 #[.val (.ref a1), .val (.ref na), .val (.int i)] [(.ref a1), (.int i)])) _
        refine X.arraylength hx (by rw [(rfl : T.heap = T.heap)]; exact Ab.1) (State.isArrayOf_alike hZ.alike Ab.2.1) (g := (mkF m 10 #[.val (.ref a1), .val (.ref na), .val (.int i)] [(.ref a1), (.int i)])) rfl rfl (hb hby d33_10) _ ?_
        rw [len_of Sb Mb]
        show Steps p.tables e below (T.setTop (mkF m 11 #[.val (.ref a1), .val (.ref na), .val (.int i)] [(.int nn), (.int i)])) _
        refine XS.icmpNo X.here hx rfl (hb hby d33_11) rfl (tlt hlt).2.1 ?_
        show Steps p.tables e below (T.setTop (mkF m 14 #[.val (.ref a1), .val (.ref na), .val (.int i)] [])) _
        refine XS.aloadN X.here hx rfl (hb hby d33_14) rfl rfl ?_
        show Steps p.tables e below (T.setTop (mkF m 15 #[.val (.ref a1), .val (.ref na), .val (.int i)] [(.ref na)])) _
        refine XS.iloadN X.here hx rfl (hb hby d33_15) rfl ?_
        show Steps p.tables e below (T.setTop (mkF m 16 #[.val (.ref a1), .val (.ref na), .val (.int i)] [(.int i), (.ref na)])) _
        refine XS.aloadN X.here hx rfl (hb hby d33_16) rfl rfl ?_
        show Steps p.tables e below (T.setTop (mkF m 17 #[.val (.ref a1), .val (.ref na), .val (.int i)] [(.ref a1), (.int i), (.ref na)])) _
        refine XS.iloadN X.here hx rfl (hb hby d33_17) rfl ?_
        exact Steps.refl _)
      have pre6 : Steps p.tables e below _ (T.setTop (mkF m 19 #[.val (.ref a1), .val (.ref na), .val (.int i)] [(.ref eb), (.int i), (.ref na)])) := pre5.trans (X.aaload hx (j := i) (v := (.ref eb)) (by rw [(rfl : T.heap = T.heap)]; exact Ab.1) (State.isArrayOf_alike hZ.alike Ab.2.1) rfl Ab.2.2 hin hat (g := (mkF m 18 #[.val (.ref a1), .val (.ref na), .val (.int i)] [(.int i), (.ref a1), (.int i), (.ref na)])) rfl rfl (hb hby d33_18) _ (Steps.refl _))
      obtain ⟨_, _, ⟨T7, L7, k7, n7⟩, -, X7, ⟨Lc7, hQ7, l7, y7, z7⟩, st7⟩ := Jvm.LawKit.callS X hx (y := (⟨"java/util/Objects", "requireNonNull", "(Ljava/lang/Object;)Ljava/lang/Object;"⟩ : MethodName)) hown (mvT hZ (hw _ (List.mem_of_getElem? (i := 251) rfl))) (mvT hZ (hw _ (List.mem_of_getElem? (i := 226) rfl))) (mvT hZ (hw _ (List.mem_of_getElem? (i := 227) rfl))) (mvT hZ (hw _ (List.mem_of_getElem? (i := 228) rfl))) (by decide) (backOf (W := 2) (rmRN l Z a0 hw [] eb T.heap n0 ZT) hZ (hw _ (List.mem_of_getElem? (i := 228) rfl)) (hw _ (List.mem_of_getElem? (i := 227) rfl)) (by decide) (by decide)) (g := (mkF m 19 #[.val (.ref a1), .val (.ref na), .val (.int i)] [(.ref eb), (.int i), (.ref na)])) rfl (by rw [hml]; rfl) (argsL := [(.ref eb)]) (rest := [(.int i), (.ref na)]) (lenOf pd_rmLF_0 rfl) rfl (by show 2 * 0 + _ ≤ _; exact Nat.le_of_eq rfl) (hb hby d33_19) (fun _ _ => ⟨rfl, (rfl : T.heap = T.heap), (by decide : 1 + 0 ≤ _), (by decide : 65 + 0 ≤ _)⟩)
      dsimp only [Pt.U, Pt.locs, Pt.cells, Pt.slots] at X7 l7 y7 z7 st7 hQ7
      subst l7 y7 z7
      obtain ⟨rfl, N7q, hh7⟩ := hQ7
      have N7 := Fr.app Nf N7q
      have pre7 : Steps p.tables e below _ (T7.setTop (mkF m 22 #[.val (.ref a1), .val (.ref na), .val (.int i)] [(.ref eb), (.int i), (.ref na)])) := pre6.trans (st7 _ (Steps.refl _))
      have IT : Ins Z T.heap eb "java/lang/Object" true := by
        obtain ⟨cell, cT, q1, q2, q3⟩ := hI eb hPb
        exact ⟨cell, cT, K.2.1 _ _ q1 nin0, q2, q3⟩
      obtain ⟨cl8, Ar8, Ov8, Ex8, S8, M8, H8⟩ := id B2
      have hin8 := inb_of S8 ⟨hge, hlt⟩
      obtain ⟨T8, h8, X8, e8, W8, st8⟩ := stR X7 hx hZ hh7 Ar8 (j := i) hin8 rfl (Sto.of Ar8 Ov8 IT) (g := (mkF m 22 #[.val (.ref a1), .val (.ref na), .val (.int i)] [(.ref eb), (.int i), (.ref na)])) rfl rfl (hb hby d33_22)
      have N8 := Fr.snoc X8 N7 g_na
      have Z8 : n0 ≤ h8.size := Nat.le_trans ZT (Keep.of_wr W8).1
      have pre8 : Steps p.tables e below _ (T8.setTop (mkF m 23 #[.val (.ref a1), .val (.ref na), .val (.int i)] [])) := pre7.trans (st8 _ (Steps.refl _))
      have pre9 : Steps p.tables e below _ (T8.setTop (mkF m 8 #[.val (.ref a1), .val (.ref na), .val (.int (i + (1 : Int32)))] [])) := pre8.trans (by
        show Steps p.tables e below (T8.setTop (mkF m 23 #[.val (.ref a1), .val (.ref na), .val (.int i)] [])) _
        refine XS.iinc X8.here hx rfl (hb hby d33_23) rfl (l' := #[.val (.ref a1), .val (.ref na), .val (.int (i + (1 : Int32)))]) rfl ?_
        show Steps p.tables e below (T8.setTop (mkF m 26 #[.val (.ref a1), .val (.ref na), .val (.int (i + (1 : Int32)))] [])) _
        refine XS.goto X8.here hx rfl (pc0 := 26) (pc' := 8) rfl (hb hby d33_26) (by decide) (by decide) ?_
        exact Steps.refl _)
      have ei := own_inc i (by omega) (by omega)
      obtain ⟨T', lc', q1, q2, q3, q4⟩ := ih (kk + 1) (i + (1 : Int32)) T8 _ X8 N8 (by omega) (by omega) (by rw [e8]; exact K.wr W8 (Or.inr gna0)) (by rw [e8]; exact B2.set (by rw [← hki]; exact W8) hkn (fun _ q => q) trivial)
      exact ⟨T', lc', q1, q2, q3, pre9.trans q4⟩
  obtain ⟨T9, l9, X9, N9, K9, st9⟩ := loop nn.toInt.toNat 0 (0 : Int32) T2 _ X2 N0 rfl (by have q := Int.toNat_of_nonneg (show 0 ≤ nn.toInt by omega); omega) (by rw [e2]; exact (Keep.refl h0 []).ext E2) (by rw [e2]; exact P2.mono (fun _ q => q.elim))
  have Z9 : n0 ≤ T9.heap.size := Nat.le_trans Z0 K9.1
  have pre99 : Steps p.tables e below _ (T9.setTop (mkF m 29 #[.val (.ref a1), .val (.ref na), .val (.int nn)] [])) := pre3.trans st9
  obtain ⟨T10, h10, X10, e10, E10, A10, D10, -, st10⟩ := newO X9 hx hZ hown (hw _ (List.mem_of_getElem? (i := 54) rfl)) (hw _ (List.mem_of_getElem? (i := 252) rfl)) (hw _ (List.mem_of_getElem? (i := 107) rfl)) (rfl : T9.heap = T9.heap) (g := (mkF m 29 #[.val (.ref a1), .val (.ref na), .val (.int nn)] [])) rfl (hb hby d33_29) (by decide : 1 + 1 ≤ _) (by decide : 65 + 2 ≤ _)
  obtain ⟨ln, g10⟩ : ∃ z, z = T9.heap.size := ⟨_, rfl⟩
  rw [← g10] at A10 D10 st10
  have g_ln : n0 ≤ ln := Nat.le_trans Z9 (Nat.le_of_eq g10.symm)
  have Z10 : n0 ≤ h10.size := Nat.le_trans Z9 E10.1
  have pre10 : Steps p.tables e below _ (T10.setTop (mkF m 32 #[.val (.ref a1), .val (.ref na), .val (.int nn)] [(.ref ln)])) := pre99.trans (st10 _ (Steps.refl _))
  have FF1 : Fld Z h10 ln "java/util/ImmutableCollections$ListN" "elements" "[Ljava/lang/Object;" .null := D10 (Or.inr (hw _ (List.mem_of_getElem? (i := 110) rfl))) (ty := (.array (.object "java/lang/Object"))) (by decide)
  have FF2 : Fld Z h10 ln "java/util/ImmutableCollections$ListN" "allowNulls" "Z" (.int (0 : Int32)) := D10 (Or.inr (hw _ (List.mem_of_getElem? (i := 262) rfl))) (ty := .boolean) (by decide)
  have pre11 : Steps p.tables e below _ (T10.setTop (mkF m 35 #[.val (.ref a1), .val (.ref na), .val (.int nn)] [(.int (0 : Int32)), (.ref na), (.ref ln), (.ref ln)])) := pre10.trans (by
    show Steps p.tables e below (T10.setTop (mkF m 32 #[.val (.ref a1), .val (.ref na), .val (.int nn)] [(.ref ln)])) _
    refine XS.dup X10.here hx rfl (hb hby d33_32) rfl rfl ?_
    show Steps p.tables e below (T10.setTop (mkF m 33 #[.val (.ref a1), .val (.ref na), .val (.int nn)] [(.ref ln), (.ref ln)])) _
    refine XS.aloadN X10.here hx rfl (hb hby d33_33) rfl rfl ?_
    show Steps p.tables e below (T10.setTop (mkF m 34 #[.val (.ref a1), .val (.ref na), .val (.int nn)] [(.ref na), (.ref ln), (.ref ln)])) _
    refine XS.iconst X10.here hx rfl (hb hby d33_34) ?_
    exact Steps.refl _)
  obtain ⟨_, _, ⟨T12, L12, k12, n12⟩, -, X12, ⟨Lc12, hQ12, l12, y12, z12⟩, st12⟩ := X10.specialBackNest hx (host := "java/util/ImmutableCollections") (y := (⟨"java/util/ImmutableCollections$ListN", "<init>", "([Ljava/lang/Object;Z)V"⟩ : MethodName)) rfl hown (own_mvN hZ (hw _ (List.mem_of_getElem? (i := 253) rfl))) (mvT hZ (hw _ (List.mem_of_getElem? (i := 254) rfl))) (mvT hZ (hw _ (List.mem_of_getElem? (i := 256) rfl))) (by decide) (backOf (W := 1) (rmLNi l Z a0 hw [] ln na (0 : Int32) h10 n0 Z10 rfl A10 FF1 FF2 g_ln) hZ (hw _ (List.mem_of_getElem? (i := 256) rfl)) (hw _ (List.mem_of_getElem? (i := 107) rfl)) (by decide) (by decide)) (g := (mkF m 35 #[.val (.ref a1), .val (.ref na), .val (.int nn)] [(.int (0 : Int32)), (.ref na), (.ref ln), (.ref ln)])) rfl (by rw [hml]; rfl) (Steps.refl _) (a := ln) (argsL := [(.ref na), (.int (0 : Int32))]) (rest := [(.ref ln)]) (lenOf pd_rmLF_1 rfl) rfl (by show 2 * 0 + _ ≤ _; exact Nat.le_of_eq rfl) (hb hby d33_35) (fun _ _ => ⟨rfl, e10, (by decide : 2 + 0 ≤ _), (by decide : 67 + 0 ≤ _)⟩)
  dsimp only [Pt.U, Pt.locs, Pt.cells, Pt.slots] at X12 l12 y12 z12 st12 hQ12
  subst l12 y12 z12
  obtain ⟨rfl, N12q, K12⟩ := hQ12
  have N12 := Fr.app N9 N12q
  have pre12 : Steps p.tables e below _ (T12.setTop (mkF m 38 #[.val (.ref a1), .val (.ref na), .val (.int nn)] [(.ref ln)])) := pre11.trans (st12)
  have KK : Keep h0 T12.heap [] := (K9.ext E10).trans K12 (fun x hx => Or.inr (by rw [List.mem_singleton.mp hx, g10]; exact K9.1))
  obtain ⟨fs, hr, hrun, hended, hW, hsame⟩ := X12.leave (v := some (.ref ln)) (fun h => by rw [Bd.returns] at h; cases h)
  refine ⟨_, _, pre12.trans ?_, hrun, hended, _, _, rfl, ?_, ⟨_, rfl⟩, hW, hsame.mono (by decide) (by decide)⟩
  · exact X12.areturnOut hx rfl Bd.returns rfl (hb hby d33_38) hr
  · exact ⟨ln, rfl, N12, KK⟩
theorem d26_0 : decode jdk_40_method_47_code 0 = .ok (.aload_n 0, 1) := by decide +kernel
theorem d26_1 : decode jdk_40_method_47_code 1 = .ok (.arraylength, 1) := by decide +kernel
theorem d26_2 : decode jdk_40_method_47_code 2 = .ok (.tableswitch 57 0 2 #[26, 32, 43], 26) := by decide +kernel
theorem d26_45 : decode jdk_40_method_47_code 45 = .ok (.new 96, 3) := by decide +kernel
theorem d26_48 : decode jdk_40_method_47_code 48 = .ok (.dup, 1) := by decide +kernel
theorem d26_49 : decode jdk_40_method_47_code 49 = .ok (.aload_n 0, 1) := by decide +kernel
theorem d26_50 : decode jdk_40_method_47_code 50 = .ok (.iconst 0, 1) := by decide +kernel
theorem d26_51 : decode jdk_40_method_47_code 51 = .ok (.aaload, 1) := by decide +kernel
theorem d26_52 : decode jdk_40_method_47_code 52 = .ok (.aload_n 0, 1) := by decide +kernel
theorem d26_53 : decode jdk_40_method_47_code 53 = .ok (.iconst 1, 1) := by decide +kernel
theorem d26_54 : decode jdk_40_method_47_code 54 = .ok (.aaload, 1) := by decide +kernel
theorem d26_55 : decode jdk_40_method_47_code 55 = .ok (.invokespecial 100, 3) := by decide +kernel
theorem d26_58 : decode jdk_40_method_47_code 58 = .ok (.areturn, 1) := by decide +kernel
theorem d26_59 : decode jdk_40_method_47_code 59 = .ok (.aload_n 0, 1) := by decide +kernel
theorem d26_60 : decode jdk_40_method_47_code 60 = .ok (.invokestatic 109, 3) := by decide +kernel
theorem d26_63 : decode jdk_40_method_47_code 63 = .ok (.areturn, 1) := by decide +kernel
theorem pn_rmLo : plainName "java/util/List" = true := by first | (simp [plainName, overriddenIn]; done) | decide +kernel
theorem pd_rmLo_0 : parseMethodDescriptor "(Ljava/lang/Object;Ljava/lang/Object;)V" = some ⟨[(.object "java/lang/Object"), (.object "java/lang/Object")], none⟩ := by decide +kernel
theorem pd_rmLo_1 : parseMethodDescriptor "([Ljava/lang/Object;)Ljava/util/List;" = some ⟨[(.array (.object "java/lang/Object"))], some (.object "java/util/List")⟩ := by decide +kernel
theorem ef_rmLo (m : MethodId) (a1 : Addr) : entryFrame m #[(.ref a1)] 2 = (mkF m 0 #[.val (.ref a1), .unset] []) := by first | (simp [entryFrame, mkF, argsToLocals, Value.category]; done) | rfl
def Q_rmLo (Z : State) (a1 : Addr) (nn : Int32) (P : Addr → Prop) (h0 : Heap) (n0 : Nat) (v : Option Value) (h : Heap) (L : List Loc) : Prop := ∃ r, v = some (.ref r) ∧ Fr n0 L ∧ Keep h0 h []
set_option maxRecDepth 65536 in
set_option maxHeartbeats 40000000 in
theorem rmLo (l : Launch) (Z : State) (a0 : Array Value) (hw : ∀ d ∈ tables_1, d.before a0 Z = true) (ws : List Jvm.Cond) (a1 : Addr) (nn : Int32) (P : Addr → Prop) (h0 : Heap) (n0 : Nat) (Z0 : n0 ≤ h0.size) (B : PAr Z h0 a1 nn nn.toNatClampNeg P) (hI : ∀ x, P x → Ins Z h0 x "java/lang/Object" true) (hp1 : 2 ≤ nn.toInt) (hp2 : nn.toInt ≤ 65) :
    MetFree l (⟨"java/util/List", "of", "([Ljava/lang/Object;)Ljava/util/List;"⟩ : MethodName) (head1 (Jvm.Cond.code (⟨"java/util/List", "of", "([Ljava/lang/Object;)Ljava/util/List;"⟩ : MethodName) jdk_40_method_47_code 2 (some (.object "java/util/List")) :: ws) ({ frames := 6, cells := 2, slots := 67, locals := 77 } : Room)) (fun a U => a = #[(.ref a1)] ∧ Z.Warmed39 U.vm ∧ U.heap = h0) (fun _ _ _ _ _ => True) (fun _ U o U' => ∃ v L, o = .returned v ∧ Q_rmLo Z a1 nn P h0 n0 v U'.heap L ∧ FrameEnd U o U' L ({ frames := 6, cells := 2, slots := 67, locals := 77 } : Room).cells ({ frames := 6, cells := 2, slots := 67, locals := 77 } : Room).slots) := by
  refine MetFree.of_bodySF (plainFor_of_name pn_rmLo) hisR ?_
  intro p e s m args below meth c s₁ Bd hml0 hP hK
  obtain ⟨rfl, hZ, hh⟩ := hP
  have hx := Bd.exec
  have hby := Bd.bytes
  have hml : c.maxLocals = 2 := hml0
  have hown : s.vm.findClass "java/util/List" = some m.cls := findClass_of_methodNamed Bd.named
  have hnm := (name_of_methodNamed Bd.named Bd.method).1
  have X0 : Stand p l e ({ frames := 6, cells := 2, slots := 67, locals := 77 } : Room) s m #[(.ref a1)] below meth c s₁ [] 0 0 := Stand.of_body Bd
  have e0 : s₁.heap = h0 := by rw [← hh, Bd.state]; rfl
  have N0 := Fr.nil n0
  have pre0 : Steps p.tables e below (s₁.setTop (entryFrame m #[(.ref a1)] 2)) (s₁.setTop (mkF m 0 #[.val (.ref a1), .unset] [])) := castTop (ef_rmLo m a1) (Steps.refl _)
  obtain ⟨cb, Ab, Ob, Eb, Sb, Mb, Hb⟩ := id B
  have pre1 : Steps p.tables e below _ (s₁.setTop (mkF m 2 #[.val (.ref a1), .unset] [(.int nn)])) := pre0.trans (by
    show Steps p.tables e below (s₁.setTop (mkF m 0 #[.val (.ref a1), .unset] [])) _
    refine XS.aloadN X0.here hx rfl (hb hby d26_0) rfl rfl ?_
    show Steps p.tables e below (s₁.setTop (mkF m 1 #[.val (.ref a1), .unset] [(.ref a1)])) _
    refine X0.arraylength hx (by rw [e0]; exact Ab.1) (State.isArrayOf_alike hZ.alike Ab.2.1) (g := (mkF m 1 #[.val (.ref a1), .unset] [(.ref a1)])) rfl rfl (hb hby d26_1) _ ?_
    rw [len_of Sb Mb]
    exact Steps.refl _)
  rcases Decidable.em (nn.toInt = 2) with h2 | h2
  · have e2 : nn.toNatClampNeg = 2 := by have q := own_nat nn (by omega); omega
    have pre2 : Steps p.tables e below _ (s₁.setTop (mkF m 45 #[.val (.ref a1), .unset] [])) := pre1.trans (by
      show Steps p.tables e below (s₁.setTop (mkF m 2 #[.val (.ref a1), .unset] [(.int nn)])) _
      refine XS.tswIn X0.here hx rfl (o := 43) (pc0 := 2) (pc' := 45) rfl (hb hby d26_2) rfl (by rw [h2]; decide) (by rw [h2]; decide) (by decide) (by decide) ?_
      exact Steps.refl _)
    obtain ⟨T3, h3, X3, e3, E3, A3, D3, -, st3⟩ := newO X0 hx hZ hown (hw _ (List.mem_of_getElem? (i := 204) rfl)) (hw _ (List.mem_of_getElem? (i := 205) rfl)) (hw _ (List.mem_of_getElem? (i := 206) rfl)) e0 (g := (mkF m 45 #[.val (.ref a1), .unset] [])) rfl (hb hby d26_45) (by decide : 0 + 1 ≤ _) (by decide : 0 + 2 ≤ _)
    obtain ⟨l2, g3⟩ : ∃ z, z = h0.size := ⟨_, rfl⟩
    rw [← g3] at A3 D3 st3
    have g_l2 : n0 ≤ l2 := Nat.le_trans Z0 (Nat.le_of_eq g3.symm)
    have Z3 : n0 ≤ h3.size := Nat.le_trans Z0 E3.1
    have pre3 : Steps p.tables e below _ (T3.setTop (mkF m 48 #[.val (.ref a1), .unset] [(.ref l2)])) := pre2.trans (st3 _ (Steps.refl _))
    have FF1 : Fld Z h3 l2 "java/util/ImmutableCollections$List12" "e0" "Ljava/lang/Object;" .null := D3 (Or.inr (hw _ (List.mem_of_getElem? (i := 230) rfl))) (ty := (.object "java/lang/Object")) (by decide)
    have FF2 : Fld Z h3 l2 "java/util/ImmutableCollections$List12" "e1" "Ljava/lang/Object;" .null := D3 (Or.inr (hw _ (List.mem_of_getElem? (i := 232) rfl))) (ty := (.object "java/lang/Object")) (by decide)
    obtain ⟨cc, Ac, -, -, Sc, -, Hc⟩ := B.ext E3 (P' := P) (fun _ q => q)
    have hin0x : ¬ ((0 : Int32) < 0 ∨ cc.slots.size ≤ (0 : Int32).toNatClampNeg) := fun q => by rw [Sc, e2] at q; exact absurd q (by decide)
    obtain ⟨y0, hat0x, -⟩ := Hc (0 : Int32).toNatClampNeg (by rw [e2]; decide)
    have hin1x : ¬ ((1 : Int32) < 0 ∨ cc.slots.size ≤ (1 : Int32).toNatClampNeg) := fun q => by rw [Sc, e2] at q; exact absurd q (by decide)
    obtain ⟨y1, hat1x, -⟩ := Hc (1 : Int32).toNatClampNeg (by rw [e2]; decide)
    have pre4 : Steps p.tables e below _ (T3.setTop (mkF m 51 #[.val (.ref a1), .unset] [(.int (0 : Int32)), (.ref a1), (.ref l2), (.ref l2)])) := pre3.trans (by
      show Steps p.tables e below (T3.setTop (mkF m 48 #[.val (.ref a1), .unset] [(.ref l2)])) _
      refine XS.dup X3.here hx rfl (hb hby d26_48) rfl rfl ?_
      show Steps p.tables e below (T3.setTop (mkF m 49 #[.val (.ref a1), .unset] [(.ref l2), (.ref l2)])) _
      refine XS.aloadN X3.here hx rfl (hb hby d26_49) rfl rfl ?_
      show Steps p.tables e below (T3.setTop (mkF m 50 #[.val (.ref a1), .unset] [(.ref a1), (.ref l2), (.ref l2)])) _
      refine XS.iconst X3.here hx rfl (hb hby d26_50) ?_
      exact Steps.refl _)
    have pre5 : Steps p.tables e below _ (T3.setTop (mkF m 52 #[.val (.ref a1), .unset] [(.ref y0), (.ref l2), (.ref l2)])) := pre4.trans (X3.aaload hx (j := (0 : Int32)) (v := (.ref y0)) (by rw [e3]; exact Ac.1) (State.isArrayOf_alike hZ.alike Ac.2.1) rfl Ac.2.2 hin0x hat0x (g := (mkF m 51 #[.val (.ref a1), .unset] [(.int (0 : Int32)), (.ref a1), (.ref l2), (.ref l2)])) rfl rfl (hb hby d26_51) _ (Steps.refl _))
    have pre6 : Steps p.tables e below _ (T3.setTop (mkF m 54 #[.val (.ref a1), .unset] [(.int (1 : Int32)), (.ref a1), (.ref y0), (.ref l2), (.ref l2)])) := pre5.trans (by
      show Steps p.tables e below (T3.setTop (mkF m 52 #[.val (.ref a1), .unset] [(.ref y0), (.ref l2), (.ref l2)])) _
      refine XS.aloadN X3.here hx rfl (hb hby d26_52) rfl rfl ?_
      show Steps p.tables e below (T3.setTop (mkF m 53 #[.val (.ref a1), .unset] [(.ref a1), (.ref y0), (.ref l2), (.ref l2)])) _
      refine XS.iconst X3.here hx rfl (hb hby d26_53) ?_
      exact Steps.refl _)
    have pre7 : Steps p.tables e below _ (T3.setTop (mkF m 55 #[.val (.ref a1), .unset] [(.ref y1), (.ref y0), (.ref l2), (.ref l2)])) := pre6.trans (X3.aaload hx (j := (1 : Int32)) (v := (.ref y1)) (by rw [e3]; exact Ac.1) (State.isArrayOf_alike hZ.alike Ac.2.1) rfl Ac.2.2 hin1x hat1x (g := (mkF m 54 #[.val (.ref a1), .unset] [(.int (1 : Int32)), (.ref a1), (.ref y0), (.ref l2), (.ref l2)])) rfl rfl (hb hby d26_54) _ (Steps.refl _))
    obtain ⟨_, _, ⟨T8, L8, k8, n8⟩, -, X8, ⟨Lc8, hQ8, l8, y8, z8⟩, st8⟩ := X3.specialBack hx (y := (⟨"java/util/ImmutableCollections$List12", "<init>", "(Ljava/lang/Object;Ljava/lang/Object;)V"⟩ : MethodName)) rfl hown (mvT hZ (hw _ (List.mem_of_getElem? (i := 207) rfl))) (mvT hZ (hw _ (List.mem_of_getElem? (i := 208) rfl))) (mvT hZ (hw _ (List.mem_of_getElem? (i := 210) rfl))) (by decide) (backOf (W := 1) (rm12 l Z a0 hw [] l2 y0 y1 h3 n0 Z3 A3 FF1 FF2 g_l2) hZ (hw _ (List.mem_of_getElem? (i := 210) rfl)) (hw _ (List.mem_of_getElem? (i := 206) rfl)) (by decide) (by decide)) (g := (mkF m 55 #[.val (.ref a1), .unset] [(.ref y1), (.ref y0), (.ref l2), (.ref l2)])) rfl (by rw [hml]; rfl) (Steps.refl _) (a := l2) (argsL := [(.ref y0), (.ref y1)]) (rest := [(.ref l2)]) (lenOf pd_rmLo_0 rfl) rfl (by show 2 * 0 + _ ≤ _; exact Nat.le_of_eq rfl) (hb hby d26_55) (fun _ _ => ⟨rfl, e3, (by decide : 1 + 0 ≤ _), (by decide : 2 + 0 ≤ _)⟩)
    dsimp only [Pt.U, Pt.locs, Pt.cells, Pt.slots] at X8 l8 y8 z8 st8 hQ8
    subst l8 y8 z8
    obtain ⟨rfl, N8q, K8⟩ := hQ8
    have N8 := Fr.app N0 N8q
    have pre8 : Steps p.tables e below _ (T8.setTop (mkF m 58 #[.val (.ref a1), .unset] [(.ref l2)])) := pre7.trans (st8)
    have KK : Keep h0 T8.heap [] := ((Keep.refl h0 []).ext E3).trans K8 (fun x hx => Or.inr (by rw [List.mem_singleton.mp hx]; exact Nat.le_of_eq g3.symm))
    obtain ⟨fs, hr, hrun, hended, hW, hsame⟩ := (X8.more (show 1 ≤ 2 by decide) (show 2 ≤ 67 by decide)).leave (v := some (.ref l2)) (fun h => by rw [Bd.returns] at h; cases h)
    refine ⟨_, _, pre8.trans ?_, hrun, hended, _, _, rfl, ?_, ⟨_, rfl⟩, hW, hsame.mono (by decide) (by decide)⟩
    · exact (X8.more (show 1 ≤ 2 by decide) (show 2 ≤ 67 by decide)).areturnOut hx rfl Bd.returns rfl (hb hby d26_58) hr
    · exact ⟨l2, rfl, N8, KK⟩
  · have h3 := h2
    have pre9 : Steps p.tables e below _ (s₁.setTop (mkF m 60 #[.val (.ref a1), .unset] [(.ref a1)])) := pre1.trans (by
      show Steps p.tables e below (s₁.setTop (mkF m 2 #[.val (.ref a1), .unset] [(.int nn)])) _
      refine XS.tswOut X0.here hx rfl (pc0 := 2) (pc' := 59) rfl (hb hby d26_2) rfl (Or.inr (by omega)) (by decide) (by decide) ?_
      show Steps p.tables e below (s₁.setTop (mkF m 59 #[.val (.ref a1), .unset] [])) _
      refine XS.aloadN X0.here hx rfl (hb hby d26_59) rfl rfl ?_
      exact Steps.refl _)
    obtain ⟨_, _, ⟨T10, L10, k10, n10⟩, -, X10, ⟨Lc10, hQ10, l10, y10, z10⟩, st10⟩ := Jvm.LawKit.callS X0 hx (y := (⟨"java/util/ImmutableCollections", "listFromArray", "([Ljava/lang/Object;)Ljava/util/List;"⟩ : MethodName)) hown (mvT hZ (hw _ (List.mem_of_getElem? (i := 247) rfl))) (mvT hZ (hw _ (List.mem_of_getElem? (i := 248) rfl))) (mvT hZ (hw _ (List.mem_of_getElem? (i := 47) rfl))) (mvT hZ (hw _ (List.mem_of_getElem? (i := 249) rfl))) (by decide) (backOf (W := 0) (rmLF l Z a0 hw [] a1 nn P h0 n0 Z0 B hI hp1 hp2) hZ (hw _ (List.mem_of_getElem? (i := 249) rfl)) (hw _ (List.mem_of_getElem? (i := 47) rfl)) (by decide) (by decide)) (g := (mkF m 60 #[.val (.ref a1), .unset] [(.ref a1)])) rfl (by rw [hml]; rfl) (argsL := [(.ref a1)]) (rest := []) (lenOf pd_rmLo_1 rfl) rfl (by show 2 * 0 + _ ≤ _; exact Nat.le_of_eq rfl) (hb hby d26_60) (fun _ _ => ⟨rfl, e0, (by decide : 0 + 2 ≤ _), (by decide : 0 + 67 ≤ _)⟩)
    dsimp only [Pt.U, Pt.locs, Pt.cells, Pt.slots] at X10 l10 y10 z10 st10 hQ10
    subst l10 y10 z10
    obtain ⟨r, rfl, N10q, K10⟩ := hQ10
    have N10 := Fr.app N0 N10q
    have pre10 : Steps p.tables e below _ (T10.setTop (mkF m 63 #[.val (.ref a1), .unset] [(.ref r)])) := pre9.trans (st10 _ (Steps.refl _))
    obtain ⟨fs, hr, hrun, hended, hW, hsame⟩ := X10.leave (v := some (.ref r)) (fun h => by rw [Bd.returns] at h; cases h)
    refine ⟨_, _, pre10.trans ?_, hrun, hended, _, _, rfl, ?_, ⟨_, rfl⟩, hW, hsame.mono (by decide) (by decide)⟩
    · exact X10.areturnOut hx rfl Bd.returns rfl (hb hby d26_63) hr
    · exact ⟨r, rfl, N10, K10⟩
theorem d7_0 : decode jdk_56_method_3_code 0 = .ok (.aload_n 0, 1) := by decide +kernel
theorem d7_1 : decode jdk_56_method_3_code 1 = .ok (.instanceof 10, 3) := by decide +kernel
theorem d7_4 : decode jdk_56_method_3_code 4 = .ok (.ifCond .ne 22, 3) := by decide +kernel
theorem d7_7 : decode jdk_56_method_3_code 7 = .ok (.aload_n 0, 1) := by decide +kernel
theorem d7_8 : decode jdk_56_method_3_code 8 = .ok (.instanceof 12, 3) := by decide +kernel
theorem d7_11 : decode jdk_56_method_3_code 11 = .ok (.ifCond .eq 20, 3) := by decide +kernel
theorem d7_31 : decode jdk_56_method_3_code 31 = .ok (.aload_n 0, 1) := by decide +kernel
theorem d7_32 : decode jdk_56_method_3_code 32 = .ok (.invokeinterface 20 1, 5) := by decide +kernel
theorem d7_37 : decode jdk_56_method_3_code 37 = .ok (.ifCond .eq 7, 3) := by decide +kernel
theorem d7_40 : decode jdk_56_method_3_code 40 = .ok (.invokestatic 26, 3) := by decide +kernel
theorem d7_43 : decode jdk_56_method_3_code 43 = .ok (.areturn, 1) := by decide +kernel
theorem d7_44 : decode jdk_56_method_3_code 44 = .ok (.aload_n 0, 1) := by decide +kernel
theorem d7_45 : decode jdk_56_method_3_code 45 = .ok (.invokeinterface 30 1, 5) := by decide +kernel
theorem d7_50 : decode jdk_56_method_3_code 50 = .ok (.invokestatic 34, 3) := by decide +kernel
theorem d7_53 : decode jdk_56_method_3_code 53 = .ok (.areturn, 1) := by decide +kernel
theorem pn_rmC0 : plainName "java/util/ImmutableCollections" = true := by first | (simp [plainName, overriddenIn]; done) | decide +kernel
theorem pd_rmC0_0 : parseMethodDescriptor "()Z" = some ⟨[], some .boolean⟩ := by decide +kernel
theorem pd_rmC0_1 : parseMethodDescriptor "()Ljava/util/List;" = some ⟨[], some (.object "java/util/List")⟩ := by decide +kernel
theorem ef_rmC0 (m : MethodId) (a1 : Addr) : entryFrame m #[(.ref a1)] 2 = (mkF m 0 #[.val (.ref a1), .unset] []) := by first | (simp [entryFrame, mkF, argsToLocals, Value.category]; done) | rfl
def Q_rmC0 (Z : State) (a1 : Addr) (el : Addr) (h0 : Heap) (n0 : Nat) (v : Option Value) (h : Heap) (L : List Loc) : Prop := v = some (.ref el) ∧ Fr n0 L ∧ h = h0
set_option maxRecDepth 65536 in
set_option maxHeartbeats 40000000 in
theorem rmC0 (l : Launch) (Z : State) (a0 : Array Value) (hw : ∀ d ∈ tables_1, d.before a0 Z = true) (ws : List Jvm.Cond) (a1 : Addr) (el : Addr) (h0 : Heap) (n0 : Nat) (Z0 : n0 ≤ h0.size) (E : own_E Z h0 a1) (SE : Sta Z h0 "java/util/ImmutableCollections" "EMPTY_LIST" "Ljava/util/ImmutableCollections$ListN;" (.ref el)) :
    MetFree l (⟨"java/util/ImmutableCollections", "listCopy", "(Ljava/util/Collection;)Ljava/util/List;"⟩ : MethodName) (head1 (Jvm.Cond.code (⟨"java/util/ImmutableCollections", "listCopy", "(Ljava/util/Collection;)Ljava/util/List;"⟩ : MethodName) jdk_56_method_3_code 2 (some (.object "java/util/List")) :: ws) ({ frames := 1, cells := 0, slots := 0, locals := 12 } : Room)) (fun a U => a = #[(.ref a1)] ∧ Z.Warmed39 U.vm ∧ U.heap = h0) (fun _ _ _ _ _ => True) (fun _ U o U' => ∃ v L, o = .returned v ∧ Q_rmC0 Z a1 el h0 n0 v U'.heap L ∧ FrameEnd U o U' L ({ frames := 1, cells := 0, slots := 0, locals := 12 } : Room).cells ({ frames := 1, cells := 0, slots := 0, locals := 12 } : Room).slots) := by
  refine MetFree.of_bodySF (plainFor_of_name pn_rmC0) hisR ?_
  intro p e s m args below meth c s₁ Bd hml0 hP hK
  obtain ⟨rfl, hZ, hh⟩ := hP
  have hx := Bd.exec
  have hby := Bd.bytes
  have hml : c.maxLocals = 2 := hml0
  have hown : s.vm.findClass "java/util/ImmutableCollections" = some m.cls := findClass_of_methodNamed Bd.named
  have hnm := (name_of_methodNamed Bd.named Bd.method).1
  have X0 : Stand p l e ({ frames := 1, cells := 0, slots := 0, locals := 12 } : Room) s m #[(.ref a1)] below meth c s₁ [] 0 0 := Stand.of_body Bd
  have e0 : s₁.heap = h0 := by rw [← hh, Bd.state]; rfl
  have N0 := Fr.nil n0
  have pre0 : Steps p.tables e below (s₁.setTop (entryFrame m #[(.ref a1)] 2)) (s₁.setTop (mkF m 0 #[.val (.ref a1), .unset] [])) := castTop (ef_rmC0 m a1) (Steps.refl _)
  have pre1 : Steps p.tables e below _ (s₁.setTop (mkF m 1 #[.val (.ref a1), .unset] [(.ref a1)])) := pre0.trans (by
    show Steps p.tables e below (s₁.setTop (mkF m 0 #[.val (.ref a1), .unset] [])) _
    refine XS.aloadN X0.here hx rfl (hb hby d7_0) rfl rfl ?_
    exact Steps.refl _)
  obtain ⟨T2, X2, e2, st2⟩ := instNo X0 hx hZ hown (hw _ (List.mem_of_getElem? (i := 49) rfl)) e0 E.1 (own_noi12 hw) (g := (mkF m 1 #[.val (.ref a1), .unset] [(.ref a1)])) rfl rfl (hb hby d7_1)
  have pre2 : Steps p.tables e below _ (T2.setTop (mkF m 4 #[.val (.ref a1), .unset] [(.int (0 : Int32))])) := pre1.trans (st2 _ (Steps.refl _))
  have pre3 : Steps p.tables e below _ (T2.setTop (mkF m 8 #[.val (.ref a1), .unset] [(.ref a1)])) := pre2.trans (by
    show Steps p.tables e below (T2.setTop (mkF m 4 #[.val (.ref a1), .unset] [(.int (0 : Int32))])) _
    refine XS.ifNo X2.here hx rfl (hb hby d7_4) rfl ((if0 _ _).trans (teq (rfl : (0 : Int32) = 0)).2) ?_
    show Steps p.tables e below (T2.setTop (mkF m 7 #[.val (.ref a1), .unset] [])) _
    refine XS.aloadN X2.here hx rfl (hb hby d7_7) rfl rfl ?_
    exact Steps.refl _)
  obtain ⟨T4, X4, e4, st4⟩ := instNo X2 hx hZ hown (hw _ (List.mem_of_getElem? (i := 54) rfl)) e2 E.1 (own_noiN hw) (g := (mkF m 8 #[.val (.ref a1), .unset] [(.ref a1)])) rfl rfl (hb hby d7_8)
  have pre4 : Steps p.tables e below _ (T4.setTop (mkF m 11 #[.val (.ref a1), .unset] [(.int (0 : Int32))])) := pre3.trans (st4 _ (Steps.refl _))
  have pre5 : Steps p.tables e below _ (T4.setTop (mkF m 32 #[.val (.ref a1), .unset] [(.ref a1)])) := pre4.trans (by
    show Steps p.tables e below (T4.setTop (mkF m 11 #[.val (.ref a1), .unset] [(.int (0 : Int32))])) _
    refine XS.ifYes X4.here hx rfl (pc0 := 11) (pc' := 31) rfl (hb hby d7_11) rfl ((if0 _ _).trans (teq (rfl : (0 : Int32) = 0)).1) (by decide) (by decide) ?_
    show Steps p.tables e below (T4.setTop (mkF m 31 #[.val (.ref a1), .unset] [])) _
    refine XS.aloadN X4.here hx rfl (hb hby d7_31) rfl rfl ?_
    exact Steps.refl _)
  obtain ⟨cq6, kq6, q6a, q6b, q6c⟩ := isOf hZ e4 E.1
  obtain ⟨_, _, ⟨T6, L6, k6, n6⟩, -, X6, ⟨Lc6, hQ6, l6, y6, z6⟩, st6⟩ := X4.interfaceBack hx (C := "java/util/ArrayList") (xi := (⟨"java/util/Collection", "isEmpty", "()Z"⟩ : MethodName)) (y := (⟨"java/util/ArrayList", "isEmpty", "()Z"⟩ : MethodName)) hown (mvT hZ (hw _ (List.mem_of_getElem? (i := 55) rfl))) (mvT hZ (hw _ (List.mem_of_getElem? (i := 56) rfl))) (mvT hZ (hw _ (List.mem_of_getElem? (i := 57) rfl))) (mvT hZ (hw _ (List.mem_of_getElem? (i := 58) rfl))) (mvT hZ (hw _ (List.mem_of_getElem? (i := 59) rfl))) (mvT hZ (hw _ (List.mem_of_getElem? (i := 60) rfl))) (mvT hZ (hw _ (List.mem_of_getElem? (i := 61) rfl))) (mvT hZ (hw _ (List.mem_of_getElem? (i := 62) rfl))) (by decide) (backOf (W := 0) (rmIE l Z a0 hw [] a1 0 h0 n0 Z0 E.2) hZ (hw _ (List.mem_of_getElem? (i := 63) rfl)) (hw _ (List.mem_of_getElem? (i := 4) rfl)) (by decide) (by decide)) q6a q6b q6c (g := (mkF m 32 #[.val (.ref a1), .unset] [(.ref a1)])) rfl (by rw [hml]; rfl) (Steps.refl _) (argsL := []) (rest := []) (lenOf pd_rmC0_0 rfl) rfl (by show 2 * 0 + _ ≤ _; exact Nat.le_of_eq rfl) (hb hby d7_32) (fun _ _ => ⟨rfl, e4, (by decide : 0 + 0 ≤ _), (by decide : 0 + 0 ≤ _)⟩)
  dsimp only [Pt.U, Pt.locs, Pt.cells, Pt.slots] at X6 l6 y6 z6 st6 hQ6
  subst l6 y6 z6
  obtain ⟨rfl, N6q, hh6⟩ := hQ6
  have N6 := Fr.app N0 N6q
  have pre6 : Steps p.tables e below _ (T6.setTop (mkF m 37 #[.val (.ref a1), .unset] [(.int (own_ie_0_3 0))])) := pre5.trans (st6)
  have pre7 : Steps p.tables e below _ (T6.setTop (mkF m 40 #[.val (.ref a1), .unset] [])) := pre6.trans (by
    show Steps p.tables e below (T6.setTop (mkF m 37 #[.val (.ref a1), .unset] [(.int (own_ie_0_3 0))])) _
    refine XS.ifNo X6.here hx rfl (hb hby d7_37) rfl ((if0 _ _).trans (feq own_ie0).1) ?_
    exact Steps.refl _)
  obtain ⟨_, _, ⟨T8, L8, k8, n8⟩, -, X8, ⟨Lc8, hQ8, l8, y8, z8⟩, st8⟩ := Jvm.LawKit.callS X6 hx (y := (⟨"java/util/List", "of", "()Ljava/util/List;"⟩ : MethodName)) hown (mvT hZ (hw _ (List.mem_of_getElem? (i := 66) rfl))) (mvT hZ (hw _ (List.mem_of_getElem? (i := 67) rfl))) (mvT hZ (hw _ (List.mem_of_getElem? (i := 43) rfl))) (mvT hZ (hw _ (List.mem_of_getElem? (i := 68) rfl))) (by decide) (backOf (W := 0) (rmL0 l Z a0 hw [] el h0 n0 Z0 SE) hZ (hw _ (List.mem_of_getElem? (i := 68) rfl)) (hw _ (List.mem_of_getElem? (i := 43) rfl)) (by decide) (by decide)) (g := (mkF m 40 #[.val (.ref a1), .unset] [])) rfl (by rw [hml]; rfl) (argsL := []) (rest := []) (lenOf pd_rmC0_1 rfl) rfl (by show 2 * 0 + _ ≤ _; exact Nat.le_of_eq rfl) (hb hby d7_40) (fun _ _ => ⟨rfl, hh6, (by decide : 0 + 0 ≤ _), (by decide : 0 + 0 ≤ _)⟩)
  dsimp only [Pt.U, Pt.locs, Pt.cells, Pt.slots] at X8 l8 y8 z8 st8 hQ8
  subst l8 y8 z8
  obtain ⟨rfl, N8q, hh8⟩ := hQ8
  have N8 := Fr.app N6 N8q
  have pre8 : Steps p.tables e below _ (T8.setTop (mkF m 43 #[.val (.ref a1), .unset] [(.ref el)])) := pre7.trans (st8 _ (Steps.refl _))
  obtain ⟨fs, hr, hrun, hended, hW, hsame⟩ := X8.leave (v := some (.ref el)) (fun h => by rw [Bd.returns] at h; cases h)
  refine ⟨_, _, pre8.trans ?_, hrun, hended, _, _, rfl, ?_, ⟨_, rfl⟩, hW, hsame.mono (by decide) (by decide)⟩
  · exact X8.areturnOut hx rfl Bd.returns rfl (hb hby d7_43) hr
  · exact ⟨rfl, N8, hh8⟩
theorem pn_rmCn : plainName "java/util/ImmutableCollections" = true := by first | (simp [plainName, overriddenIn]; done) | decide +kernel
theorem pd_rmCn_0 : parseMethodDescriptor "()Z" = some ⟨[], some .boolean⟩ := by decide +kernel
theorem pd_rmCn_1 : parseMethodDescriptor "()[Ljava/lang/Object;" = some ⟨[], some (.array (.object "java/lang/Object"))⟩ := by decide +kernel
theorem pd_rmCn_2 : parseMethodDescriptor "([Ljava/lang/Object;)Ljava/util/List;" = some ⟨[(.array (.object "java/lang/Object"))], some (.object "java/util/List")⟩ := by decide +kernel
theorem ef_rmCn (m : MethodId) (a1 : Addr) : entryFrame m #[(.ref a1)] 2 = (mkF m 0 #[.val (.ref a1), .unset] []) := by first | (simp [entryFrame, mkF, argsToLocals, Value.category]; done) | rfl
def Q_rmCn (Z : State) (a1 : Addr) (ar mr : Addr) (nn mc : Int32) (P : Addr → Prop) (h0 : Heap) (n0 : Nat) (v : Option Value) (h : Heap) (L : List Loc) : Prop := ∃ r, v = some (.ref r) ∧ Fr n0 L ∧ Keep h0 h []
set_option maxRecDepth 65536 in
set_option maxHeartbeats 40000000 in
theorem rmCn (l : Launch) (Z : State) (a0 : Array Value) (hw : ∀ d ∈ tables_1, d.before a0 Z = true) (ws : List Jvm.Cond) (a1 : Addr) (ar mr : Addr) (nn mc : Int32) (P : Addr → Prop) (h0 : Heap) (n0 : Nat) (Z0 : n0 ≤ h0.size) (A : Ali Z h0 a1 (.ref ar) nn mc) (B : PAr Z h0 ar nn nn.toNatClampNeg P) (hI : ∀ x, P x → Ins Z h0 x "java/lang/Object" true) (M : Mir Z "[Ljava/lang/Object;" mr) (hp1 : 2 ≤ nn.toInt) (hp2 : nn.toInt ≤ 65) :
    MetFree l (⟨"java/util/ImmutableCollections", "listCopy", "(Ljava/util/Collection;)Ljava/util/List;"⟩ : MethodName) (head1 (Jvm.Cond.code (⟨"java/util/ImmutableCollections", "listCopy", "(Ljava/util/Collection;)Ljava/util/List;"⟩ : MethodName) jdk_56_method_3_code 2 (some (.object "java/util/List")) :: ws) ({ frames := 7, cells := 3, slots := 132, locals := 90 } : Room)) (fun a U => a = #[(.ref a1)] ∧ Z.Warmed39 U.vm ∧ U.heap = h0) (fun _ _ _ _ _ => True) (fun _ U o U' => ∃ v L, o = .returned v ∧ Q_rmCn Z a1 ar mr nn mc P h0 n0 v U'.heap L ∧ FrameEnd U o U' L ({ frames := 7, cells := 3, slots := 132, locals := 90 } : Room).cells ({ frames := 7, cells := 3, slots := 132, locals := 90 } : Room).slots) := by
  refine MetFree.of_bodySF (plainFor_of_name pn_rmCn) hisR ?_
  intro p e s m args below meth c s₁ Bd hml0 hP hK
  obtain ⟨rfl, hZ, hh⟩ := hP
  have hx := Bd.exec
  have hby := Bd.bytes
  have hml : c.maxLocals = 2 := hml0
  have hown : s.vm.findClass "java/util/ImmutableCollections" = some m.cls := findClass_of_methodNamed Bd.named
  have hnm := (name_of_methodNamed Bd.named Bd.method).1
  have X0 : Stand p l e ({ frames := 7, cells := 3, slots := 132, locals := 90 } : Room) s m #[(.ref a1)] below meth c s₁ [] 0 0 := Stand.of_body Bd
  have e0 : s₁.heap = h0 := by rw [← hh, Bd.state]; rfl
  have N0 := Fr.nil n0
  have pre0 : Steps p.tables e below (s₁.setTop (entryFrame m #[(.ref a1)] 2)) (s₁.setTop (mkF m 0 #[.val (.ref a1), .unset] [])) := castTop (ef_rmCn m a1) (Steps.refl _)
  have hnz : ¬ nn = 0 := fun q => by rw [q] at hp1; exact absurd hp1 (by decide)
  have pre1 : Steps p.tables e below _ (s₁.setTop (mkF m 1 #[.val (.ref a1), .unset] [(.ref a1)])) := pre0.trans (by
    show Steps p.tables e below (s₁.setTop (mkF m 0 #[.val (.ref a1), .unset] [])) _
    refine XS.aloadN X0.here hx rfl (hb hby d7_0) rfl rfl ?_
    exact Steps.refl _)
  obtain ⟨T2, X2, e2, st2⟩ := instNo X0 hx hZ hown (hw _ (List.mem_of_getElem? (i := 49) rfl)) e0 A.1 (own_noi12 hw) (g := (mkF m 1 #[.val (.ref a1), .unset] [(.ref a1)])) rfl rfl (hb hby d7_1)
  have pre2 : Steps p.tables e below _ (T2.setTop (mkF m 4 #[.val (.ref a1), .unset] [(.int (0 : Int32))])) := pre1.trans (st2 _ (Steps.refl _))
  have pre3 : Steps p.tables e below _ (T2.setTop (mkF m 8 #[.val (.ref a1), .unset] [(.ref a1)])) := pre2.trans (by
    show Steps p.tables e below (T2.setTop (mkF m 4 #[.val (.ref a1), .unset] [(.int (0 : Int32))])) _
    refine XS.ifNo X2.here hx rfl (hb hby d7_4) rfl ((if0 _ _).trans (teq (rfl : (0 : Int32) = 0)).2) ?_
    show Steps p.tables e below (T2.setTop (mkF m 7 #[.val (.ref a1), .unset] [])) _
    refine XS.aloadN X2.here hx rfl (hb hby d7_7) rfl rfl ?_
    exact Steps.refl _)
  obtain ⟨T4, X4, e4, st4⟩ := instNo X2 hx hZ hown (hw _ (List.mem_of_getElem? (i := 54) rfl)) e2 A.1 (own_noiN hw) (g := (mkF m 8 #[.val (.ref a1), .unset] [(.ref a1)])) rfl rfl (hb hby d7_8)
  have pre4 : Steps p.tables e below _ (T4.setTop (mkF m 11 #[.val (.ref a1), .unset] [(.int (0 : Int32))])) := pre3.trans (st4 _ (Steps.refl _))
  have pre5 : Steps p.tables e below _ (T4.setTop (mkF m 32 #[.val (.ref a1), .unset] [(.ref a1)])) := pre4.trans (by
    show Steps p.tables e below (T4.setTop (mkF m 11 #[.val (.ref a1), .unset] [(.int (0 : Int32))])) _
    refine XS.ifYes X4.here hx rfl (pc0 := 11) (pc' := 31) rfl (hb hby d7_11) rfl ((if0 _ _).trans (teq (rfl : (0 : Int32) = 0)).1) (by decide) (by decide) ?_
    show Steps p.tables e below (T4.setTop (mkF m 31 #[.val (.ref a1), .unset] [])) _
    refine XS.aloadN X4.here hx rfl (hb hby d7_31) rfl rfl ?_
    exact Steps.refl _)
  obtain ⟨cq6, kq6, q6a, q6b, q6c⟩ := isOf hZ e4 A.1
  obtain ⟨_, _, ⟨T6, L6, k6, n6⟩, -, X6, ⟨Lc6, hQ6, l6, y6, z6⟩, st6⟩ := X4.interfaceBack hx (C := "java/util/ArrayList") (xi := (⟨"java/util/Collection", "isEmpty", "()Z"⟩ : MethodName)) (y := (⟨"java/util/ArrayList", "isEmpty", "()Z"⟩ : MethodName)) hown (mvT hZ (hw _ (List.mem_of_getElem? (i := 55) rfl))) (mvT hZ (hw _ (List.mem_of_getElem? (i := 56) rfl))) (mvT hZ (hw _ (List.mem_of_getElem? (i := 57) rfl))) (mvT hZ (hw _ (List.mem_of_getElem? (i := 58) rfl))) (mvT hZ (hw _ (List.mem_of_getElem? (i := 59) rfl))) (mvT hZ (hw _ (List.mem_of_getElem? (i := 60) rfl))) (mvT hZ (hw _ (List.mem_of_getElem? (i := 61) rfl))) (mvT hZ (hw _ (List.mem_of_getElem? (i := 62) rfl))) (by decide) (backOf (W := 0) (rmIE l Z a0 hw [] a1 nn h0 n0 Z0 A.2.2.1) hZ (hw _ (List.mem_of_getElem? (i := 63) rfl)) (hw _ (List.mem_of_getElem? (i := 4) rfl)) (by decide) (by decide)) q6a q6b q6c (g := (mkF m 32 #[.val (.ref a1), .unset] [(.ref a1)])) rfl (by rw [hml]; rfl) (Steps.refl _) (argsL := []) (rest := []) (lenOf pd_rmCn_0 rfl) rfl (by show 2 * 0 + _ ≤ _; exact Nat.le_of_eq rfl) (hb hby d7_32) (fun _ _ => ⟨rfl, e4, (by decide : 0 + 0 ≤ _), (by decide : 0 + 0 ≤ _)⟩)
  dsimp only [Pt.U, Pt.locs, Pt.cells, Pt.slots] at X6 l6 y6 z6 st6 hQ6
  subst l6 y6 z6
  obtain ⟨rfl, N6q, hh6⟩ := hQ6
  have N6 := Fr.app N0 N6q
  have pre6 : Steps p.tables e below _ (T6.setTop (mkF m 37 #[.val (.ref a1), .unset] [(.int (own_ie_0_3 nn))])) := pre5.trans (st6)
  have pre7 : Steps p.tables e below _ (T6.setTop (mkF m 45 #[.val (.ref a1), .unset] [(.ref a1)])) := pre6.trans (by
    show Steps p.tables e below (T6.setTop (mkF m 37 #[.val (.ref a1), .unset] [(.int (own_ie_0_3 nn))])) _
    refine XS.ifYes X6.here hx rfl (pc0 := 37) (pc' := 44) rfl (hb hby d7_37) rfl ((if0 _ _).trans (teq (own_ie1 nn hnz)).1) (by decide) (by decide) ?_
    show Steps p.tables e below (T6.setTop (mkF m 44 #[.val (.ref a1), .unset] [])) _
    refine XS.aloadN X6.here hx rfl (hb hby d7_44) rfl rfl ?_
    exact Steps.refl _)
  obtain ⟨cq8, kq8, q8a, q8b, q8c⟩ := isOf hZ hh6 A.1
  obtain ⟨_, _, ⟨T8, L8, k8, n8⟩, -, X8, ⟨Lc8, hQ8, l8, y8, z8⟩, st8⟩ := X6.interfaceBack hx (C := "java/util/ArrayList") (xi := (⟨"java/util/Collection", "toArray", "()[Ljava/lang/Object;"⟩ : MethodName)) (y := (⟨"java/util/ArrayList", "toArray", "()[Ljava/lang/Object;"⟩ : MethodName)) hown (mvT hZ (hw _ (List.mem_of_getElem? (i := 170) rfl))) (mvT hZ (hw _ (List.mem_of_getElem? (i := 171) rfl))) (mvT hZ (hw _ (List.mem_of_getElem? (i := 172) rfl))) (mvT hZ (hw _ (List.mem_of_getElem? (i := 173) rfl))) (mvT hZ (hw _ (List.mem_of_getElem? (i := 174) rfl))) (mvT hZ (hw _ (List.mem_of_getElem? (i := 175) rfl))) (mvT hZ (hw _ (List.mem_of_getElem? (i := 176) rfl))) (mvT hZ (hw _ (List.mem_of_getElem? (i := 62) rfl))) (by decide) (backOf (W := 0) (rmTA l Z a0 hw [] a1 ar mr nn mc P h0 n0 Z0 A B hI M hp1 hp2) hZ (hw _ (List.mem_of_getElem? (i := 177) rfl)) (hw _ (List.mem_of_getElem? (i := 4) rfl)) (by decide) (by decide)) q8a q8b q8c (g := (mkF m 45 #[.val (.ref a1), .unset] [(.ref a1)])) rfl (by rw [hml]; rfl) (Steps.refl _) (argsL := []) (rest := []) (lenOf pd_rmCn_1 rfl) rfl (by show 2 * 0 + _ ≤ _; exact Nat.le_of_eq rfl) (hb hby d7_45) (fun _ _ => ⟨rfl, hh6, (by decide : 0 + 1 ≤ _), (by decide : 0 + 65 ≤ _)⟩)
  dsimp only [Pt.U, Pt.locs, Pt.cells, Pt.slots] at X8 l8 y8 z8 st8 hQ8
  subst l8 y8 z8
  obtain ⟨rfl, N8q, K8, PP⟩ := hQ8
  have N8 := Fr.app N6 N8q
  have pre8 : Steps p.tables e below _ (T8.setTop (mkF m 50 #[.val (.ref a1), .unset] [(.ref h0.size)])) := pre7.trans (st8)
  have Zt : n0 ≤ T8.heap.size := Nat.le_trans Z0 K8.1
  have hI2 : ∀ x, P x → Ins Z T8.heap x "java/lang/Object" true := fun x q => by
    obtain ⟨cell, cT, q1, q2, q3⟩ := hI x q
    exact ⟨cell, cT, K8.2.1 _ _ q1 nin0, q2, q3⟩
  obtain ⟨_, _, ⟨T9, L9, k9, n9⟩, -, X9, ⟨Lc9, hQ9, l9, y9, z9⟩, st9⟩ := Jvm.LawKit.callS X8 hx (y := (⟨"java/util/List", "of", "([Ljava/lang/Object;)Ljava/util/List;"⟩ : MethodName)) hown (mvT hZ (hw _ (List.mem_of_getElem? (i := 201) rfl))) (mvT hZ (hw _ (List.mem_of_getElem? (i := 202) rfl))) (mvT hZ (hw _ (List.mem_of_getElem? (i := 43) rfl))) (mvT hZ (hw _ (List.mem_of_getElem? (i := 203) rfl))) (by decide) (backOf (W := 0) (rmLo l Z a0 hw [] h0.size nn P T8.heap n0 Zt PP hI2 hp1 hp2) hZ (hw _ (List.mem_of_getElem? (i := 203) rfl)) (hw _ (List.mem_of_getElem? (i := 43) rfl)) (by decide) (by decide)) (g := (mkF m 50 #[.val (.ref a1), .unset] [(.ref h0.size)])) rfl (by rw [hml]; rfl) (argsL := [(.ref h0.size)]) (rest := []) (lenOf pd_rmCn_2 rfl) rfl (by show 2 * 0 + _ ≤ _; exact Nat.le_of_eq rfl) (hb hby d7_50) (fun _ _ => ⟨rfl, (rfl : T8.heap = T8.heap), (by decide : 1 + 2 ≤ _), (by decide : 65 + 67 ≤ _)⟩)
  dsimp only [Pt.U, Pt.locs, Pt.cells, Pt.slots] at X9 l9 y9 z9 st9 hQ9
  subst l9 y9 z9
  obtain ⟨r, rfl, N9q, K9⟩ := hQ9
  have N9 := Fr.app N8 N9q
  have pre9 : Steps p.tables e below _ (T9.setTop (mkF m 53 #[.val (.ref a1), .unset] [(.ref r)])) := pre8.trans (st9 _ (Steps.refl _))
  obtain ⟨fs, hr, hrun, hended, hW, hsame⟩ := X9.leave (v := some (.ref r)) (fun h => by rw [Bd.returns] at h; cases h)
  refine ⟨_, _, pre9.trans ?_, hrun, hended, _, _, rfl, ?_, ⟨_, rfl⟩, hW, hsame.mono (by decide) (by decide)⟩
  · exact X9.areturnOut hx rfl Bd.returns rfl (hb hby d7_53) hr
  · exact ⟨r, rfl, N9, K8.trans K9 (fun x hx => nomatch hx)⟩
theorem d6_0 : decode jdk_40_method_48_code 0 = .ok (.aload_n 0, 1) := by decide +kernel
theorem d6_1 : decode jdk_40_method_48_code 1 = .ok (.invokestatic 112, 3) := by decide +kernel
theorem d6_4 : decode jdk_40_method_48_code 4 = .ok (.areturn, 1) := by decide +kernel
theorem pn_rmCo0 : plainName "java/util/List" = true := by first | (simp [plainName, overriddenIn]; done) | decide +kernel
theorem pd_rmCo0_0 : parseMethodDescriptor "(Ljava/util/Collection;)Ljava/util/List;" = some ⟨[(.object "java/util/Collection")], some (.object "java/util/List")⟩ := by decide +kernel
theorem ef_rmCo0 (m : MethodId) (a1 : Addr) : entryFrame m #[(.ref a1)] 1 = (mkF m 0 #[.val (.ref a1)] []) := by first | (simp [entryFrame, mkF, argsToLocals, Value.category]; done) | rfl
def Q_rmCo0 (Z : State) (a1 : Addr) (el : Addr) (h0 : Heap) (n0 : Nat) (v : Option Value) (h : Heap) (L : List Loc) : Prop := v = some (.ref el) ∧ Fr n0 L ∧ h = h0
set_option maxRecDepth 65536 in
set_option maxHeartbeats 40000000 in
theorem rmCo0 (l : Launch) (Z : State) (a0 : Array Value) (hw : ∀ d ∈ tables_1, d.before a0 Z = true) (ws : List Jvm.Cond) (a1 : Addr) (el : Addr) (h0 : Heap) (n0 : Nat) (Z0 : n0 ≤ h0.size) (E : own_E Z h0 a1) (SE : Sta Z h0 "java/util/ImmutableCollections" "EMPTY_LIST" "Ljava/util/ImmutableCollections$ListN;" (.ref el)) :
    MetFree l (⟨"java/util/List", "copyOf", "(Ljava/util/Collection;)Ljava/util/List;"⟩ : MethodName) (head1 (Jvm.Cond.code (⟨"java/util/List", "copyOf", "(Ljava/util/Collection;)Ljava/util/List;"⟩ : MethodName) jdk_40_method_48_code 1 (some (.object "java/util/List")) :: ws) ({ frames := 2, cells := 0, slots := 0, locals := 25 } : Room)) (fun a U => a = #[(.ref a1)] ∧ Z.Warmed39 U.vm ∧ U.heap = h0) (fun _ _ _ _ _ => True) (fun _ U o U' => ∃ v L, o = .returned v ∧ Q_rmCo0 Z a1 el h0 n0 v U'.heap L ∧ FrameEnd U o U' L ({ frames := 2, cells := 0, slots := 0, locals := 25 } : Room).cells ({ frames := 2, cells := 0, slots := 0, locals := 25 } : Room).slots) := by
  refine MetFree.of_bodySF (plainFor_of_name pn_rmCo0) hisR ?_
  intro p e s m args below meth c s₁ Bd hml0 hP hK
  obtain ⟨rfl, hZ, hh⟩ := hP
  have hx := Bd.exec
  have hby := Bd.bytes
  have hml : c.maxLocals = 1 := hml0
  have hown : s.vm.findClass "java/util/List" = some m.cls := findClass_of_methodNamed Bd.named
  have hnm := (name_of_methodNamed Bd.named Bd.method).1
  have X0 : Stand p l e ({ frames := 2, cells := 0, slots := 0, locals := 25 } : Room) s m #[(.ref a1)] below meth c s₁ [] 0 0 := Stand.of_body Bd
  have e0 : s₁.heap = h0 := by rw [← hh, Bd.state]; rfl
  have N0 := Fr.nil n0
  have pre0 : Steps p.tables e below (s₁.setTop (entryFrame m #[(.ref a1)] 1)) (s₁.setTop (mkF m 0 #[.val (.ref a1)] [])) := castTop (ef_rmCo0 m a1) (Steps.refl _)
  have pre1 : Steps p.tables e below _ (s₁.setTop (mkF m 1 #[.val (.ref a1)] [(.ref a1)])) := pre0.trans (by
    show Steps p.tables e below (s₁.setTop (mkF m 0 #[.val (.ref a1)] [])) _
    refine XS.aloadN X0.here hx rfl (hb hby d6_0) rfl rfl ?_
    exact Steps.refl _)
  obtain ⟨_, _, ⟨T2, L2, k2, n2⟩, -, X2, ⟨Lc2, hQ2, l2, y2, z2⟩, st2⟩ := Jvm.LawKit.callS X0 hx (y := (⟨"java/util/ImmutableCollections", "listCopy", "(Ljava/util/Collection;)Ljava/util/List;"⟩ : MethodName)) hown (mvT hZ (hw _ (List.mem_of_getElem? (i := 45) rfl))) (mvT hZ (hw _ (List.mem_of_getElem? (i := 46) rfl))) (mvT hZ (hw _ (List.mem_of_getElem? (i := 47) rfl))) (mvT hZ (hw _ (List.mem_of_getElem? (i := 48) rfl))) (by decide) (backOf (W := 0) (rmC0 l Z a0 hw [] a1 el h0 n0 Z0 E SE) hZ (hw _ (List.mem_of_getElem? (i := 48) rfl)) (hw _ (List.mem_of_getElem? (i := 47) rfl)) (by decide) (by decide)) (g := (mkF m 1 #[.val (.ref a1)] [(.ref a1)])) rfl (by rw [hml]; rfl) (argsL := [(.ref a1)]) (rest := []) (lenOf pd_rmCo0_0 rfl) rfl (by show 2 * 0 + _ ≤ _; exact Nat.le_of_eq rfl) (hb hby d6_1) (fun _ _ => ⟨rfl, e0, (by decide : 0 + 0 ≤ _), (by decide : 0 + 0 ≤ _)⟩)
  dsimp only [Pt.U, Pt.locs, Pt.cells, Pt.slots] at X2 l2 y2 z2 st2 hQ2
  subst l2 y2 z2
  obtain ⟨rfl, N2q, hh2⟩ := hQ2
  have N2 := Fr.app N0 N2q
  have pre2 : Steps p.tables e below _ (T2.setTop (mkF m 4 #[.val (.ref a1)] [(.ref el)])) := pre1.trans (st2 _ (Steps.refl _))
  obtain ⟨fs, hr, hrun, hended, hW, hsame⟩ := X2.leave (v := some (.ref el)) (fun h => by rw [Bd.returns] at h; cases h)
  refine ⟨_, _, pre2.trans ?_, hrun, hended, _, _, rfl, ?_, ⟨_, rfl⟩, hW, hsame.mono (by decide) (by decide)⟩
  · exact X2.areturnOut hx rfl Bd.returns rfl (hb hby d6_4) hr
  · exact ⟨rfl, N2, hh2⟩
theorem pn_rmCon : plainName "java/util/List" = true := by first | (simp [plainName, overriddenIn]; done) | decide +kernel
theorem pd_rmCon_0 : parseMethodDescriptor "(Ljava/util/Collection;)Ljava/util/List;" = some ⟨[(.object "java/util/Collection")], some (.object "java/util/List")⟩ := by decide +kernel
theorem ef_rmCon (m : MethodId) (a1 : Addr) : entryFrame m #[(.ref a1)] 1 = (mkF m 0 #[.val (.ref a1)] []) := by first | (simp [entryFrame, mkF, argsToLocals, Value.category]; done) | rfl
def Q_rmCon (Z : State) (a1 : Addr) (ar mr : Addr) (nn mc : Int32) (P : Addr → Prop) (h0 : Heap) (n0 : Nat) (v : Option Value) (h : Heap) (L : List Loc) : Prop := ∃ r, v = some (.ref r) ∧ Fr n0 L ∧ Keep h0 h []
set_option maxRecDepth 65536 in
set_option maxHeartbeats 40000000 in
theorem rmCon (l : Launch) (Z : State) (a0 : Array Value) (hw : ∀ d ∈ tables_1, d.before a0 Z = true) (ws : List Jvm.Cond) (a1 : Addr) (ar mr : Addr) (nn mc : Int32) (P : Addr → Prop) (h0 : Heap) (n0 : Nat) (Z0 : n0 ≤ h0.size) (A : Ali Z h0 a1 (.ref ar) nn mc) (B : PAr Z h0 ar nn nn.toNatClampNeg P) (hI : ∀ x, P x → Ins Z h0 x "java/lang/Object" true) (M : Mir Z "[Ljava/lang/Object;" mr) (hp1 : 2 ≤ nn.toInt) (hp2 : nn.toInt ≤ 65) :
    MetFree l (⟨"java/util/List", "copyOf", "(Ljava/util/Collection;)Ljava/util/List;"⟩ : MethodName) (head1 (Jvm.Cond.code (⟨"java/util/List", "copyOf", "(Ljava/util/Collection;)Ljava/util/List;"⟩ : MethodName) jdk_40_method_48_code 1 (some (.object "java/util/List")) :: ws) ({ frames := 8, cells := 3, slots := 132, locals := 103 } : Room)) (fun a U => a = #[(.ref a1)] ∧ Z.Warmed39 U.vm ∧ U.heap = h0) (fun _ _ _ _ _ => True) (fun _ U o U' => ∃ v L, o = .returned v ∧ Q_rmCon Z a1 ar mr nn mc P h0 n0 v U'.heap L ∧ FrameEnd U o U' L ({ frames := 8, cells := 3, slots := 132, locals := 103 } : Room).cells ({ frames := 8, cells := 3, slots := 132, locals := 103 } : Room).slots) := by
  refine MetFree.of_bodySF (plainFor_of_name pn_rmCon) hisR ?_
  intro p e s m args below meth c s₁ Bd hml0 hP hK
  obtain ⟨rfl, hZ, hh⟩ := hP
  have hx := Bd.exec
  have hby := Bd.bytes
  have hml : c.maxLocals = 1 := hml0
  have hown : s.vm.findClass "java/util/List" = some m.cls := findClass_of_methodNamed Bd.named
  have hnm := (name_of_methodNamed Bd.named Bd.method).1
  have X0 : Stand p l e ({ frames := 8, cells := 3, slots := 132, locals := 103 } : Room) s m #[(.ref a1)] below meth c s₁ [] 0 0 := Stand.of_body Bd
  have e0 : s₁.heap = h0 := by rw [← hh, Bd.state]; rfl
  have N0 := Fr.nil n0
  have pre0 : Steps p.tables e below (s₁.setTop (entryFrame m #[(.ref a1)] 1)) (s₁.setTop (mkF m 0 #[.val (.ref a1)] [])) := castTop (ef_rmCon m a1) (Steps.refl _)
  have pre1 : Steps p.tables e below _ (s₁.setTop (mkF m 1 #[.val (.ref a1)] [(.ref a1)])) := pre0.trans (by
    show Steps p.tables e below (s₁.setTop (mkF m 0 #[.val (.ref a1)] [])) _
    refine XS.aloadN X0.here hx rfl (hb hby d6_0) rfl rfl ?_
    exact Steps.refl _)
  obtain ⟨_, _, ⟨T2, L2, k2, n2⟩, -, X2, ⟨Lc2, hQ2, l2, y2, z2⟩, st2⟩ := Jvm.LawKit.callS X0 hx (y := (⟨"java/util/ImmutableCollections", "listCopy", "(Ljava/util/Collection;)Ljava/util/List;"⟩ : MethodName)) hown (mvT hZ (hw _ (List.mem_of_getElem? (i := 45) rfl))) (mvT hZ (hw _ (List.mem_of_getElem? (i := 46) rfl))) (mvT hZ (hw _ (List.mem_of_getElem? (i := 47) rfl))) (mvT hZ (hw _ (List.mem_of_getElem? (i := 48) rfl))) (by decide) (backOf (W := 0) (rmCn l Z a0 hw [] a1 ar mr nn mc P h0 n0 Z0 A B hI M hp1 hp2) hZ (hw _ (List.mem_of_getElem? (i := 48) rfl)) (hw _ (List.mem_of_getElem? (i := 47) rfl)) (by decide) (by decide)) (g := (mkF m 1 #[.val (.ref a1)] [(.ref a1)])) rfl (by rw [hml]; rfl) (argsL := [(.ref a1)]) (rest := []) (lenOf pd_rmCon_0 rfl) rfl (by show 2 * 0 + _ ≤ _; exact Nat.le_of_eq rfl) (hb hby d6_1) (fun _ _ => ⟨rfl, e0, (by decide : 0 + 3 ≤ _), (by decide : 0 + 132 ≤ _)⟩)
  dsimp only [Pt.U, Pt.locs, Pt.cells, Pt.slots] at X2 l2 y2 z2 st2 hQ2
  subst l2 y2 z2
  obtain ⟨r, rfl, N2q, K2⟩ := hQ2
  have N2 := Fr.app N0 N2q
  have pre2 : Steps p.tables e below _ (T2.setTop (mkF m 4 #[.val (.ref a1)] [(.ref r)])) := pre1.trans (st2 _ (Steps.refl _))
  obtain ⟨fs, hr, hrun, hended, hW, hsame⟩ := X2.leave (v := some (.ref r)) (fun h => by rw [Bd.returns] at h; cases h)
  refine ⟨_, _, pre2.trans ?_, hrun, hended, _, _, rfl, ?_, ⟨_, rfl⟩, hW, hsame.mono (by decide) (by decide)⟩
  · exact X2.areturnOut hx rfl Bd.returns rfl (hb hby d6_4) hr
  · exact ⟨r, rfl, N2, K2⟩
theorem d10_0 : decode prog_38_method_11_code 0 = .ok (.new 89, 3) := by decide +kernel
theorem d10_3 : decode prog_38_method_11_code 3 = .ok (.dup, 1) := by decide +kernel
theorem d10_4 : decode prog_38_method_11_code 4 = .ok (.iload_n 0, 1) := by decide +kernel
theorem d10_5 : decode prog_38_method_11_code 5 = .ok (.invokespecial 91, 3) := by decide +kernel
theorem d10_8 : decode prog_38_method_11_code 8 = .ok (.astore_n 1, 1) := by decide +kernel
theorem d10_9 : decode prog_38_method_11_code 9 = .ok (.iconst 0, 1) := by decide +kernel
theorem d10_10 : decode prog_38_method_11_code 10 = .ok (.istore_n 2, 1) := by decide +kernel
theorem d10_11 : decode prog_38_method_11_code 11 = .ok (.iload_n 2, 1) := by decide +kernel
theorem d10_12 : decode prog_38_method_11_code 12 = .ok (.iload_n 0, 1) := by decide +kernel
theorem d10_13 : decode prog_38_method_11_code 13 = .ok (.if_icmp .ge 23, 3) := by decide +kernel
theorem d10_16 : decode prog_38_method_11_code 16 = .ok (.aload_n 1, 1) := by decide +kernel
theorem d10_17 : decode prog_38_method_11_code 17 = .ok (.new 89, 3) := by decide +kernel
theorem d10_20 : decode prog_38_method_11_code 20 = .ok (.dup, 1) := by decide +kernel
theorem d10_21 : decode prog_38_method_11_code 21 = .ok (.invokespecial 94, 3) := by decide +kernel
theorem d10_24 : decode prog_38_method_11_code 24 = .ok (.invokeinterface 75 2, 5) := by decide +kernel
theorem d10_29 : decode prog_38_method_11_code 29 = .ok (.pop, 1) := by decide +kernel
theorem d10_30 : decode prog_38_method_11_code 30 = .ok (.iinc 2 1, 3) := by decide +kernel
theorem d10_33 : decode prog_38_method_11_code 33 = .ok (.goto (-22), 3) := by decide +kernel
theorem d10_36 : decode prog_38_method_11_code 36 = .ok (.aload_n 1, 1) := by decide +kernel
theorem d10_37 : decode prog_38_method_11_code 37 = .ok (.areturn, 1) := by decide +kernel
theorem pn_rmEL : plainName "com/example/trips_into_trajectories/tripsintotrajectories/network/Network" = true := by first | (simp [plainName, overriddenIn]; done) | decide +kernel
theorem pd_rmEL_0 : parseMethodDescriptor "(I)V" = some ⟨[.int], none⟩ := by decide +kernel
theorem pd_rmEL_1 : parseMethodDescriptor "()V" = some ⟨[], none⟩ := by decide +kernel
theorem pd_rmEL_2 : parseMethodDescriptor "(Ljava/lang/Object;)Z" = some ⟨[(.object "java/lang/Object")], some .boolean⟩ := by decide +kernel
theorem ef_rmEL (m : MethodId) (p1 : Int32) : entryFrame m #[(.int p1)] 3 = (mkF m 0 #[.val (.int p1), .unset, .unset] []) := by first | (simp [entryFrame, mkF, argsToLocals, Value.category]; done) | rfl
def Q_rmEL (Z : State) (p1 : Int32) (da : Addr) (h0 : Heap) (n0 : Nat) (v : Option Value) (h : Heap) (L : List Loc) : Prop := ∃ la, v = some (.ref la) ∧ Fr n0 L ∧ Keep h0 h [] ∧ LL Z h la p1
set_option maxRecDepth 65536 in
set_option maxHeartbeats 40000000 in
theorem rmEL (l : Launch) (Z : State) (a0 : Array Value) (hw : ∀ d ∈ tables_1, d.before a0 Z = true) (ws : List Jvm.Cond) (p1 : Int32) (da : Addr) (h0 : Heap) (n0 : Nat) (Z0 : n0 ≤ h0.size) (hp1 : 2 ≤ p1.toInt) (hp2 : p1.toInt ≤ 65) (SD : Sta Z h0 "java/util/ArrayList" "DEFAULTCAPACITY_EMPTY_ELEMENTDATA" "[Ljava/lang/Object;" (.ref da)) :
    MetFree l (⟨"com/example/trips_into_trajectories/tripsintotrajectories/network/Network", "emptyLists", "(I)Ljava/util/List;"⟩ : MethodName) (head1 (Jvm.Cond.code (⟨"com/example/trips_into_trajectories/tripsintotrajectories/network/Network", "emptyLists", "(I)Ljava/util/List;"⟩ : MethodName) prog_38_method_11_code 3 (some (.object "java/util/List")) :: ws) ({ frames := 4, cells := 67, slots := 263, locals := 50 } : Room)) (fun a U => a = #[(.int p1)] ∧ Z.Warmed39 U.vm ∧ U.heap = h0) (fun _ _ _ _ _ => True) (fun _ U o U' => ∃ v L, o = .returned v ∧ Q_rmEL Z p1 da h0 n0 v U'.heap L ∧ FrameEnd U o U' L ({ frames := 4, cells := 67, slots := 263, locals := 50 } : Room).cells ({ frames := 4, cells := 67, slots := 263, locals := 50 } : Room).slots) := by
  refine MetFree.of_bodySF (plainFor_of_name pn_rmEL) hisR ?_
  intro p e s m args below meth c s₁ Bd hml0 hP hK
  obtain ⟨rfl, hZ, hh⟩ := hP
  have hx := Bd.exec
  have hby := Bd.bytes
  have hml : c.maxLocals = 3 := hml0
  have hown : s.vm.findClass "com/example/trips_into_trajectories/tripsintotrajectories/network/Network" = some m.cls := findClass_of_methodNamed Bd.named
  have hnm := (name_of_methodNamed Bd.named Bd.method).1
  have X0 : Stand p l e ({ frames := 4, cells := 67, slots := 263, locals := 50 } : Room) s m #[(.int p1)] below meth c s₁ [] 0 0 := Stand.of_body Bd
  have e0 : s₁.heap = h0 := by rw [← hh, Bd.state]; rfl
  have N0 := Fr.nil n0
  have pre0 : Steps p.tables e below (s₁.setTop (entryFrame m #[(.int p1)] 3)) (s₁.setTop (mkF m 0 #[.val (.int p1), .unset, .unset] [])) := castTop (ef_rmEL m p1) (Steps.refl _)
  have e00 : (0 : Int32).toInt = 0 := rfl
  obtain ⟨T1, h1, X1, e1, E1, A1, D1, -, st1⟩ := newO X0 hx hZ hown (hw _ (List.mem_of_getElem? (i := 75) rfl)) (hw _ (List.mem_of_getElem? (i := 3) rfl)) (hw _ (List.mem_of_getElem? (i := 4) rfl)) e0 (g := (mkF m 0 #[.val (.int p1), .unset, .unset] [])) rfl (hb hby d10_0) (by decide : 0 + 1 ≤ _) (by decide : 0 + 3 ≤ _)
  obtain ⟨la, g1⟩ : ∃ z, z = h0.size := ⟨_, rfl⟩
  rw [← g1] at A1 D1 st1
  have g_la : n0 ≤ la := Nat.le_trans Z0 (Nat.le_of_eq g1.symm)
  have Z1 : n0 ≤ h1.size := Nat.le_trans Z0 E1.1
  have pre1 : Steps p.tables e below _ (T1.setTop (mkF m 3 #[.val (.int p1), .unset, .unset] [(.ref la)])) := pre0.trans (st1 _ (Steps.refl _))
  have AL1 : Ali Z h1 la .null 0 0 := ⟨A1, (D1 (Or.inl (hw _ (List.mem_of_getElem? (i := 27) rfl))) (ty := (.array (.object "java/lang/Object"))) (by decide)), (D1 (Or.inl (hw _ (List.mem_of_getElem? (i := 65) rfl))) (ty := .int) (by decide)), (D1 (Or.inl (hw _ (List.mem_of_getElem? (i := 24) rfl))) (ty := .int) (by decide))⟩
  have pre2 : Steps p.tables e below _ (T1.setTop (mkF m 5 #[.val (.int p1), .unset, .unset] [(.int p1), (.ref la), (.ref la)])) := pre1.trans (by
    show Steps p.tables e below (T1.setTop (mkF m 3 #[.val (.int p1), .unset, .unset] [(.ref la)])) _
    refine XS.dup X1.here hx rfl (hb hby d10_3) rfl rfl ?_
    show Steps p.tables e below (T1.setTop (mkF m 4 #[.val (.int p1), .unset, .unset] [(.ref la), (.ref la)])) _
    refine XS.iloadN X1.here hx rfl (hb hby d10_4) rfl ?_
    exact Steps.refl _)
  obtain ⟨_, _, ⟨T3, L3, k3, n3⟩, -, X3, ⟨Lc3, hQ3, l3, y3, z3⟩, st3⟩ := X1.specialBack hx (y := (⟨"java/util/ArrayList", "<init>", "(I)V"⟩ : MethodName)) rfl hown (mvT hZ (hw _ (List.mem_of_getElem? (i := 76) rfl))) (mvT hZ (hw _ (List.mem_of_getElem? (i := 77) rfl))) (mvT hZ (hw _ (List.mem_of_getElem? (i := 78) rfl))) (by decide) (backOf (W := 1) (rmA1 l Z a0 hw [] la p1 h1 n0 Z1 AL1 g_la (by omega) hp2) hZ (hw _ (List.mem_of_getElem? (i := 78) rfl)) (hw _ (List.mem_of_getElem? (i := 4) rfl)) (by decide) (by decide)) (g := (mkF m 5 #[.val (.int p1), .unset, .unset] [(.int p1), (.ref la), (.ref la)])) rfl (by rw [hml]; rfl) (Steps.refl _) (a := la) (argsL := [(.int p1)]) (rest := [(.ref la)]) (lenOf pd_rmEL_0 rfl) rfl (by show 2 * 0 + _ ≤ _; exact Nat.le_of_eq rfl) (hb hby d10_5) (fun _ _ => ⟨rfl, e1, (by decide : 1 + 1 ≤ _), (by decide : 3 + 65 ≤ _)⟩)
  dsimp only [Pt.U, Pt.locs, Pt.cells, Pt.slots] at X3 l3 y3 z3 st3 hQ3
  subst l3 y3 z3
  obtain ⟨rfl, N3q, K3, ar, gar, A1, B1⟩ := hQ3
  have N3 := Fr.app N0 N3q
  have pre3 : Steps p.tables e below _ (T3.setTop (mkF m 8 #[.val (.int p1), .unset, .unset] [(.ref la)])) := pre2.trans (st3)
  have KK : Keep h0 T3.heap [] := ((Keep.refl h0 []).ext E1).trans K3 (fun x hx => Or.inr (by rw [List.mem_singleton.mp hx]; exact Nat.le_of_eq g1.symm))
  have gar0 : h0.size ≤ ar := Nat.le_trans E1.1 gar
  have g_ar : n0 ≤ ar := Nat.le_trans Z0 gar0
  have gla0 : h0.size ≤ la := Nat.le_of_eq g1.symm
  have pre4 : Steps p.tables e below _ (T3.setTop (mkF m 11 #[.val (.int p1), .val (.ref la), .val (.int (0 : Int32))] [])) := pre3.trans (by
    show Steps p.tables e below (T3.setTop (mkF m 8 #[.val (.int p1), .unset, .unset] [(.ref la)])) _
    refine XS.astoreN X3.here hx rfl (hb hby d10_8) rfl rfl (l' := #[.val (.int p1), .val (.ref la), .unset]) rfl ?_
    show Steps p.tables e below (T3.setTop (mkF m 9 #[.val (.int p1), .val (.ref la), .unset] [])) _
    refine XS.iconst X3.here hx rfl (hb hby d10_9) ?_
    show Steps p.tables e below (T3.setTop (mkF m 10 #[.val (.int p1), .val (.ref la), .unset] [(.int (0 : Int32))])) _
    refine XS.istoreN X3.here hx rfl (hb hby d10_10) rfl (l' := #[.val (.int p1), .val (.ref la), .val (.int (0 : Int32))]) rfl ?_
    exact Steps.refl _)
  have loop : ∀ (k kk : Nat) (i : Int32) (T : State) (locs : List Loc), Stand p l e ({ frames := 4, cells := 67, slots := 263, locals := 50 } : Room) s m #[(.int p1)] below meth c T locs (2 + kk) (68 + 3 * kk) → Fr n0 locs → i.toInt = kk → (kk : Int) + k = p1.toInt → Keep h0 T.heap [] ∧ (∃ mc, Ali Z T.heap la (.ref ar) i mc) ∧ PAr Z T.heap ar p1 kk (fun b => own_E Z T.heap b ∧ b ≠ la) → ∃ (T' : State) (locs' : List Loc), Stand p l e ({ frames := 4, cells := 67, slots := 263, locals := 50 } : Room) s m #[(.int p1)] below meth c T' locs' 67 263 ∧ Fr n0 locs' ∧ Keep h0 T'.heap [] ∧ LL Z T'.heap la p1 ∧ Steps p.tables e below (T.setTop (mkF m 11 #[.val (.int p1), .val (.ref la), .val (.int i)] [])) (T'.setTop (mkF m 36 #[.val (.int p1), .val (.ref la), .val (.int p1)] [])) := by
    intro k
    induction k with
    | zero =>
      intro kk i T locs X Nf hi ik ⟨K, ⟨mc, A⟩, B⟩
      have hi2 : p1 = i := Int32.toInt_inj.mp (by omega)
      subst hi2
      have hkk : kk = p1.toNatClampNeg := by have q := own_nat p1 (by omega); omega
      have preL : Steps p.tables e below (T.setTop (mkF m 11 #[.val (.int p1), .val (.ref la), .val (.int p1)] [])) (T.setTop (mkF m 11 #[.val (.int p1), .val (.ref la), .val (.int p1)] [])) := Steps.refl _
      have pre5 : Steps p.tables e below _ (T.setTop (mkF m 36 #[.val (.int p1), .val (.ref la), .val (.int p1)] [])) := preL.trans (by
        show Steps p.tables e below (T.setTop (mkF m 11 #[.val (.int p1), .val (.ref la), .val (.int p1)] [])) _
        refine XS.iloadN X.here hx rfl (hb hby d10_11) rfl ?_
        show Steps p.tables e below (T.setTop (mkF m 12 #[.val (.int p1), .val (.ref la), .val (.int p1)] [(.int p1)])) _
        refine XS.iloadN X.here hx rfl (hb hby d10_12) rfl ?_
        show Steps p.tables e below (T.setTop (mkF m 13 #[.val (.int p1), .val (.ref la), .val (.int p1)] [(.int p1), (.int p1)])) _
        refine XS.icmpYes X.here hx rfl (pc0 := 13) (pc' := 36) rfl (hb hby d10_13) rfl (flt (own_irr p1)).2.1 (by decide) (by decide) ?_
        exact Steps.refl _)
      exact ⟨T, locs, X.more (by omega) (by omega), Nf, K, ⟨ar, mc, A, by rw [← hkk]; exact B.mono (fun x q => q.1)⟩, pre5⟩
    | succ k ih =>
      intro kk i T locs X Nf hi ik ⟨K, ⟨mc, A⟩, B⟩
      have preL : Steps p.tables e below (T.setTop (mkF m 11 #[.val (.int p1), .val (.ref la), .val (.int i)] [])) (T.setTop (mkF m 11 #[.val (.int p1), .val (.ref la), .val (.int i)] [])) := Steps.refl _
      have ZT : n0 ≤ T.heap.size := Nat.le_trans Z0 K.1
      have hlt : i < p1 := by rw [own_lt]; omega
      have hge : ¬ i < 0 := by rw [own_lt]; omega
      have hki : i.toNatClampNeg = kk := by have q := own_nat i (by omega); omega
      have hkn : kk < p1.toNatClampNeg := by have q := own_nat p1 (by omega); omega
      have hk65 : kk < 65 := by omega
      have pre6 : Steps p.tables e below _ (T.setTop (mkF m 17 #[.val (.int p1), .val (.ref la), .val (.int i)] [(.ref la)])) := preL.trans (by
        show Steps p.tables e below (T.setTop (mkF m 11 #[.val (.int p1), .val (.ref la), .val (.int i)] [])) _
        refine XS.iloadN X.here hx rfl (hb hby d10_11) rfl ?_
        show Steps p.tables e below (T.setTop (mkF m 12 #[.val (.int p1), .val (.ref la), .val (.int i)] [(.int i)])) _
        refine XS.iloadN X.here hx rfl (hb hby d10_12) rfl ?_
        show Steps p.tables e below (T.setTop (mkF m 13 #[.val (.int p1), .val (.ref la), .val (.int i)] [(.int p1), (.int i)])) _
        refine XS.icmpNo X.here hx rfl (hb hby d10_13) rfl (tlt hlt).2.1 ?_
        show Steps p.tables e below (T.setTop (mkF m 16 #[.val (.int p1), .val (.ref la), .val (.int i)] [])) _
        refine XS.aloadN X.here hx rfl (hb hby d10_16) rfl rfl ?_
        exact Steps.refl _)
      obtain ⟨T7, h7, X7, e7, E7, A7, D7, -, st7⟩ := newO X hx hZ hown (hw _ (List.mem_of_getElem? (i := 75) rfl)) (hw _ (List.mem_of_getElem? (i := 3) rfl)) (hw _ (List.mem_of_getElem? (i := 4) rfl)) (rfl : T.heap = T.heap) (g := (mkF m 17 #[.val (.int p1), .val (.ref la), .val (.int i)] [(.ref la)])) rfl (hb hby d10_17) (show 2 + kk + 1 ≤ 67 by omega) (show 68 + 3 * kk + 3 ≤ 263 by omega)
      obtain ⟨eb, g7⟩ : ∃ z, z = T.heap.size := ⟨_, rfl⟩
      rw [← g7] at A7 D7 st7
      have g_eb : n0 ≤ eb := Nat.le_trans ZT (Nat.le_of_eq g7.symm)
      have Z7 : n0 ≤ h7.size := Nat.le_trans ZT E7.1
      have pre7 : Steps p.tables e below _ (T7.setTop (mkF m 20 #[.val (.int p1), .val (.ref la), .val (.int i)] [(.ref eb), (.ref la)])) := pre6.trans (st7 _ (Steps.refl _))
      have AL7 : Ali Z h7 eb .null 0 0 := ⟨A7, (D7 (Or.inl (hw _ (List.mem_of_getElem? (i := 27) rfl))) (ty := (.array (.object "java/lang/Object"))) (by decide)), (D7 (Or.inl (hw _ (List.mem_of_getElem? (i := 65) rfl))) (ty := .int) (by decide)), (D7 (Or.inl (hw _ (List.mem_of_getElem? (i := 24) rfl))) (ty := .int) (by decide))⟩
      have ltl : la < T.heap.size := A.1.lt
      have nel : eb ≠ la := fun q => absurd ltl (by rw [← q, g7]; exact Nat.lt_irrefl _)
      have nea : ar ≠ eb := Nat.ne_of_lt (by rw [g7]; exact B.lt)
      have pre8 : Steps p.tables e below _ (T7.setTop (mkF m 21 #[.val (.int p1), .val (.ref la), .val (.int i)] [(.ref eb), (.ref eb), (.ref la)])) := pre7.trans (by
        show Steps p.tables e below (T7.setTop (mkF m 20 #[.val (.int p1), .val (.ref la), .val (.int i)] [(.ref eb), (.ref la)])) _
        refine XS.dup X7.here hx rfl (hb hby d10_20) rfl rfl ?_
        exact Steps.refl _)
      obtain ⟨_, _, ⟨T9, L9, k9, n9⟩, -, X9, ⟨Lc9, hQ9, l9, y9, z9⟩, st9⟩ := X7.specialBack hx (y := (⟨"java/util/ArrayList", "<init>", "()V"⟩ : MethodName)) rfl hown (mvT hZ (hw _ (List.mem_of_getElem? (i := 81) rfl))) (mvT hZ (hw _ (List.mem_of_getElem? (i := 6) rfl))) (mvT hZ (hw _ (List.mem_of_getElem? (i := 7) rfl))) (by decide) (backOf (W := 2) (rmA0 l Z a0 hw [] eb da h7 n0 Z7 AL7 g_eb ((Sta.keepN SD K (fun x hx => nomatch hx)).ext E7)) hZ (hw _ (List.mem_of_getElem? (i := 7) rfl)) (hw _ (List.mem_of_getElem? (i := 4) rfl)) (by decide) (by decide)) (g := (mkF m 21 #[.val (.int p1), .val (.ref la), .val (.int i)] [(.ref eb), (.ref eb), (.ref la)])) rfl (by rw [hml]; rfl) (Steps.refl _) (a := eb) (argsL := []) (rest := [(.ref eb), (.ref la)]) (lenOf pd_rmEL_1 rfl) rfl (by show 2 * 0 + _ ≤ _; exact Nat.le_of_eq rfl) (hb hby d10_21) (fun _ _ => ⟨rfl, e7, (show 2 + kk + 1 + 0 ≤ 67 by omega), (show 68 + 3 * kk + 3 + 0 ≤ 263 by omega)⟩)
      dsimp only [Pt.U, Pt.locs, Pt.cells, Pt.slots] at X9 l9 y9 z9 st9 hQ9
      subst l9 y9 z9
      obtain ⟨rfl, N9q, K9, AE9⟩ := hQ9
      have N9 := Fr.app Nf N9q
      have pre9 : Steps p.tables e below _ (T9.setTop (mkF m 24 #[.val (.int p1), .val (.ref la), .val (.int i)] [(.ref eb), (.ref la)])) := pre8.trans (st9)
      have Z9k : n0 ≤ T9.heap.size := Nat.le_trans Z7 K9.1
      have A2 := (A.ext E7).keep K9 (own_nin nel.symm)
      have B2 : PAr Z T9.heap ar p1 kk (fun b => own_E Z T9.heap b ∧ b ≠ la) := (B.ext E7 (P' := fun b => (own_E Z h7 b ∧ b ≠ la) ∧ b ≠ eb) (fun x q => ⟨⟨⟨q.1.1.ext E7, q.1.2.ext E7⟩, q.2⟩, fun z => absurd q.1.1.lt (by rw [z, g7]; exact Nat.lt_irrefl _)⟩)).keep K9 (own_nin nea) (fun x q => ⟨⟨q.1.1.1.keep K9, q.1.1.2.keep K9 (own_nin q.2)⟩, q.1.2⟩)
      have KE : Keep h0 T9.heap [] := (K.ext E7).trans K9 (fun x hx => Or.inr (by rw [List.mem_singleton.mp hx, g7]; exact K.1))
      obtain ⟨cq10, kq10, q10a, q10b, q10c⟩ := isOf hZ (rfl : T9.heap = T9.heap) A2.1
      obtain ⟨_, _, ⟨T10, L10, k10, n10⟩, -, X10, ⟨Lc10, hQ10, l10, y10, z10⟩, st10⟩ := X9.interfaceBack hx (C := "java/util/ArrayList") (xi := (⟨"java/util/List", "add", "(Ljava/lang/Object;)Z"⟩ : MethodName)) (y := (⟨"java/util/ArrayList", "add", "(Ljava/lang/Object;)Z"⟩ : MethodName)) hown (mvT hZ (hw _ (List.mem_of_getElem? (i := 82) rfl))) (mvT hZ (hw _ (List.mem_of_getElem? (i := 83) rfl))) (mvT hZ (hw _ (List.mem_of_getElem? (i := 84) rfl))) (mvT hZ (hw _ (List.mem_of_getElem? (i := 85) rfl))) (mvT hZ (hw _ (List.mem_of_getElem? (i := 86) rfl))) (mvT hZ (hw _ (List.mem_of_getElem? (i := 87) rfl))) (mvT hZ (hw _ (List.mem_of_getElem? (i := 88) rfl))) (mvT hZ (hw _ (List.mem_of_getElem? (i := 89) rfl))) (by decide) (backOf (W := 0) (rmAd l Z a0 hw [] la eb ar i p1 mc kk _ T9.heap n0 Z9k A2 B2 hge hlt (Ins.of_exa AE9.1 (hw _ (List.mem_of_getElem? (i := 98) rfl))) g_la g_ar) hZ (hw _ (List.mem_of_getElem? (i := 90) rfl)) (hw _ (List.mem_of_getElem? (i := 4) rfl)) (by decide) (by decide)) q10a q10b q10c (g := (mkF m 24 #[.val (.int p1), .val (.ref la), .val (.int i)] [(.ref eb), (.ref la)])) rfl (by rw [hml]; rfl) (Steps.refl _) (argsL := [(.ref eb)]) (rest := []) (lenOf pd_rmEL_2 rfl) rfl (by show 2 * 0 + _ ≤ _; exact Nat.le_of_eq rfl) (hb hby d10_24) (fun _ _ => ⟨rfl, (rfl : T9.heap = T9.heap), (show 2 + kk + 1 + 0 + 0 ≤ 67 by omega), (show 68 + 3 * kk + 3 + 0 + 0 ≤ 263 by omega)⟩)
      dsimp only [Pt.U, Pt.locs, Pt.cells, Pt.slots] at X10 l10 y10 z10 st10 hQ10
      subst l10 y10 z10
      obtain ⟨rfl, N10q, hx1, hx2, W1, W2, W3⟩ := hQ10
      have N10 := Fr.app N9 N10q
      have pre10 : Steps p.tables e below _ (T10.setTop (mkF m 29 #[.val (.int p1), .val (.ref la), .val (.int i)] [(.int (1 : Int32))])) := pre9.trans (st10)
      obtain ⟨A3, B3⟩ := own_add hw A2 B2 hki hkn W1 W2 W3 (P' := fun b => own_E Z T10.heap b ∧ b ≠ la) (fun x q => ⟨⟨((q.1.1.wr W1).wr W2).wr W3, ((q.1.2.other W1 (Or.inl q.2)).other W2 (Or.inl (ne_exa q.1.1 B2.exa (by decide)))).other W3 (Or.inl q.2)⟩, q.2⟩) ⟨⟨((AE9.1.wr W1).wr W2).wr W3, ((AE9.2.2.1.other W1 (Or.inl nel)).other W2 (Or.inl nea.symm)).other W3 (Or.inl nel)⟩, nel⟩
      have K3 := own_keep3 KE W1 W2 W3 gla0 gar0 gla0
      have pre11 : Steps p.tables e below _ (T10.setTop (mkF m 11 #[.val (.int p1), .val (.ref la), .val (.int (i + (1 : Int32)))] [])) := pre10.trans (by
        show Steps p.tables e below (T10.setTop (mkF m 29 #[.val (.int p1), .val (.ref la), .val (.int i)] [(.int (1 : Int32))])) _
        refine XS.pop X10.here hx rfl (hb hby d10_29) rfl rfl ?_
        show Steps p.tables e below (T10.setTop (mkF m 30 #[.val (.int p1), .val (.ref la), .val (.int i)] [])) _
        refine XS.iinc X10.here hx rfl (hb hby d10_30) rfl (l' := #[.val (.int p1), .val (.ref la), .val (.int (i + (1 : Int32)))]) rfl ?_
        show Steps p.tables e below (T10.setTop (mkF m 33 #[.val (.int p1), .val (.ref la), .val (.int (i + (1 : Int32)))] [])) _
        refine XS.goto X10.here hx rfl (pc0 := 33) (pc' := 11) rfl (hb hby d10_33) (by decide) (by decide) ?_
        exact Steps.refl _)
      have ei := own_inc i (by omega) (by omega)
      obtain ⟨T', lc', q1, q2, q3, q4, q5⟩ := ih (kk + 1) (i + (1 : Int32)) T10 _ (X10.more (by show 2 + kk + 1 + 0 + 0 ≤ 2 + (kk + 1); omega) (by show 68 + 3 * kk + 3 + 0 + 0 ≤ 68 + 3 * (kk + 1); omega)) N10 (by omega) (by omega) ⟨K3, ⟨_, A3⟩, B3⟩
      exact ⟨T', lc', q1, q2, q3, q4, pre11.trans q5⟩
  obtain ⟨T9, l9, X9, N9, K9, LL9, st9⟩ := loop p1.toInt.toNat 0 (0 : Int32) T3 _ X3 N3 rfl (by have q := Int.toNat_of_nonneg (show 0 ≤ p1.toInt by omega); omega) ⟨KK, ⟨_, A1⟩, B1.mono (fun x q => q.elim)⟩
  have pre99 : Steps p.tables e below _ (T9.setTop (mkF m 36 #[.val (.int p1), .val (.ref la), .val (.int p1)] [])) := pre4.trans st9
  have pre12 : Steps p.tables e below _ (T9.setTop (mkF m 37 #[.val (.int p1), .val (.ref la), .val (.int p1)] [(.ref la)])) := pre99.trans (by
    show Steps p.tables e below (T9.setTop (mkF m 36 #[.val (.int p1), .val (.ref la), .val (.int p1)] [])) _
    refine XS.aloadN X9.here hx rfl (hb hby d10_36) rfl rfl ?_
    exact Steps.refl _)
  obtain ⟨fs, hr, hrun, hended, hW, hsame⟩ := X9.leave (v := some (.ref la)) (fun h => by rw [Bd.returns] at h; cases h)
  refine ⟨_, _, pre12.trans ?_, hrun, hended, _, _, rfl, ?_, ⟨_, rfl⟩, hW, hsame.mono (by decide) (by decide)⟩
  · exact X9.areturnOut hx rfl Bd.returns rfl (hb hby d10_37) hr
  · exact ⟨la, rfl, N9, K9, LL9⟩
theorem own_st3 {x0 x1 x2 : Value} {sx : Slot} {y : Addr} (h : One sx) : storeLocals #[.val x0, .val x1, .val x2, sx] 3 (.ref y) = some #[.val x0, .val x1, .val x2, .val (.ref y)] := by
  rcases h with rfl | ⟨w, rfl, hw⟩
  · rfl
  · cases w <;> first | rfl | (simp [Value.category] at hw)
theorem d15_0 : decode prog_38_method_12_code 0 = .ok (.new 89, 3) := by decide +kernel
theorem d15_3 : decode prog_38_method_12_code 3 = .ok (.dup, 1) := by decide +kernel
theorem d15_4 : decode prog_38_method_12_code 4 = .ok (.aload_n 0, 1) := by decide +kernel
theorem d15_5 : decode prog_38_method_12_code 5 = .ok (.invokeinterface 42 1, 5) := by decide +kernel
theorem d15_10 : decode prog_38_method_12_code 10 = .ok (.invokespecial 91, 3) := by decide +kernel
theorem d15_13 : decode prog_38_method_12_code 13 = .ok (.astore_n 1, 1) := by decide +kernel
theorem d15_14 : decode prog_38_method_12_code 14 = .ok (.aload_n 0, 1) := by decide +kernel
theorem d15_15 : decode prog_38_method_12_code 15 = .ok (.invokeinterface 95 1, 5) := by decide +kernel
theorem d15_20 : decode prog_38_method_12_code 20 = .ok (.astore_n 2, 1) := by decide +kernel
theorem d15_21 : decode prog_38_method_12_code 21 = .ok (.aload_n 2, 1) := by decide +kernel
theorem d15_22 : decode prog_38_method_12_code 22 = .ok (.invokeinterface 99 1, 5) := by decide +kernel
theorem d15_27 : decode prog_38_method_12_code 27 = .ok (.ifCond .eq 27, 3) := by decide +kernel
theorem d15_30 : decode prog_38_method_12_code 30 = .ok (.aload_n 2, 1) := by decide +kernel
theorem d15_31 : decode prog_38_method_12_code 31 = .ok (.invokeinterface 105 1, 5) := by decide +kernel
theorem d15_36 : decode prog_38_method_12_code 36 = .ok (.checkcast 29, 3) := by decide +kernel
theorem d15_39 : decode prog_38_method_12_code 39 = .ok (.astore_n 3, 1) := by decide +kernel
theorem d15_40 : decode prog_38_method_12_code 40 = .ok (.aload_n 1, 1) := by decide +kernel
theorem d15_41 : decode prog_38_method_12_code 41 = .ok (.aload_n 3, 1) := by decide +kernel
theorem d15_42 : decode prog_38_method_12_code 42 = .ok (.invokestatic 28, 3) := by decide +kernel
theorem d15_45 : decode prog_38_method_12_code 45 = .ok (.invokeinterface 75 2, 5) := by decide +kernel
theorem d15_50 : decode prog_38_method_12_code 50 = .ok (.pop, 1) := by decide +kernel
theorem d15_51 : decode prog_38_method_12_code 51 = .ok (.goto (-30), 3) := by decide +kernel
theorem d15_54 : decode prog_38_method_12_code 54 = .ok (.aload_n 1, 1) := by decide +kernel
theorem d15_55 : decode prog_38_method_12_code 55 = .ok (.invokestatic 28, 3) := by decide +kernel
theorem d15_58 : decode prog_38_method_12_code 58 = .ok (.areturn, 1) := by decide +kernel
theorem pn_rmFr : plainName "com/example/trips_into_trajectories/tripsintotrajectories/network/Network" = true := by first | (simp [plainName, overriddenIn]; done) | decide +kernel
theorem pd_rmFr_0 : parseMethodDescriptor "()I" = some ⟨[], some .int⟩ := by decide +kernel
theorem pd_rmFr_1 : parseMethodDescriptor "(I)V" = some ⟨[.int], none⟩ := by decide +kernel
theorem pd_rmFr_2 : parseMethodDescriptor "()Ljava/util/Iterator;" = some ⟨[], some (.object "java/util/Iterator")⟩ := by decide +kernel
theorem pd_rmFr_3 : parseMethodDescriptor "()Z" = some ⟨[], some .boolean⟩ := by decide +kernel
theorem pd_rmFr_4 : parseMethodDescriptor "()Ljava/lang/Object;" = some ⟨[], some (.object "java/lang/Object")⟩ := by decide +kernel
theorem pd_rmFr_5 : parseMethodDescriptor "(Ljava/util/Collection;)Ljava/util/List;" = some ⟨[(.object "java/util/Collection")], some (.object "java/util/List")⟩ := by decide +kernel
theorem pd_rmFr_6 : parseMethodDescriptor "(Ljava/lang/Object;)Z" = some ⟨[(.object "java/lang/Object")], some .boolean⟩ := by decide +kernel
theorem ef_rmFr (m : MethodId) (a1 : Addr) : entryFrame m #[(.ref a1)] 4 = (mkF m 0 #[.val (.ref a1), .unset, .unset, .unset] []) := by first | (simp [entryFrame, mkF, argsToLocals, Value.category]; done) | rfl
def Q_rmFr (Z : State) (a1 : Addr) (el mr : Addr) (nn : Int32) (h0 : Heap) (n0 : Nat) (v : Option Value) (h : Heap) (L : List Loc) : Prop := ∃ r, v = some (.ref r) ∧ Fr n0 L ∧ Keep h0 h []
set_option maxRecDepth 65536 in
set_option maxHeartbeats 40000000 in
theorem rmFr (l : Launch) (Z : State) (a0 : Array Value) (hw : ∀ d ∈ tables_1, d.before a0 Z = true) (ws : List Jvm.Cond) (a1 : Addr) (el mr : Addr) (nn : Int32) (h0 : Heap) (n0 : Nat) (Z0 : n0 ≤ h0.size) (LI : LL Z h0 a1 nn) (EE : Exa Z h0 el "java/util/ImmutableCollections$ListN") (M : Mir Z "[Ljava/lang/Object;" mr) (hp1 : 2 ≤ nn.toInt) (hp2 : nn.toInt ≤ 65) (SE : Sta Z h0 "java/util/ImmutableCollections" "EMPTY_LIST" "Ljava/util/ImmutableCollections$ListN;" (.ref el)) :
    MetFree l (⟨"com/example/trips_into_trajectories/tripsintotrajectories/network/Network", "frozen", "(Ljava/util/List;)Ljava/util/List;"⟩ : MethodName) (head1 (Jvm.Cond.code (⟨"com/example/trips_into_trajectories/tripsintotrajectories/network/Network", "frozen", "(Ljava/util/List;)Ljava/util/List;"⟩ : MethodName) prog_38_method_12_code 4 (some (.object "java/util/List")) :: ws) ({ frames := 9, cells := 6, slots := 204, locals := 115 } : Room)) (fun a U => a = #[(.ref a1)] ∧ Z.Warmed39 U.vm ∧ U.heap = h0) (fun _ _ _ _ _ => True) (fun _ U o U' => ∃ v L, o = .returned v ∧ Q_rmFr Z a1 el mr nn h0 n0 v U'.heap L ∧ FrameEnd U o U' L ({ frames := 9, cells := 6, slots := 204, locals := 115 } : Room).cells ({ frames := 9, cells := 6, slots := 204, locals := 115 } : Room).slots) := by
  refine MetFree.of_bodySF (plainFor_of_name pn_rmFr) hisR ?_
  intro p e s m args below meth c s₁ Bd hml0 hP hK
  obtain ⟨rfl, hZ, hh⟩ := hP
  have hx := Bd.exec
  have hby := Bd.bytes
  have hml : c.maxLocals = 4 := hml0
  have hown : s.vm.findClass "com/example/trips_into_trajectories/tripsintotrajectories/network/Network" = some m.cls := findClass_of_methodNamed Bd.named
  have hnm := (name_of_methodNamed Bd.named Bd.method).1
  have X0 : Stand p l e ({ frames := 9, cells := 6, slots := 204, locals := 115 } : Room) s m #[(.ref a1)] below meth c s₁ [] 0 0 := Stand.of_body Bd
  have e0 : s₁.heap = h0 := by rw [← hh, Bd.state]; rfl
  have N0 := Fr.nil n0
  have pre0 : Steps p.tables e below (s₁.setTop (entryFrame m #[(.ref a1)] 4)) (s₁.setTop (mkF m 0 #[.val (.ref a1), .unset, .unset, .unset] [])) := castTop (ef_rmFr m a1) (Steps.refl _)
  have e00 : (0 : Int32).toInt = 0 := rfl
  obtain ⟨ar, mc, A, B⟩ := id LI
  obtain ⟨T1, h1, X1, e1, E1, A1, D1, -, st1⟩ := newO X0 hx hZ hown (hw _ (List.mem_of_getElem? (i := 75) rfl)) (hw _ (List.mem_of_getElem? (i := 3) rfl)) (hw _ (List.mem_of_getElem? (i := 4) rfl)) e0 (g := (mkF m 0 #[.val (.ref a1), .unset, .unset, .unset] [])) rfl (hb hby d15_0) (by decide : 0 + 1 ≤ _) (by decide : 0 + 3 ≤ _)
  obtain ⟨lb, g1⟩ : ∃ z, z = h0.size := ⟨_, rfl⟩
  rw [← g1] at A1 D1 st1
  have g_lb : n0 ≤ lb := Nat.le_trans Z0 (Nat.le_of_eq g1.symm)
  have Z1 : n0 ≤ h1.size := Nat.le_trans Z0 E1.1
  have pre1 : Steps p.tables e below _ (T1.setTop (mkF m 3 #[.val (.ref a1), .unset, .unset, .unset] [(.ref lb)])) := pre0.trans (st1 _ (Steps.refl _))
  have AL1 : Ali Z h1 lb .null 0 0 := ⟨A1, (D1 (Or.inl (hw _ (List.mem_of_getElem? (i := 27) rfl))) (ty := (.array (.object "java/lang/Object"))) (by decide)), (D1 (Or.inl (hw _ (List.mem_of_getElem? (i := 65) rfl))) (ty := .int) (by decide)), (D1 (Or.inl (hw _ (List.mem_of_getElem? (i := 24) rfl))) (ty := .int) (by decide))⟩
  have glb0 : h0.size ≤ lb := Nat.le_of_eq g1.symm
  have pre2 : Steps p.tables e below _ (T1.setTop (mkF m 5 #[.val (.ref a1), .unset, .unset, .unset] [(.ref a1), (.ref lb), (.ref lb)])) := pre1.trans (by
    show Steps p.tables e below (T1.setTop (mkF m 3 #[.val (.ref a1), .unset, .unset, .unset] [(.ref lb)])) _
    refine XS.dup X1.here hx rfl (hb hby d15_3) rfl rfl ?_
    show Steps p.tables e below (T1.setTop (mkF m 4 #[.val (.ref a1), .unset, .unset, .unset] [(.ref lb), (.ref lb)])) _
    refine XS.aloadN X1.here hx rfl (hb hby d15_4) rfl rfl ?_
    exact Steps.refl _)
  obtain ⟨cq3, kq3, q3a, q3b, q3c⟩ := isOf hZ e1 (A.1.ext E1)
  obtain ⟨_, _, ⟨T3, L3, k3, n3⟩, -, X3, ⟨Lc3, hQ3, l3, y3, z3⟩, st3⟩ := X1.interfaceBack hx (C := "java/util/ArrayList") (xi := (⟨"java/util/List", "size", "()I"⟩ : MethodName)) (y := (⟨"java/util/ArrayList", "size", "()I"⟩ : MethodName)) hown (mvT hZ (hw _ (List.mem_of_getElem? (i := 99) rfl))) (mvT hZ (hw _ (List.mem_of_getElem? (i := 100) rfl))) (mvT hZ (hw _ (List.mem_of_getElem? (i := 101) rfl))) (mvT hZ (hw _ (List.mem_of_getElem? (i := 114) rfl))) (mvT hZ (hw _ (List.mem_of_getElem? (i := 115) rfl))) (mvT hZ (hw _ (List.mem_of_getElem? (i := 116) rfl))) (mvT hZ (hw _ (List.mem_of_getElem? (i := 117) rfl))) (mvT hZ (hw _ (List.mem_of_getElem? (i := 89) rfl))) (by decide) (backOf (W := 2) (rmSz l Z a0 hw [] a1 nn h1 n0 Z1 (A.2.2.1.ext E1)) hZ (hw _ (List.mem_of_getElem? (i := 118) rfl)) (hw _ (List.mem_of_getElem? (i := 4) rfl)) (by decide) (by decide)) q3a q3b q3c (g := (mkF m 5 #[.val (.ref a1), .unset, .unset, .unset] [(.ref a1), (.ref lb), (.ref lb)])) rfl (by rw [hml]; rfl) (Steps.refl _) (argsL := []) (rest := [(.ref lb), (.ref lb)]) (lenOf pd_rmFr_0 rfl) rfl (by show 2 * 0 + _ ≤ _; exact Nat.le_of_eq rfl) (hb hby d15_5) (fun _ _ => ⟨rfl, e1, (by decide : 1 + 0 ≤ _), (by decide : 3 + 0 ≤ _)⟩)
  dsimp only [Pt.U, Pt.locs, Pt.cells, Pt.slots] at X3 l3 y3 z3 st3 hQ3
  subst l3 y3 z3
  obtain ⟨rfl, N3q, hh3⟩ := hQ3
  have N3 := Fr.app N0 N3q
  have pre3 : Steps p.tables e below _ (T3.setTop (mkF m 10 #[.val (.ref a1), .unset, .unset, .unset] [(.int nn), (.ref lb), (.ref lb)])) := pre2.trans (st3)
  obtain ⟨_, _, ⟨T4, L4, k4, n4⟩, -, X4, ⟨Lc4, hQ4, l4, y4, z4⟩, st4⟩ := X3.specialBack hx (y := (⟨"java/util/ArrayList", "<init>", "(I)V"⟩ : MethodName)) rfl hown (mvT hZ (hw _ (List.mem_of_getElem? (i := 76) rfl))) (mvT hZ (hw _ (List.mem_of_getElem? (i := 77) rfl))) (mvT hZ (hw _ (List.mem_of_getElem? (i := 78) rfl))) (by decide) (backOf (W := 1) (rmA1 l Z a0 hw [] lb nn h1 n0 Z1 AL1 g_lb (by omega) hp2) hZ (hw _ (List.mem_of_getElem? (i := 78) rfl)) (hw _ (List.mem_of_getElem? (i := 4) rfl)) (by decide) (by decide)) (g := (mkF m 10 #[.val (.ref a1), .unset, .unset, .unset] [(.int nn), (.ref lb), (.ref lb)])) rfl (by rw [hml]; rfl) (Steps.refl _) (a := lb) (argsL := [(.int nn)]) (rest := [(.ref lb)]) (lenOf pd_rmFr_1 rfl) rfl (by show 2 * 0 + _ ≤ _; exact Nat.le_of_eq rfl) (hb hby d15_10) (fun _ _ => ⟨rfl, hh3, (by decide : 1 + 1 ≤ _), (by decide : 3 + 65 ≤ _)⟩)
  dsimp only [Pt.U, Pt.locs, Pt.cells, Pt.slots] at X4 l4 y4 z4 st4 hQ4
  subst l4 y4 z4
  obtain ⟨rfl, N4q, K4, ar2, gar, A1, B1⟩ := hQ4
  have N4 := Fr.app N3 N4q
  have pre4 : Steps p.tables e below _ (T4.setTop (mkF m 13 #[.val (.ref a1), .unset, .unset, .unset] [(.ref lb)])) := pre3.trans (st4)
  have KK : Keep h0 T4.heap [] := ((Keep.refl h0 []).ext E1).trans K4 (fun x hx => Or.inr (by rw [List.mem_singleton.mp hx]; exact glb0))
  have gar0 : h0.size ≤ ar2 := Nat.le_trans E1.1 gar
  have g_ar2 : n0 ≤ ar2 := Nat.le_trans Z0 gar0
  have Zk : n0 ≤ T4.heap.size := Nat.le_trans Z0 KK.1
  have pre5 : Steps p.tables e below _ (T4.setTop (mkF m 15 #[.val (.ref a1), .val (.ref lb), .unset, .unset] [(.ref a1)])) := pre4.trans (by
    show Steps p.tables e below (T4.setTop (mkF m 13 #[.val (.ref a1), .unset, .unset, .unset] [(.ref lb)])) _
    refine XS.astoreN X4.here hx rfl (hb hby d15_13) rfl rfl (l' := #[.val (.ref a1), .val (.ref lb), .unset, .unset]) rfl ?_
    show Steps p.tables e below (T4.setTop (mkF m 14 #[.val (.ref a1), .val (.ref lb), .unset, .unset] [])) _
    refine XS.aloadN X4.here hx rfl (hb hby d15_14) rfl rfl ?_
    exact Steps.refl _)
  obtain ⟨cq6, kq6, q6a, q6b, q6c⟩ := isOf hZ (rfl : T4.heap = T4.heap) (A.1.keep KK)
  obtain ⟨_, _, ⟨T6, L6, k6, n6⟩, -, X6, ⟨Lc6, hQ6, l6, y6, z6⟩, st6⟩ := X4.interfaceBack hx (C := "java/util/ArrayList") (xi := (⟨"java/util/List", "iterator", "()Ljava/util/Iterator;"⟩ : MethodName)) (y := (⟨"java/util/ArrayList", "iterator", "()Ljava/util/Iterator;"⟩ : MethodName)) hown (mvT hZ (hw _ (List.mem_of_getElem? (i := 119) rfl))) (mvT hZ (hw _ (List.mem_of_getElem? (i := 120) rfl))) (mvT hZ (hw _ (List.mem_of_getElem? (i := 121) rfl))) (mvT hZ (hw _ (List.mem_of_getElem? (i := 122) rfl))) (mvT hZ (hw _ (List.mem_of_getElem? (i := 123) rfl))) (mvT hZ (hw _ (List.mem_of_getElem? (i := 124) rfl))) (mvT hZ (hw _ (List.mem_of_getElem? (i := 125) rfl))) (mvT hZ (hw _ (List.mem_of_getElem? (i := 89) rfl))) (by decide) (backOf (W := 0) (rmIt l Z a0 hw [] a1 (.ref ar) nn mc T4.heap n0 Zk (A.keep KK nin0)) hZ (hw _ (List.mem_of_getElem? (i := 126) rfl)) (hw _ (List.mem_of_getElem? (i := 4) rfl)) (by decide) (by decide)) q6a q6b q6c (g := (mkF m 15 #[.val (.ref a1), .val (.ref lb), .unset, .unset] [(.ref a1)])) rfl (by rw [hml]; rfl) (Steps.refl _) (argsL := []) (rest := []) (lenOf pd_rmFr_2 rfl) rfl (by show 2 * 0 + _ ≤ _; exact Nat.le_of_eq rfl) (hb hby d15_15) (fun _ _ => ⟨rfl, (rfl : T4.heap = T4.heap), (by decide : 2 + 1 ≤ _), (by decide : 68 + 4 ≤ _)⟩)
  dsimp only [Pt.U, Pt.locs, Pt.cells, Pt.slots] at X6 l6 y6 z6 st6 hQ6
  subst l6 y6 z6
  obtain ⟨rfl, N6q, K6, IP⟩ := hQ6
  have N6 := Fr.app N4 N6q
  have pre6 : Steps p.tables e below _ (T6.setTop (mkF m 20 #[.val (.ref a1), .val (.ref lb), .unset, .unset] [(.ref T4.heap.size)])) := pre5.trans (st6)
  obtain ⟨it, hit⟩ : ∃ z, z = T4.heap.size := ⟨_, rfl⟩
  rw [← hit] at IP pre6
  have git0 : h0.size ≤ it := by rw [hit]; exact KK.1
  have g_it : n0 ≤ it := Nat.le_trans Z0 git0
  have KI : Keep h0 T6.heap [] := KK.trans K6 (fun x hx => nomatch hx)
  have A2 := A1.keep K6 nin0
  have B2 : PAr Z T6.heap ar2 nn 0 (fun b => b = el) := B1.keep K6 nin0 (fun _ q => q.elim)
  have pre7 : Steps p.tables e below _ (T6.setTop (mkF m 21 #[.val (.ref a1), .val (.ref lb), .val (.ref it), .unset] [])) := pre6.trans (by
    show Steps p.tables e below (T6.setTop (mkF m 20 #[.val (.ref a1), .val (.ref lb), .unset, .unset] [(.ref it)])) _
    refine XS.astoreN X6.here hx rfl (hb hby d15_20) rfl rfl (l' := #[.val (.ref a1), .val (.ref lb), .val (.ref it), .unset]) rfl ?_
    exact Steps.refl _)
  have loop : ∀ (k kk : Nat) (i : Int32) (sx : Slot) (T : State) (locs : List Loc), One sx → Stand p l e ({ frames := 9, cells := 6, slots := 204, locals := 115 } : Room) s m #[(.ref a1)] below meth c T locs 3 72 → Fr n0 locs → i.toInt = kk → (kk : Int) + k = nn.toInt → Keep h0 T.heap [] → (∃ mc2, Ali Z T.heap lb (.ref ar2) i mc2) → PAr Z T.heap ar2 nn kk (fun b => b = el) → Itp Z T.heap it a1 i mc → ∃ (T' : State) (locs' : List Loc) (sx' : Slot), Stand p l e ({ frames := 9, cells := 6, slots := 204, locals := 115 } : Room) s m #[(.ref a1)] below meth c T' locs' 3 72 ∧ Fr n0 locs' ∧ Keep h0 T'.heap [] ∧ (∃ mc2, Ali Z T'.heap lb (.ref ar2) nn mc2) ∧ PAr Z T'.heap ar2 nn nn.toNatClampNeg (fun b => b = el) ∧ Steps p.tables e below (T.setTop (mkF m 21 #[.val (.ref a1), .val (.ref lb), .val (.ref it), sx] [])) (T'.setTop (mkF m 54 #[.val (.ref a1), .val (.ref lb), .val (.ref it), sx'] [])) := by
    intro k
    induction k with
    | zero =>
      intro kk i sx T locs hsx X Nf hi ik K ⟨mc2, A3⟩ B3 IP3
      have hi2 : nn = i := Int32.toInt_inj.mp (by omega)
      subst hi2
      have preL : Steps p.tables e below (T.setTop (mkF m 21 #[.val (.ref a1), .val (.ref lb), .val (.ref it), sx] [])) (T.setTop (mkF m 21 #[.val (.ref a1), .val (.ref lb), .val (.ref it), sx] [])) := Steps.refl _
      have ZT : n0 ≤ T.heap.size := Nat.le_trans Z0 K.1
      have AA := A.keep K nin0
      have pre8 : Steps p.tables e below _ (T.setTop (mkF m 22 #[.val (.ref a1), .val (.ref lb), .val (.ref it), sx] [(.ref it)])) := preL.trans (by
        show Steps p.tables e below (T.setTop (mkF m 21 #[.val (.ref a1), .val (.ref lb), .val (.ref it), sx] [])) _
        refine XS.aloadN X.here hx rfl (hb hby d15_21) rfl rfl ?_
        exact Steps.refl _)
      obtain ⟨cq9, kq9, q9a, q9b, q9c⟩ := isOf hZ (rfl : T.heap = T.heap) IP3.1
      obtain ⟨_, _, ⟨T9, L9, k9, n9⟩, -, X9, ⟨Lc9, hQ9, l9, y9, z9⟩, st9⟩ := X.interfaceBack hx (C := "java/util/ArrayList$Itr") (xi := (⟨"java/util/Iterator", "hasNext", "()Z"⟩ : MethodName)) (y := (⟨"java/util/ArrayList$Itr", "hasNext", "()Z"⟩ : MethodName)) hown (mvT hZ (hw _ (List.mem_of_getElem? (i := 142) rfl))) (mvT hZ (hw _ (List.mem_of_getElem? (i := 143) rfl))) (mvT hZ (hw _ (List.mem_of_getElem? (i := 144) rfl))) (mvT hZ (hw _ (List.mem_of_getElem? (i := 145) rfl))) (mvT hZ (hw _ (List.mem_of_getElem? (i := 146) rfl))) (mvT hZ (hw _ (List.mem_of_getElem? (i := 147) rfl))) (mvT hZ (hw _ (List.mem_of_getElem? (i := 148) rfl))) (mvT hZ (hw _ (List.mem_of_getElem? (i := 149) rfl))) (by decide) (backOf (W := 0) (rmHN l Z a0 hw [] it a1 (.ref ar) nn mc nn mc T.heap n0 ZT IP3 AA) hZ (hw _ (List.mem_of_getElem? (i := 150) rfl)) (hw _ (List.mem_of_getElem? (i := 129) rfl)) (by decide) (by decide)) q9a q9b q9c (g := (mkF m 22 #[.val (.ref a1), .val (.ref lb), .val (.ref it), sx] [(.ref it)])) rfl (by rw [hml]; rfl) (Steps.refl _) (argsL := []) (rest := []) (lenOf pd_rmFr_3 rfl) rfl (by show 2 * 0 + _ ≤ _; exact Nat.le_of_eq rfl) (hb hby d15_22) (fun _ _ => ⟨rfl, (rfl : T.heap = T.heap), (by decide : 3 + 0 ≤ _), (by decide : 72 + 0 ≤ _)⟩)
      dsimp only [Pt.U, Pt.locs, Pt.cells, Pt.slots] at X9 l9 y9 z9 st9 hQ9
      subst l9 y9 z9
      obtain ⟨rfl, N9q, hh9⟩ := hQ9
      have N9 := Fr.app Nf N9q
      have pre9 : Steps p.tables e below _ (T9.setTop (mkF m 27 #[.val (.ref a1), .val (.ref lb), .val (.ref it), sx] [(.int (own_hn_0_3 nn nn))])) := pre8.trans (st9)
      have hkk : kk = nn.toNatClampNeg := by have q := own_nat nn (by omega); omega
      have pre10 : Steps p.tables e below _ (T9.setTop (mkF m 54 #[.val (.ref a1), .val (.ref lb), .val (.ref it), sx] [])) := pre9.trans (by
        show Steps p.tables e below (T9.setTop (mkF m 27 #[.val (.ref a1), .val (.ref lb), .val (.ref it), sx] [(.int (own_hn_0_3 nn nn))])) _
        refine XS.ifYes X9.here hx rfl (pc0 := 27) (pc' := 54) rfl (hb hby d15_27) rfl ((if0 _ _).trans (teq (own_hn0 nn)).1) (by decide) (by decide) ?_
        exact Steps.refl _)
      exact ⟨T9, _, sx, X9, N9, by rw [hh9]; exact K, by rw [hh9]; exact ⟨mc2, A3⟩, by rw [hh9, ← hkk]; exact B3, pre10⟩
    | succ k ih =>
      intro kk i sx T locs hsx X Nf hi ik K ⟨mc2, A3⟩ B3 IP3
      have preL : Steps p.tables e below (T.setTop (mkF m 21 #[.val (.ref a1), .val (.ref lb), .val (.ref it), sx] [])) (T.setTop (mkF m 21 #[.val (.ref a1), .val (.ref lb), .val (.ref it), sx] [])) := Steps.refl _
      have ZT : n0 ≤ T.heap.size := Nat.le_trans Z0 K.1
      have AA := A.keep K nin0
      have pre11 : Steps p.tables e below _ (T.setTop (mkF m 22 #[.val (.ref a1), .val (.ref lb), .val (.ref it), sx] [(.ref it)])) := preL.trans (by
        show Steps p.tables e below (T.setTop (mkF m 21 #[.val (.ref a1), .val (.ref lb), .val (.ref it), sx] [])) _
        refine XS.aloadN X.here hx rfl (hb hby d15_21) rfl rfl ?_
        exact Steps.refl _)
      obtain ⟨cq12, kq12, q12a, q12b, q12c⟩ := isOf hZ (rfl : T.heap = T.heap) IP3.1
      obtain ⟨_, _, ⟨T12, L12, k12, n12⟩, -, X12, ⟨Lc12, hQ12, l12, y12, z12⟩, st12⟩ := X.interfaceBack hx (C := "java/util/ArrayList$Itr") (xi := (⟨"java/util/Iterator", "hasNext", "()Z"⟩ : MethodName)) (y := (⟨"java/util/ArrayList$Itr", "hasNext", "()Z"⟩ : MethodName)) hown (mvT hZ (hw _ (List.mem_of_getElem? (i := 142) rfl))) (mvT hZ (hw _ (List.mem_of_getElem? (i := 143) rfl))) (mvT hZ (hw _ (List.mem_of_getElem? (i := 144) rfl))) (mvT hZ (hw _ (List.mem_of_getElem? (i := 145) rfl))) (mvT hZ (hw _ (List.mem_of_getElem? (i := 146) rfl))) (mvT hZ (hw _ (List.mem_of_getElem? (i := 147) rfl))) (mvT hZ (hw _ (List.mem_of_getElem? (i := 148) rfl))) (mvT hZ (hw _ (List.mem_of_getElem? (i := 149) rfl))) (by decide) (backOf (W := 0) (rmHN l Z a0 hw [] it a1 (.ref ar) i mc nn mc T.heap n0 ZT IP3 AA) hZ (hw _ (List.mem_of_getElem? (i := 150) rfl)) (hw _ (List.mem_of_getElem? (i := 129) rfl)) (by decide) (by decide)) q12a q12b q12c (g := (mkF m 22 #[.val (.ref a1), .val (.ref lb), .val (.ref it), sx] [(.ref it)])) rfl (by rw [hml]; rfl) (Steps.refl _) (argsL := []) (rest := []) (lenOf pd_rmFr_3 rfl) rfl (by show 2 * 0 + _ ≤ _; exact Nat.le_of_eq rfl) (hb hby d15_22) (fun _ _ => ⟨rfl, (rfl : T.heap = T.heap), (by decide : 3 + 0 ≤ _), (by decide : 72 + 0 ≤ _)⟩)
      dsimp only [Pt.U, Pt.locs, Pt.cells, Pt.slots] at X12 l12 y12 z12 st12 hQ12
      subst l12 y12 z12
      obtain ⟨rfl, N12q, hh12⟩ := hQ12
      have N12 := Fr.app Nf N12q
      have pre12 : Steps p.tables e below _ (T12.setTop (mkF m 27 #[.val (.ref a1), .val (.ref lb), .val (.ref it), sx] [(.int (own_hn_0_3 i nn))])) := pre11.trans (st12)
      have hlt : i < nn := by rw [own_lt]; omega
      have hge : ¬ i < 0 := by rw [own_lt]; omega
      have hne : ¬ i = nn := fun q => own_irr nn (by rw [q] at hlt; exact hlt)
      have hki : i.toNatClampNeg = kk := by have q := own_nat i (by omega); omega
      have hkn : kk < nn.toNatClampNeg := by have q := own_nat nn (by omega); omega
      have LLT := (show LL Z h0 a1 nn from ⟨ar, mc, A, B⟩).keep K
      have BT : PAr Z T.heap ar nn nn.toNatClampNeg (own_E Z T.heap) := B.keep K nin0 (fun x q => ⟨q.1.keep K, q.2.keep K nin0⟩)
      have pre13 : Steps p.tables e below _ (T12.setTop (mkF m 31 #[.val (.ref a1), .val (.ref lb), .val (.ref it), sx] [(.ref it)])) := pre12.trans (by
        show Steps p.tables e below (T12.setTop (mkF m 27 #[.val (.ref a1), .val (.ref lb), .val (.ref it), sx] [(.int (own_hn_0_3 i nn))])) _
        refine XS.ifNo X12.here hx rfl (hb hby d15_27) rfl ((if0 _ _).trans (feq (own_hn1 i nn hne)).1) ?_
        show Steps p.tables e below (T12.setTop (mkF m 30 #[.val (.ref a1), .val (.ref lb), .val (.ref it), sx] [])) _
        refine XS.aloadN X12.here hx rfl (hb hby d15_30) rfl rfl ?_
        exact Steps.refl _)
      obtain ⟨cq14, kq14, q14a, q14b, q14c⟩ := isOf hZ hh12 IP3.1
      obtain ⟨_, _, ⟨T14, L14, k14, n14⟩, -, X14, ⟨Lc14, hQ14, l14, y14, z14⟩, st14⟩ := X12.interfaceBack hx (C := "java/util/ArrayList$Itr") (xi := (⟨"java/util/Iterator", "next", "()Ljava/lang/Object;"⟩ : MethodName)) (y := (⟨"java/util/ArrayList$Itr", "next", "()Ljava/lang/Object;"⟩ : MethodName)) hown (mvT hZ (hw _ (List.mem_of_getElem? (i := 154) rfl))) (mvT hZ (hw _ (List.mem_of_getElem? (i := 155) rfl))) (mvT hZ (hw _ (List.mem_of_getElem? (i := 156) rfl))) (mvT hZ (hw _ (List.mem_of_getElem? (i := 157) rfl))) (mvT hZ (hw _ (List.mem_of_getElem? (i := 158) rfl))) (mvT hZ (hw _ (List.mem_of_getElem? (i := 159) rfl))) (mvT hZ (hw _ (List.mem_of_getElem? (i := 160) rfl))) (mvT hZ (hw _ (List.mem_of_getElem? (i := 149) rfl))) (by decide) (backOf (W := 0) (rmNx l Z a0 hw [] it a1 ar i nn mc (own_E Z T.heap) T.heap n0 ZT IP3 AA BT hge hlt (by rw [hki]; exact hkn) g_it) hZ (hw _ (List.mem_of_getElem? (i := 161) rfl)) (hw _ (List.mem_of_getElem? (i := 129) rfl)) (by decide) (by decide)) q14a q14b q14c (g := (mkF m 31 #[.val (.ref a1), .val (.ref lb), .val (.ref it), sx] [(.ref it)])) rfl (by rw [hml]; rfl) (Steps.refl _) (argsL := []) (rest := []) (lenOf pd_rmFr_4 rfl) rfl (by show 2 * 0 + _ ≤ _; exact Nat.le_of_eq rfl) (hb hby d15_31) (fun _ _ => ⟨rfl, hh12, (by decide : 3 + 0 ≤ _), (by decide : 72 + 0 ≤ _)⟩)
      dsimp only [Pt.U, Pt.locs, Pt.cells, Pt.slots] at X14 l14 y14 z14 st14 hQ14
      subst l14 y14 z14
      obtain ⟨eb, rfl, N14q, hEb, hx1, V1, V2⟩ := hQ14
      have N14 := Fr.app N12 N14q
      have pre14 : Steps p.tables e below _ (T14.setTop (mkF m 36 #[.val (.ref a1), .val (.ref lb), .val (.ref it), sx] [(.ref eb)])) := pre13.trans (st14)
      have nit : it ≠ lb := ne_exa IP3.1 A3.1 (by decide)
      have nit2 : ar2 ≠ it := ne_exa B3.exa IP3.1 (by decide)
      have neb : eb ≠ it := ne_exa hEb.1 IP3.1 (by decide)
      have KX : Keep h0 T14.heap [] := (K.wr V1 (Or.inr git0)).wr V2 (Or.inr git0)
      have EX : own_E Z T14.heap eb := ⟨(hEb.1.wr V1).wr V2, (hEb.2.other V1 (Or.inl neb)).other V2 (Or.inl neb)⟩
      have A4 := (A3.other V1 nit.symm).other V2 nit.symm
      have B4 : PAr Z T14.heap ar2 nn kk (fun b => b = el) := (B3.other V1 nit2 (P' := fun b => b = el) (fun _ q => q)).other V2 nit2 (fun _ q => q)
      have IP4 := Itp.step hw IP3 V1 V2
      have ZX : n0 ≤ T14.heap.size := Nat.le_trans Z0 KX.1
      obtain ⟨T15, X15, e15, st15⟩ := castY X14 hx hZ hown (hw _ (List.mem_of_getElem? (i := 168) rfl)) (rfl : T14.heap = T14.heap) (Ins.of_exa EX.1 (hw _ (List.mem_of_getElem? (i := 89) rfl))) (g := (mkF m 36 #[.val (.ref a1), .val (.ref lb), .val (.ref it), sx] [(.ref eb)])) rfl rfl (hb hby d15_36)
      have pre15 : Steps p.tables e below _ (T15.setTop (mkF m 39 #[.val (.ref a1), .val (.ref lb), .val (.ref it), sx] [(.ref eb)])) := pre14.trans (st15 _ (Steps.refl _))
      have hst : storeLocals #[.val (.ref a1), .val (.ref lb), .val (.ref it), sx] 3 (.ref eb) = some #[.val (.ref a1), .val (.ref lb), .val (.ref it), .val (.ref eb)] := own_st3 hsx
      have pre16 : Steps p.tables e below _ (T15.setTop (mkF m 40 #[.val (.ref a1), .val (.ref lb), .val (.ref it), .val (.ref eb)] [])) := pre15.trans (XS.astoreN X15.here hx rfl (hb hby d15_39) rfl rfl (l' := #[.val (.ref a1), .val (.ref lb), .val (.ref it), .val (.ref eb)]) hst (Steps.refl _))
      have pre17 : Steps p.tables e below _ (T15.setTop (mkF m 42 #[.val (.ref a1), .val (.ref lb), .val (.ref it), .val (.ref eb)] [(.ref eb), (.ref lb)])) := pre16.trans (by
        show Steps p.tables e below (T15.setTop (mkF m 40 #[.val (.ref a1), .val (.ref lb), .val (.ref it), .val (.ref eb)] [])) _
        refine XS.aloadN X15.here hx rfl (hb hby d15_40) rfl rfl ?_
        show Steps p.tables e below (T15.setTop (mkF m 41 #[.val (.ref a1), .val (.ref lb), .val (.ref it), .val (.ref eb)] [(.ref lb)])) _
        refine XS.aloadN X15.here hx rfl (hb hby d15_41) rfl rfl ?_
        exact Steps.refl _)
      obtain ⟨_, _, ⟨T18, L18, k18, n18⟩, -, X18, ⟨Lc18, hQ18, l18, y18, z18⟩, st18⟩ := Jvm.LawKit.callS X15 hx (y := (⟨"java/util/List", "copyOf", "(Ljava/util/Collection;)Ljava/util/List;"⟩ : MethodName)) hown (mvT hZ (hw _ (List.mem_of_getElem? (i := 41) rfl))) (mvT hZ (hw _ (List.mem_of_getElem? (i := 42) rfl))) (mvT hZ (hw _ (List.mem_of_getElem? (i := 43) rfl))) (mvT hZ (hw _ (List.mem_of_getElem? (i := 44) rfl))) (by decide) (backOf (W := 1) (rmCo0 l Z a0 hw [] eb el T14.heap n0 ZX EX (Sta.keepN SE KX (fun x hx => nomatch hx))) hZ (hw _ (List.mem_of_getElem? (i := 44) rfl)) (hw _ (List.mem_of_getElem? (i := 43) rfl)) (by decide) (by decide)) (g := (mkF m 42 #[.val (.ref a1), .val (.ref lb), .val (.ref it), .val (.ref eb)] [(.ref eb), (.ref lb)])) rfl (by rw [hml]; rfl) (argsL := [(.ref eb)]) (rest := [(.ref lb)]) (lenOf pd_rmFr_5 rfl) rfl (by show 2 * 0 + _ ≤ _; exact Nat.le_of_eq rfl) (hb hby d15_42) (fun _ _ => ⟨rfl, e15, (by decide : 3 + 0 ≤ _), (by decide : 72 + 0 ≤ _)⟩)
      dsimp only [Pt.U, Pt.locs, Pt.cells, Pt.slots] at X18 l18 y18 z18 st18 hQ18
      subst l18 y18 z18
      obtain ⟨rfl, N18q, hh18⟩ := hQ18
      have N18 := Fr.app N14 N18q
      have pre18 : Steps p.tables e below _ (T18.setTop (mkF m 45 #[.val (.ref a1), .val (.ref lb), .val (.ref it), .val (.ref eb)] [(.ref el), (.ref lb)])) := pre17.trans (st18 _ (Steps.refl _))
      obtain ⟨cq19, kq19, q19a, q19b, q19c⟩ := isOf hZ hh18 A4.1
      obtain ⟨_, _, ⟨T19, L19, k19, n19⟩, -, X19, ⟨Lc19, hQ19, l19, y19, z19⟩, st19⟩ := X18.interfaceBack hx (C := "java/util/ArrayList") (xi := (⟨"java/util/List", "add", "(Ljava/lang/Object;)Z"⟩ : MethodName)) (y := (⟨"java/util/ArrayList", "add", "(Ljava/lang/Object;)Z"⟩ : MethodName)) hown (mvT hZ (hw _ (List.mem_of_getElem? (i := 82) rfl))) (mvT hZ (hw _ (List.mem_of_getElem? (i := 83) rfl))) (mvT hZ (hw _ (List.mem_of_getElem? (i := 84) rfl))) (mvT hZ (hw _ (List.mem_of_getElem? (i := 85) rfl))) (mvT hZ (hw _ (List.mem_of_getElem? (i := 86) rfl))) (mvT hZ (hw _ (List.mem_of_getElem? (i := 87) rfl))) (mvT hZ (hw _ (List.mem_of_getElem? (i := 88) rfl))) (mvT hZ (hw _ (List.mem_of_getElem? (i := 89) rfl))) (by decide) (backOf (W := 0) (rmAd l Z a0 hw [] lb el ar2 i nn mc2 kk _ T14.heap n0 ZX A4 B4 hge hlt (Ins.of_exa (EE.keep KX) (hw _ (List.mem_of_getElem? (i := 169) rfl))) g_lb g_ar2) hZ (hw _ (List.mem_of_getElem? (i := 90) rfl)) (hw _ (List.mem_of_getElem? (i := 4) rfl)) (by decide) (by decide)) q19a q19b q19c (g := (mkF m 45 #[.val (.ref a1), .val (.ref lb), .val (.ref it), .val (.ref eb)] [(.ref el), (.ref lb)])) rfl (by rw [hml]; rfl) (Steps.refl _) (argsL := [(.ref el)]) (rest := []) (lenOf pd_rmFr_6 rfl) rfl (by show 2 * 0 + _ ≤ _; exact Nat.le_of_eq rfl) (hb hby d15_45) (fun _ _ => ⟨rfl, hh18, (by decide : 3 + 0 ≤ _), (by decide : 72 + 0 ≤ _)⟩)
      dsimp only [Pt.U, Pt.locs, Pt.cells, Pt.slots] at X19 l19 y19 z19 st19 hQ19
      subst l19 y19 z19
      obtain ⟨rfl, N19q, hx2, hx3, W1, W2, W3⟩ := hQ19
      have N19 := Fr.app N18 N19q
      have pre19 : Steps p.tables e below _ (T19.setTop (mkF m 50 #[.val (.ref a1), .val (.ref lb), .val (.ref it), .val (.ref eb)] [(.int (1 : Int32))])) := pre18.trans (st19)
      obtain ⟨A5, B5⟩ := own_add hw A4 B4 hki hkn W1 W2 W3 (P' := fun b => b = el) (fun _ q => q) rfl
      have K5 := own_keep3 KX W1 W2 W3 glb0 gar0 glb0
      have IP5 := ((IP4.other W1 nit).other W2 nit2.symm).other W3 nit
      have pre20 : Steps p.tables e below _ (T19.setTop (mkF m 21 #[.val (.ref a1), .val (.ref lb), .val (.ref it), .val (.ref eb)] [])) := pre19.trans (by
        show Steps p.tables e below (T19.setTop (mkF m 50 #[.val (.ref a1), .val (.ref lb), .val (.ref it), .val (.ref eb)] [(.int (1 : Int32))])) _
        refine XS.pop X19.here hx rfl (hb hby d15_50) rfl rfl ?_
        show Steps p.tables e below (T19.setTop (mkF m 51 #[.val (.ref a1), .val (.ref lb), .val (.ref it), .val (.ref eb)] [])) _
        refine XS.goto X19.here hx rfl (pc0 := 51) (pc' := 21) rfl (hb hby d15_51) (by decide) (by decide) ?_
        exact Steps.refl _)
      have ei := own_inc i (by omega) (by omega)
      obtain ⟨T', lc', sx', q⟩ := ih (kk + 1) (i + (1 : Int32)) (.val (.ref eb)) T19 _ (One.val (w := .ref eb) rfl) X19 N19 (by omega) (by omega) K5 ⟨_, A5⟩ B5 IP5
      obtain ⟨q1, q2, q3, q4, q5, q6⟩ := q
      exact ⟨T', lc', sx', q1, q2, q3, q4, q5, pre20.trans q6⟩
  obtain ⟨T9, l9, sx9, X9, N9, K9, ⟨mc9, A9⟩, B9, st9⟩ := loop nn.toInt.toNat 0 (0 : Int32) .unset T6 _ One.u X6 N6 rfl (by have q := Int.toNat_of_nonneg (show 0 ≤ nn.toInt by omega); omega) KI ⟨_, A2⟩ B2 IP
  have Z9 : n0 ≤ T9.heap.size := Nat.le_trans Z0 K9.1
  have pre99 : Steps p.tables e below _ (T9.setTop (mkF m 54 #[.val (.ref a1), .val (.ref lb), .val (.ref it), sx9] [])) := pre7.trans st9
  have pre21 : Steps p.tables e below _ (T9.setTop (mkF m 55 #[.val (.ref a1), .val (.ref lb), .val (.ref it), sx9] [(.ref lb)])) := pre99.trans (by
    show Steps p.tables e below (T9.setTop (mkF m 54 #[.val (.ref a1), .val (.ref lb), .val (.ref it), sx9] [])) _
    refine XS.aloadN X9.here hx rfl (hb hby d15_54) rfl rfl ?_
    exact Steps.refl _)
  obtain ⟨_, _, ⟨T22, L22, k22, n22⟩, -, X22, ⟨Lc22, hQ22, l22, y22, z22⟩, st22⟩ := Jvm.LawKit.callS X9 hx (y := (⟨"java/util/List", "copyOf", "(Ljava/util/Collection;)Ljava/util/List;"⟩ : MethodName)) hown (mvT hZ (hw _ (List.mem_of_getElem? (i := 41) rfl))) (mvT hZ (hw _ (List.mem_of_getElem? (i := 42) rfl))) (mvT hZ (hw _ (List.mem_of_getElem? (i := 43) rfl))) (mvT hZ (hw _ (List.mem_of_getElem? (i := 44) rfl))) (by decide) (backOf (W := 0) (rmCon l Z a0 hw [] lb ar2 mr nn mc9 (fun b => b = el) T9.heap n0 Z9 A9 B9 (fun x q => by rw [q]; exact Ins.of_exa (EE.keep K9) (hw _ (List.mem_of_getElem? (i := 169) rfl))) M hp1 hp2) hZ (hw _ (List.mem_of_getElem? (i := 44) rfl)) (hw _ (List.mem_of_getElem? (i := 43) rfl)) (by decide) (by decide)) (g := (mkF m 55 #[.val (.ref a1), .val (.ref lb), .val (.ref it), sx9] [(.ref lb)])) rfl (by rw [hml]; rfl) (argsL := [(.ref lb)]) (rest := []) (lenOf pd_rmFr_5 rfl) rfl (by show 2 * 0 + _ ≤ _; exact Nat.le_of_eq rfl) (hb hby d15_55) (fun _ _ => ⟨rfl, (rfl : T9.heap = T9.heap), (by decide : 3 + 3 ≤ _), (by decide : 72 + 132 ≤ _)⟩)
  dsimp only [Pt.U, Pt.locs, Pt.cells, Pt.slots] at X22 l22 y22 z22 st22 hQ22
  subst l22 y22 z22
  obtain ⟨r, rfl, N22q, K22⟩ := hQ22
  have N22 := Fr.app N9 N22q
  have pre22 : Steps p.tables e below _ (T22.setTop (mkF m 58 #[.val (.ref a1), .val (.ref lb), .val (.ref it), sx9] [(.ref r)])) := pre21.trans (st22 _ (Steps.refl _))
  obtain ⟨fs, hr, hrun, hended, hW, hsame⟩ := X22.leave (v := some (.ref r)) (fun h => by rw [Bd.returns] at h; cases h)
  refine ⟨_, _, pre22.trans ?_, hrun, hended, _, _, rfl, ?_, ⟨_, rfl⟩, hW, hsame.mono (by decide) (by decide)⟩
  · exact X22.areturnOut hx rfl Bd.returns rfl (hb hby d15_58) hr
  · exact ⟨r, rfl, N22, K9.trans K22 (fun x hx => nomatch hx)⟩
theorem d14_0 : decode jdk_45_method_3_code 0 = .ok (.aload_n 0, 1) := by decide +kernel
theorem d14_1 : decode jdk_45_method_3_code 1 = .ok (.getfield 7, 3) := by decide +kernel
theorem d14_4 : decode jdk_45_method_3_code 4 = .ok (.arraylength, 1) := by decide +kernel
theorem d14_5 : decode jdk_45_method_3_code 5 = .ok (.ireturn, 1) := by decide +kernel
theorem pn_rmLNs : plainName "java/util/ImmutableCollections$ListN" = true := by first | (simp [plainName, overriddenIn]; done) | decide +kernel
theorem ef_rmLNs (m : MethodId) (a1 : Addr) : entryFrame m #[(.ref a1)] 1 = (mkF m 0 #[.val (.ref a1)] []) := by first | (simp [entryFrame, mkF, argsToLocals, Value.category]; done) | rfl
def Q_rmLNs (Z : State) (a1 : Addr) (ea : Addr) (ce : Cell) (h0 : Heap) (n0 : Nat) (v : Option Value) (h : Heap) (L : List Loc) : Prop := v = some (.int (0 : Int32)) ∧ Fr n0 L ∧ h = h0
set_option maxRecDepth 65536 in
set_option maxHeartbeats 40000000 in
theorem rmLNs (l : Launch) (Z : State) (a0 : Array Value) (hw : ∀ d ∈ tables_1, d.before a0 Z = true) (ws : List Jvm.Cond) (a1 : Addr) (ea : Addr) (ce : Cell) (h0 : Heap) (n0 : Nat) (Z0 : n0 ≤ h0.size) (FE : Fld Z h0 a1 "java/util/ImmutableCollections$ListN" "elements" "[Ljava/lang/Object;" (.ref ea)) (AE : Arr Z h0 ea ce (.object "java/lang/Object")) (SZ : ce.slots.size = (0 : Int32).toNatClampNeg) :
    MetFree l (⟨"java/util/ImmutableCollections$ListN", "size", "()I"⟩ : MethodName) (head1 (Jvm.Cond.code (⟨"java/util/ImmutableCollections$ListN", "size", "()I"⟩ : MethodName) jdk_45_method_3_code 1 (some .int) :: ws) ({ frames := 0, cells := 0, slots := 0, locals := 0 } : Room)) (fun a U => a = #[(.ref a1)] ∧ Z.Warmed39 U.vm ∧ U.heap = h0) (fun _ _ _ _ _ => True) (fun _ U o U' => ∃ v L, o = .returned v ∧ Q_rmLNs Z a1 ea ce h0 n0 v U'.heap L ∧ FrameEnd U o U' L ({ frames := 0, cells := 0, slots := 0, locals := 0 } : Room).cells ({ frames := 0, cells := 0, slots := 0, locals := 0 } : Room).slots) := by
  refine MetFree.of_bodySF (plainFor_of_name pn_rmLNs) hisR ?_
  intro p e s m args below meth c s₁ Bd hml0 hP hK
  obtain ⟨rfl, hZ, hh⟩ := hP
  have hx := Bd.exec
  have hby := Bd.bytes
  have hml : c.maxLocals = 1 := hml0
  have hown : s.vm.findClass "java/util/ImmutableCollections$ListN" = some m.cls := findClass_of_methodNamed Bd.named
  have hnm := (name_of_methodNamed Bd.named Bd.method).1
  have X0 : Stand p l e ({ frames := 0, cells := 0, slots := 0, locals := 0 } : Room) s m #[(.ref a1)] below meth c s₁ [] 0 0 := Stand.of_body Bd
  have e0 : s₁.heap = h0 := by rw [← hh, Bd.state]; rfl
  have N0 := Fr.nil n0
  have pre0 : Steps p.tables e below (s₁.setTop (entryFrame m #[(.ref a1)] 1)) (s₁.setTop (mkF m 0 #[.val (.ref a1)] [])) := castTop (ef_rmLNs m a1) (Steps.refl _)
  have pre1 : Steps p.tables e below _ (s₁.setTop (mkF m 1 #[.val (.ref a1)] [(.ref a1)])) := pre0.trans (by
    show Steps p.tables e below (s₁.setTop (mkF m 0 #[.val (.ref a1)] [])) _
    refine XS.aloadN X0.here hx rfl (hb hby d14_0) rfl rfl ?_
    exact Steps.refl _)
  obtain ⟨T2, X2, e2, st2⟩ := getF X0 hx hZ hown (host := "") (Or.inl (hw _ (List.mem_of_getElem? (i := 109) rfl))) Via.refl e0 FE (g := (mkF m 1 #[.val (.ref a1)] [(.ref a1)])) rfl rfl (hb hby d14_1)
  have pre2 : Steps p.tables e below _ (T2.setTop (mkF m 4 #[.val (.ref a1)] [(.ref ea)])) := pre1.trans (st2 _ (Steps.refl _))
  have pre3 : Steps p.tables e below _ (T2.setTop (mkF m 5 #[.val (.ref a1)] [(.int (0 : Int32))])) := pre2.trans (by
    show Steps p.tables e below (T2.setTop (mkF m 4 #[.val (.ref a1)] [(.ref ea)])) _
    refine X2.arraylength hx (by rw [e2]; exact AE.1) (State.isArrayOf_alike hZ.alike AE.2.1) (g := (mkF m 4 #[.val (.ref a1)] [(.ref ea)])) rfl rfl (hb hby d14_4) _ ?_
    rw [len_of SZ (by decide)]
    exact Steps.refl _)
  obtain ⟨fs, hr, hrun, hended, hW, hsame⟩ := X2.leave (v := some (.int (0 : Int32))) (fun h => by rw [Bd.returns] at h; cases h)
  refine ⟨_, _, pre3.trans ?_, hrun, hended, _, _, rfl, ?_, ⟨_, rfl⟩, hW, hsame.mono (by decide) (by decide)⟩
  · exact retI X2 hx Bd.returns (hb hby d14_5) hr
  · exact ⟨rfl, N0, e2⟩
theorem d5_0 : decode prog_38_method_1_code 0 = .ok (.aload_n 0, 1) := by decide +kernel
theorem d5_1 : decode prog_38_method_1_code 1 = .ok (.invokespecial 1, 3) := by decide +kernel
theorem d5_4 : decode prog_38_method_1_code 4 = .ok (.iload_n 2, 1) := by decide +kernel
theorem d5_5 : decode prog_38_method_1_code 5 = .ok (.iconst 1, 1) := by decide +kernel
theorem d5_6 : decode prog_38_method_1_code 6 = .ok (.if_icmp .lt 17, 3) := by decide +kernel
theorem d5_9 : decode prog_38_method_1_code 9 = .ok (.iload_n 1, 1) := by decide +kernel
theorem d5_10 : decode prog_38_method_1_code 10 = .ok (.ifCond .lt 13, 3) := by decide +kernel
theorem d5_13 : decode prog_38_method_1_code 13 = .ok (.iload_n 1, 1) := by decide +kernel
theorem d5_14 : decode prog_38_method_1_code 14 = .ok (.iload_n 2, 1) := by decide +kernel
theorem d5_15 : decode prog_38_method_1_code 15 = .ok (.if_icmp .gt 8, 3) := by decide +kernel
theorem d5_18 : decode prog_38_method_1_code 18 = .ok (.iload_n 3, 1) := by decide +kernel
theorem d5_19 : decode prog_38_method_1_code 19 = .ok (.iconst 1, 1) := by decide +kernel
theorem d5_20 : decode prog_38_method_1_code 20 = .ok (.if_icmp .ge 19, 3) := by decide +kernel
theorem d5_39 : decode prog_38_method_1_code 39 = .ok (.aload_n 0, 1) := by decide +kernel
theorem d5_40 : decode prog_38_method_1_code 40 = .ok (.iload_n 1, 1) := by decide +kernel
theorem d5_41 : decode prog_38_method_1_code 41 = .ok (.putfield 16, 3) := by decide +kernel
theorem d5_44 : decode prog_38_method_1_code 44 = .ok (.aload_n 0, 1) := by decide +kernel
theorem d5_45 : decode prog_38_method_1_code 45 = .ok (.iload_n 2, 1) := by decide +kernel
theorem d5_46 : decode prog_38_method_1_code 46 = .ok (.putfield 22, 3) := by decide +kernel
theorem d5_49 : decode prog_38_method_1_code 49 = .ok (.aload_n 0, 1) := by decide +kernel
theorem d5_50 : decode prog_38_method_1_code 50 = .ok (.iload_n 3, 1) := by decide +kernel
theorem d5_51 : decode prog_38_method_1_code 51 = .ok (.putfield 25, 3) := by decide +kernel
theorem d5_54 : decode prog_38_method_1_code 54 = .ok (.aload_n 0, 1) := by decide +kernel
theorem d5_55 : decode prog_38_method_1_code 55 = .ok (.aload 4, 2) := by decide +kernel
theorem d5_57 : decode prog_38_method_1_code 57 = .ok (.invokestatic 28, 3) := by decide +kernel
theorem d5_60 : decode prog_38_method_1_code 60 = .ok (.putfield 34, 3) := by decide +kernel
theorem d5_63 : decode prog_38_method_1_code 63 = .ok (.iload_n 2, 1) := by decide +kernel
theorem d5_64 : decode prog_38_method_1_code 64 = .ok (.iconst 1, 1) := by decide +kernel
theorem d5_65 : decode prog_38_method_1_code 65 = .ok (.iadd, 1) := by decide +kernel
theorem d5_66 : decode prog_38_method_1_code 66 = .ok (.invokestatic 38, 3) := by decide +kernel
theorem d5_69 : decode prog_38_method_1_code 69 = .ok (.astore 5, 2) := by decide +kernel
theorem d5_71 : decode prog_38_method_1_code 71 = .ok (.iload_n 2, 1) := by decide +kernel
theorem d5_72 : decode prog_38_method_1_code 72 = .ok (.iconst 1, 1) := by decide +kernel
theorem d5_73 : decode prog_38_method_1_code 73 = .ok (.iadd, 1) := by decide +kernel
theorem d5_74 : decode prog_38_method_1_code 74 = .ok (.invokestatic 38, 3) := by decide +kernel
theorem d5_77 : decode prog_38_method_1_code 77 = .ok (.astore 6, 2) := by decide +kernel
theorem d5_79 : decode prog_38_method_1_code 79 = .ok (.iconst 0, 1) := by decide +kernel
theorem d5_80 : decode prog_38_method_1_code 80 = .ok (.istore 7, 2) := by decide +kernel
theorem d5_82 : decode prog_38_method_1_code 82 = .ok (.iload 7, 2) := by decide +kernel
theorem d5_84 : decode prog_38_method_1_code 84 = .ok (.aload_n 0, 1) := by decide +kernel
theorem d5_85 : decode prog_38_method_1_code 85 = .ok (.getfield 34, 3) := by decide +kernel
theorem d5_88 : decode prog_38_method_1_code 88 = .ok (.invokeinterface 42 1, 5) := by decide +kernel
theorem d5_93 : decode prog_38_method_1_code 93 = .ok (.if_icmp .ge 120, 3) := by decide +kernel
theorem d5_213 : decode prog_38_method_1_code 213 = .ok (.aload_n 0, 1) := by decide +kernel
theorem d5_214 : decode prog_38_method_1_code 214 = .ok (.aload 5, 2) := by decide +kernel
theorem d5_216 : decode prog_38_method_1_code 216 = .ok (.invokestatic 79, 3) := by decide +kernel
theorem d5_219 : decode prog_38_method_1_code 219 = .ok (.putfield 83, 3) := by decide +kernel
theorem d5_222 : decode prog_38_method_1_code 222 = .ok (.aload_n 0, 1) := by decide +kernel
theorem d5_223 : decode prog_38_method_1_code 223 = .ok (.aload 6, 2) := by decide +kernel
theorem d5_225 : decode prog_38_method_1_code 225 = .ok (.invokestatic 79, 3) := by decide +kernel
theorem d5_228 : decode prog_38_method_1_code 228 = .ok (.putfield 86, 3) := by decide +kernel
theorem d5_231 : decode prog_38_method_1_code 231 = .ok (.return_, 1) := by decide +kernel
theorem pn_rmNet : plainName "com/example/trips_into_trajectories/tripsintotrajectories/network/Network" = true := by first | (simp [plainName, overriddenIn]; done) | decide +kernel
theorem pd_rmNet_0 : parseMethodDescriptor "(Ljava/util/Collection;)Ljava/util/List;" = some ⟨[(.object "java/util/Collection")], some (.object "java/util/List")⟩ := by decide +kernel
theorem pd_rmNet_1 : parseMethodDescriptor "(I)Ljava/util/List;" = some ⟨[.int], some (.object "java/util/List")⟩ := by decide +kernel
theorem pd_rmNet_2 : parseMethodDescriptor "()I" = some ⟨[], some .int⟩ := by decide +kernel
theorem pd_rmNet_3 : parseMethodDescriptor "(Ljava/util/List;)Ljava/util/List;" = some ⟨[(.object "java/util/List")], some (.object "java/util/List")⟩ := by decide +kernel
theorem ef_rmNet (m : MethodId) (a1 : Addr) (p2 : Int32) (p3 : Int32) (p4 : Int32) (a5 : Addr) : entryFrame m #[(.ref a1), (.int p2), (.int p3), (.int p4), (.ref a5)] 9 = (mkF m 0 #[.val (.ref a1), .val (.int p2), .val (.int p3), .val (.int p4), .val (.ref a5), .unset, .unset, .unset, .unset] []) := by first | (simp [entryFrame, mkF, argsToLocals, Value.category]; done) | rfl
def Q_rmNet (Z : State) (a1 : Addr) (p2 : Int32) (p3 : Int32) (p4 : Int32) (a5 : Addr) (da el mr ea : Addr) (ce : Cell) (h0 : Heap) (n0 : Nat) (v : Option Value) (h : Heap) (L : List Loc) : Prop := v = none ∧ Fr n0 L ∧ Keep h0 h [a1] ∧ Exa Z h a1 "com/example/trips_into_trajectories/tripsintotrajectories/network/Network" ∧ Fld Z h a1 "com/example/trips_into_trajectories/tripsintotrajectories/network/Network" "nodes" "I" (.int p3)
set_option maxRecDepth 65536 in
set_option maxHeartbeats 40000000 in
theorem rmNet (l : Launch) (Z : State) (a0 : Array Value) (hw : ∀ d ∈ tables_1, d.before a0 Z = true) (ws : List Jvm.Cond) (a1 : Addr) (p2 : Int32) (p3 : Int32) (p4 : Int32) (a5 : Addr) (da el mr ea : Addr) (ce : Cell) (h0 : Heap) (n0 : Nat) (Z0 : n0 ≤ h0.size) (hn1 : 1 ≤ p3.toInt) (hn2 : p3.toInt ≤ 64) (u1 : ¬ p2 < 0) (u2 : ¬ p3 < p2) (u3 : ¬ p4 < 1) (E : Exa Z h0 a1 "com/example/trips_into_trajectories/tripsintotrajectories/network/Network") (F1 : Fld Z h0 a1 "com/example/trips_into_trajectories/tripsintotrajectories/network/Network" "zones" "I" (.int (0 : Int32))) (F2 : Fld Z h0 a1 "com/example/trips_into_trajectories/tripsintotrajectories/network/Network" "nodes" "I" (.int (0 : Int32))) (F3 : Fld Z h0 a1 "com/example/trips_into_trajectories/tripsintotrajectories/network/Network" "firstThruNode" "I" (.int (0 : Int32))) (F4 : Fld Z h0 a1 "com/example/trips_into_trajectories/tripsintotrajectories/network/Network" "links" "Ljava/util/List;" .null) (F5 : Fld Z h0 a1 "com/example/trips_into_trajectories/tripsintotrajectories/network/Network" "outgoing" "Ljava/util/List;" .null) (F6 : Fld Z h0 a1 "com/example/trips_into_trajectories/tripsintotrajectories/network/Network" "incoming" "Ljava/util/List;" .null) (E5 : own_E Z h0 a5) (g_a1 : n0 ≤ a1) (SD : Sta Z h0 "java/util/ArrayList" "DEFAULTCAPACITY_EMPTY_ELEMENTDATA" "[Ljava/lang/Object;" (.ref da)) (SE : Sta Z h0 "java/util/ImmutableCollections" "EMPTY_LIST" "Ljava/util/ImmutableCollections$ListN;" (.ref el)) (EE : Exa Z h0 el "java/util/ImmutableCollections$ListN") (FE : Fld Z h0 el "java/util/ImmutableCollections$ListN" "elements" "[Ljava/lang/Object;" (.ref ea)) (AE : Arr Z h0 ea ce (.object "java/lang/Object")) (SZ : ce.slots.size = (0 : Int32).toNatClampNeg) (M : Mir Z "[Ljava/lang/Object;" mr) :
    MetFree l (⟨"com/example/trips_into_trajectories/tripsintotrajectories/network/Network", "<init>", "(IIILjava/util/List;)V"⟩ : MethodName) (head1 (Jvm.Cond.code (⟨"com/example/trips_into_trajectories/tripsintotrajectories/network/Network", "<init>", "(IIILjava/util/List;)V"⟩ : MethodName) prog_38_method_1_code 9 none :: ws) ({ frames := 10, cells := 146, slots := 934, locals := 131 } : Room)) (fun a U => a = #[(.ref a1), (.int p2), (.int p3), (.int p4), (.ref a5)] ∧ Z.Warmed39 U.vm ∧ U.heap = h0) (fun _ _ _ _ _ => True) (fun _ U o U' => ∃ v L, o = .returned v ∧ Q_rmNet Z a1 p2 p3 p4 a5 da el mr ea ce h0 n0 v U'.heap L ∧ FrameEnd U o U' L ({ frames := 10, cells := 146, slots := 934, locals := 131 } : Room).cells ({ frames := 10, cells := 146, slots := 934, locals := 131 } : Room).slots) := by
  refine MetFree.of_bodySF (plainFor_of_name pn_rmNet) hisR ?_
  intro p e s m args below meth c s₁ Bd hml0 hP hK
  obtain ⟨rfl, hZ, hh⟩ := hP
  have hx := Bd.exec
  have hby := Bd.bytes
  have hml : c.maxLocals = 9 := hml0
  have hown : s.vm.findClass "com/example/trips_into_trajectories/tripsintotrajectories/network/Network" = some m.cls := findClass_of_methodNamed Bd.named
  have hnm := (name_of_methodNamed Bd.named Bd.method).1
  have X0 : Stand p l e ({ frames := 10, cells := 146, slots := 934, locals := 131 } : Room) s m #[(.ref a1), (.int p2), (.int p3), (.int p4), (.ref a5)] below meth c s₁ [] 0 0 := Stand.of_body Bd
  have e0 : s₁.heap = h0 := by rw [← hh, Bd.state]; rfl
  have N0 := Fr.nil n0
  have pre0 : Steps p.tables e below (s₁.setTop (entryFrame m #[(.ref a1), (.int p2), (.int p3), (.int p4), (.ref a5)] 9)) (s₁.setTop (mkF m 0 #[.val (.ref a1), .val (.int p2), .val (.int p3), .val (.int p4), .val (.ref a5), .unset, .unset, .unset, .unset] [])) := castTop (ef_rmNet m a1 p2 p3 p4 a5) (Steps.refl _)
  have e01 : (1 : Int32).toInt = 1 := rfl
  have u0 : ¬ p3 < 1 := by rw [own_lt]; omega
  have ei := own_inc p3 (by omega) (by omega)
  have pre1 : Steps p.tables e below _ (s₁.setTop (mkF m 1 #[.val (.ref a1), .val (.int p2), .val (.int p3), .val (.int p4), .val (.ref a5), .unset, .unset, .unset, .unset] [(.ref a1)])) := pre0.trans (by
    show Steps p.tables e below (s₁.setTop (mkF m 0 #[.val (.ref a1), .val (.int p2), .val (.int p3), .val (.int p4), .val (.ref a5), .unset, .unset, .unset, .unset] [])) _
    refine XS.aloadN X0.here hx rfl (hb hby d5_0) rfl rfl ?_
    exact Steps.refl _)
  obtain ⟨T2, X2, e2, st2⟩ := initO X0 hx hZ hown (hw _ (List.mem_of_getElem? (i := 34) rfl)) (hw _ (List.mem_of_getElem? (i := 21) rfl)) (hw _ (List.mem_of_getElem? (i := 22) rfl)) e0 (g := (mkF m 1 #[.val (.ref a1), .val (.int p2), .val (.int p3), .val (.int p4), .val (.ref a5), .unset, .unset, .unset, .unset] [(.ref a1)])) rfl (by rw [hml]; rfl) rfl (hb hby d5_1) (by decide) (W := 0) (by show 2 * 0 + _ ≤ _; exact Nat.le_of_eq rfl) (by decide)
  have pre2 : Steps p.tables e below _ (T2.setTop (mkF m 4 #[.val (.ref a1), .val (.int p2), .val (.int p3), .val (.int p4), .val (.ref a5), .unset, .unset, .unset, .unset] [])) := pre1.trans (st2 _ (Steps.refl _))
  have pre3 : Steps p.tables e below _ (T2.setTop (mkF m 41 #[.val (.ref a1), .val (.int p2), .val (.int p3), .val (.int p4), .val (.ref a5), .unset, .unset, .unset, .unset] [(.int p2), (.ref a1)])) := pre2.trans (by
    show Steps p.tables e below (T2.setTop (mkF m 4 #[.val (.ref a1), .val (.int p2), .val (.int p3), .val (.int p4), .val (.ref a5), .unset, .unset, .unset, .unset] [])) _
    refine XS.iloadN X2.here hx rfl (hb hby d5_4) rfl ?_
    show Steps p.tables e below (T2.setTop (mkF m 5 #[.val (.ref a1), .val (.int p2), .val (.int p3), .val (.int p4), .val (.ref a5), .unset, .unset, .unset, .unset] [(.int p3)])) _
    refine XS.iconst X2.here hx rfl (hb hby d5_5) ?_
    show Steps p.tables e below (T2.setTop (mkF m 6 #[.val (.ref a1), .val (.int p2), .val (.int p3), .val (.int p4), .val (.ref a5), .unset, .unset, .unset, .unset] [(.int (1 : Int32)), (.int p3)])) _
    refine XS.icmpNo X2.here hx rfl (hb hby d5_6) rfl (flt u0).1 ?_
    show Steps p.tables e below (T2.setTop (mkF m 9 #[.val (.ref a1), .val (.int p2), .val (.int p3), .val (.int p4), .val (.ref a5), .unset, .unset, .unset, .unset] [])) _
    refine XS.iloadN X2.here hx rfl (hb hby d5_9) rfl ?_
    show Steps p.tables e below (T2.setTop (mkF m 10 #[.val (.ref a1), .val (.int p2), .val (.int p3), .val (.int p4), .val (.ref a5), .unset, .unset, .unset, .unset] [(.int p2)])) _
    refine XS.ifNo X2.here hx rfl (hb hby d5_10) rfl ((if0 _ _).trans (flt u1).1) ?_
    show Steps p.tables e below (T2.setTop (mkF m 13 #[.val (.ref a1), .val (.int p2), .val (.int p3), .val (.int p4), .val (.ref a5), .unset, .unset, .unset, .unset] [])) _
    refine XS.iloadN X2.here hx rfl (hb hby d5_13) rfl ?_
    show Steps p.tables e below (T2.setTop (mkF m 14 #[.val (.ref a1), .val (.int p2), .val (.int p3), .val (.int p4), .val (.ref a5), .unset, .unset, .unset, .unset] [(.int p2)])) _
    refine XS.iloadN X2.here hx rfl (hb hby d5_14) rfl ?_
    show Steps p.tables e below (T2.setTop (mkF m 15 #[.val (.ref a1), .val (.int p2), .val (.int p3), .val (.int p4), .val (.ref a5), .unset, .unset, .unset, .unset] [(.int p3), (.int p2)])) _
    refine XS.icmpNo X2.here hx rfl (hb hby d5_15) rfl (flt u2).2.2.1 ?_
    show Steps p.tables e below (T2.setTop (mkF m 18 #[.val (.ref a1), .val (.int p2), .val (.int p3), .val (.int p4), .val (.ref a5), .unset, .unset, .unset, .unset] [])) _
    refine XS.iloadN X2.here hx rfl (hb hby d5_18) rfl ?_
    show Steps p.tables e below (T2.setTop (mkF m 19 #[.val (.ref a1), .val (.int p2), .val (.int p3), .val (.int p4), .val (.ref a5), .unset, .unset, .unset, .unset] [(.int p4)])) _
    refine XS.iconst X2.here hx rfl (hb hby d5_19) ?_
    show Steps p.tables e below (T2.setTop (mkF m 20 #[.val (.ref a1), .val (.int p2), .val (.int p3), .val (.int p4), .val (.ref a5), .unset, .unset, .unset, .unset] [(.int (1 : Int32)), (.int p4)])) _
    refine XS.icmpYes X2.here hx rfl (pc0 := 20) (pc' := 39) rfl (hb hby d5_20) rfl (flt u3).2.1 (by decide) (by decide) ?_
    show Steps p.tables e below (T2.setTop (mkF m 39 #[.val (.ref a1), .val (.int p2), .val (.int p3), .val (.int p4), .val (.ref a5), .unset, .unset, .unset, .unset] [])) _
    refine XS.aloadN X2.here hx rfl (hb hby d5_39) rfl rfl ?_
    show Steps p.tables e below (T2.setTop (mkF m 40 #[.val (.ref a1), .val (.int p2), .val (.int p3), .val (.int p4), .val (.ref a5), .unset, .unset, .unset, .unset] [(.ref a1)])) _
    refine XS.iloadN X2.here hx rfl (hb hby d5_40) rfl ?_
    exact Steps.refl _)
  obtain ⟨T4, h4, X4, e4, W4, st4⟩ := putF X2 hx hZ hown (host := "") (Or.inl (hw _ (List.mem_of_getElem? (i := 35) rfl))) Via.refl e2 F1 E (Or.inr ⟨(hw _ (List.mem_of_getElem? (i := 36) rfl)), rfl, hnm⟩) (hw _ (List.mem_of_getElem? (i := 29) rfl)) (ty := .int) (by decide) rfl rfl (g := (mkF m 41 #[.val (.ref a1), .val (.int p2), .val (.int p3), .val (.int p4), .val (.ref a5), .unset, .unset, .unset, .unset] [(.int p2), (.ref a1)])) rfl rfl (hb hby d5_41)
  have N4 := Fr.snoc X4 N0 g_a1
  have Z4 : n0 ≤ h4.size := Nat.le_trans Z0 (Keep.of_wr W4).1
  have pre4 : Steps p.tables e below _ (T4.setTop (mkF m 44 #[.val (.ref a1), .val (.int p2), .val (.int p3), .val (.int p4), .val (.ref a5), .unset, .unset, .unset, .unset] [])) := pre3.trans (st4 _ (Steps.refl _))
  have pre5 : Steps p.tables e below _ (T4.setTop (mkF m 46 #[.val (.ref a1), .val (.int p2), .val (.int p3), .val (.int p4), .val (.ref a5), .unset, .unset, .unset, .unset] [(.int p3), (.ref a1)])) := pre4.trans (by
    show Steps p.tables e below (T4.setTop (mkF m 44 #[.val (.ref a1), .val (.int p2), .val (.int p3), .val (.int p4), .val (.ref a5), .unset, .unset, .unset, .unset] [])) _
    refine XS.aloadN X4.here hx rfl (hb hby d5_44) rfl rfl ?_
    show Steps p.tables e below (T4.setTop (mkF m 45 #[.val (.ref a1), .val (.int p2), .val (.int p3), .val (.int p4), .val (.ref a5), .unset, .unset, .unset, .unset] [(.ref a1)])) _
    refine XS.iloadN X4.here hx rfl (hb hby d5_45) rfl ?_
    exact Steps.refl _)
  obtain ⟨T6, h6, X6, e6, W6, st6⟩ := putF X4 hx hZ hown (host := "") (Or.inl (hw _ (List.mem_of_getElem? (i := 37) rfl))) Via.refl e4 (F2.other W4 (Or.inr (ne_nodes_zones hw))) (E.wr W4) (Or.inr ⟨(hw _ (List.mem_of_getElem? (i := 38) rfl)), rfl, hnm⟩) (hw _ (List.mem_of_getElem? (i := 29) rfl)) (ty := .int) (by decide) rfl rfl (g := (mkF m 46 #[.val (.ref a1), .val (.int p2), .val (.int p3), .val (.int p4), .val (.ref a5), .unset, .unset, .unset, .unset] [(.int p3), (.ref a1)])) rfl rfl (hb hby d5_46)
  have N6 := Fr.snoc X6 N4 g_a1
  have Z6 : n0 ≤ h6.size := Nat.le_trans Z4 (Keep.of_wr W6).1
  have pre6 : Steps p.tables e below _ (T6.setTop (mkF m 49 #[.val (.ref a1), .val (.int p2), .val (.int p3), .val (.int p4), .val (.ref a5), .unset, .unset, .unset, .unset] [])) := pre5.trans (st6 _ (Steps.refl _))
  have pre7 : Steps p.tables e below _ (T6.setTop (mkF m 51 #[.val (.ref a1), .val (.int p2), .val (.int p3), .val (.int p4), .val (.ref a5), .unset, .unset, .unset, .unset] [(.int p4), (.ref a1)])) := pre6.trans (by
    show Steps p.tables e below (T6.setTop (mkF m 49 #[.val (.ref a1), .val (.int p2), .val (.int p3), .val (.int p4), .val (.ref a5), .unset, .unset, .unset, .unset] [])) _
    refine XS.aloadN X6.here hx rfl (hb hby d5_49) rfl rfl ?_
    show Steps p.tables e below (T6.setTop (mkF m 50 #[.val (.ref a1), .val (.int p2), .val (.int p3), .val (.int p4), .val (.ref a5), .unset, .unset, .unset, .unset] [(.ref a1)])) _
    refine XS.iloadN X6.here hx rfl (hb hby d5_50) rfl ?_
    exact Steps.refl _)
  obtain ⟨T8, h8, X8, e8, W8, st8⟩ := putF X6 hx hZ hown (host := "") (Or.inl (hw _ (List.mem_of_getElem? (i := 39) rfl))) Via.refl e6 ((F3.other W4 (Or.inr (ne_firstThruNode_zones hw))).other W6 (Or.inr (ne_firstThruNode_nodes hw))) ((E.wr W4).wr W6) (Or.inr ⟨(hw _ (List.mem_of_getElem? (i := 40) rfl)), rfl, hnm⟩) (hw _ (List.mem_of_getElem? (i := 29) rfl)) (ty := .int) (by decide) rfl rfl (g := (mkF m 51 #[.val (.ref a1), .val (.int p2), .val (.int p3), .val (.int p4), .val (.ref a5), .unset, .unset, .unset, .unset] [(.int p4), (.ref a1)])) rfl rfl (hb hby d5_51)
  have N8 := Fr.snoc X8 N6 g_a1
  have Z8 : n0 ≤ h8.size := Nat.le_trans Z6 (Keep.of_wr W8).1
  have pre8 : Steps p.tables e below _ (T8.setTop (mkF m 54 #[.val (.ref a1), .val (.int p2), .val (.int p3), .val (.int p4), .val (.ref a5), .unset, .unset, .unset, .unset] [])) := pre7.trans (st8 _ (Steps.refl _))
  have n5 : a5 ≠ a1 := ne_exa E5.1 E (by decide)
  have E5b : own_E Z h8 a5 := ⟨((E5.1.wr W4).wr W6).wr W8, ((E5.2.other W4 (Or.inl n5)).other W6 (Or.inl n5)).other W8 (Or.inl n5)⟩
  have pre9 : Steps p.tables e below _ (T8.setTop (mkF m 57 #[.val (.ref a1), .val (.int p2), .val (.int p3), .val (.int p4), .val (.ref a5), .unset, .unset, .unset, .unset] [(.ref a5), (.ref a1)])) := pre8.trans (by
    show Steps p.tables e below (T8.setTop (mkF m 54 #[.val (.ref a1), .val (.int p2), .val (.int p3), .val (.int p4), .val (.ref a5), .unset, .unset, .unset, .unset] [])) _
    refine XS.aloadN X8.here hx rfl (hb hby d5_54) rfl rfl ?_
    show Steps p.tables e below (T8.setTop (mkF m 55 #[.val (.ref a1), .val (.int p2), .val (.int p3), .val (.int p4), .val (.ref a5), .unset, .unset, .unset, .unset] [(.ref a1)])) _
    refine XS.aload X8.here hx rfl (hb hby d5_55) rfl rfl ?_
    exact Steps.refl _)
  obtain ⟨_, _, ⟨T10, L10, k10, n10⟩, -, X10, ⟨Lc10, hQ10, l10, y10, z10⟩, st10⟩ := Jvm.LawKit.callS X8 hx (y := (⟨"java/util/List", "copyOf", "(Ljava/util/Collection;)Ljava/util/List;"⟩ : MethodName)) hown (mvT hZ (hw _ (List.mem_of_getElem? (i := 41) rfl))) (mvT hZ (hw _ (List.mem_of_getElem? (i := 42) rfl))) (mvT hZ (hw _ (List.mem_of_getElem? (i := 43) rfl))) (mvT hZ (hw _ (List.mem_of_getElem? (i := 44) rfl))) (by decide) (backOf (W := 1) (rmCo0 l Z a0 hw [] a5 el h8 n0 Z8 E5b (((SE.wr W4).wr W6).wr W8)) hZ (hw _ (List.mem_of_getElem? (i := 44) rfl)) (hw _ (List.mem_of_getElem? (i := 43) rfl)) (by decide) (by decide)) (g := (mkF m 57 #[.val (.ref a1), .val (.int p2), .val (.int p3), .val (.int p4), .val (.ref a5), .unset, .unset, .unset, .unset] [(.ref a5), (.ref a1)])) rfl (by rw [hml]; rfl) (argsL := [(.ref a5)]) (rest := [(.ref a1)]) (lenOf pd_rmNet_0 rfl) rfl (by show 2 * 0 + _ ≤ _; exact Nat.le_of_eq rfl) (hb hby d5_57) (fun _ _ => ⟨rfl, e8, (by decide : 0 + 0 ≤ _), (by decide : 0 + 0 ≤ _)⟩)
  dsimp only [Pt.U, Pt.locs, Pt.cells, Pt.slots] at X10 l10 y10 z10 st10 hQ10
  subst l10 y10 z10
  obtain ⟨rfl, N10q, hh10⟩ := hQ10
  have N10 := Fr.app N8 N10q
  have pre10 : Steps p.tables e below _ (T10.setTop (mkF m 60 #[.val (.ref a1), .val (.int p2), .val (.int p3), .val (.int p4), .val (.ref a5), .unset, .unset, .unset, .unset] [(.ref el), (.ref a1)])) := pre9.trans (st10 _ (Steps.refl _))
  obtain ⟨T11, h11, X11, e11, W11, st11⟩ := putF X10 hx hZ hown (host := "") (Or.inl (hw _ (List.mem_of_getElem? (i := 70) rfl))) Via.refl hh10 (((F4.other W4 (Or.inr (ne_links_zones hw))).other W6 (Or.inr (ne_links_nodes hw))).other W8 (Or.inr (ne_links_firstThruNode hw))) (((E.wr W4).wr W6).wr W8) (Or.inr ⟨(hw _ (List.mem_of_getElem? (i := 71) rfl)), rfl, hnm⟩) (hw _ (List.mem_of_getElem? (i := 29) rfl)) (ty := (.object "java/util/List")) (by decide) rfl rfl (g := (mkF m 60 #[.val (.ref a1), .val (.int p2), .val (.int p3), .val (.int p4), .val (.ref a5), .unset, .unset, .unset, .unset] [(.ref el), (.ref a1)])) rfl rfl (hb hby d5_60)
  have N11 := Fr.snoc X11 N10 g_a1
  have Z11 : n0 ≤ h11.size := Nat.le_trans Z8 (Keep.of_wr W11).1
  have pre11 : Steps p.tables e below _ (T11.setTop (mkF m 63 #[.val (.ref a1), .val (.int p2), .val (.int p3), .val (.int p4), .val (.ref a5), .unset, .unset, .unset, .unset] [])) := pre10.trans (st11 _ (Steps.refl _))
  have EA4 := ((((E.wr W4).wr W6).wr W8).wr W11)
  have GN4 := ((((F2.other W4 (Or.inr (ne_nodes_zones hw))).same W6).other W8 (Or.inr (ne_nodes_firstThruNode hw))).other W11 (Or.inr (ne_nodes_links hw)))
  have GL4 := ((((F4.other W4 (Or.inr (ne_links_zones hw))).other W6 (Or.inr (ne_links_nodes hw))).other W8 (Or.inr (ne_links_firstThruNode hw))).same W11)
  have GO4 := ((((F5.other W4 (Or.inr (ne_outgoing_zones hw))).other W6 (Or.inr (ne_outgoing_nodes hw))).other W8 (Or.inr (ne_outgoing_firstThruNode hw))).other W11 (Or.inr (ne_outgoing_links hw)))
  have GI4 := ((((F6.other W4 (Or.inr (ne_incoming_zones hw))).other W6 (Or.inr (ne_incoming_nodes hw))).other W8 (Or.inr (ne_incoming_firstThruNode hw))).other W11 (Or.inr (ne_incoming_links hw)))
  have SD4 := ((((SD.wr W4).wr W6).wr W8).wr W11)
  have SE4 := ((((SE.wr W4).wr W6).wr W8).wr W11)
  have EE4 := ((((EE.wr W4).wr W6).wr W8).wr W11)
  have nel : el ≠ a1 := ne_exa EE E (by decide)
  have FE4 : Fld Z h11 el "java/util/ImmutableCollections$ListN" "elements" "[Ljava/lang/Object;" (.ref ea) := (((FE.other W4 (Or.inl nel)).other W6 (Or.inl nel)).other W8 (Or.inl nel)).other W11 (Or.inl nel)
  have nea : ea ≠ a1 := (ne_arr E (hw _ (List.mem_of_getElem? (i := 29) rfl)) AE).symm
  have AE4 : Arr Z h11 ea ce (.object "java/lang/Object") := (((AE.other W4 nea).other W6 nea).other W8 nea).other W11 nea
  have K04 : Keep h0 h11 [a1] := ((((Keep.refl h0 [a1]).wr W4 (Or.inl (List.mem_singleton.mpr rfl))).wr W6 (Or.inl (List.mem_singleton.mpr rfl))).wr W8 (Or.inl (List.mem_singleton.mpr rfl))).wr W11 (Or.inl (List.mem_singleton.mpr rfl))
  have pre12 : Steps p.tables e below _ (T11.setTop (mkF m 66 #[.val (.ref a1), .val (.int p2), .val (.int p3), .val (.int p4), .val (.ref a5), .unset, .unset, .unset, .unset] [(.int (p3 + (1 : Int32)))])) := pre11.trans (by
    show Steps p.tables e below (T11.setTop (mkF m 63 #[.val (.ref a1), .val (.int p2), .val (.int p3), .val (.int p4), .val (.ref a5), .unset, .unset, .unset, .unset] [])) _
    refine XS.iloadN X11.here hx rfl (hb hby d5_63) rfl ?_
    show Steps p.tables e below (T11.setTop (mkF m 64 #[.val (.ref a1), .val (.int p2), .val (.int p3), .val (.int p4), .val (.ref a5), .unset, .unset, .unset, .unset] [(.int p3)])) _
    refine XS.iconst X11.here hx rfl (hb hby d5_64) ?_
    show Steps p.tables e below (T11.setTop (mkF m 65 #[.val (.ref a1), .val (.int p2), .val (.int p3), .val (.int p4), .val (.ref a5), .unset, .unset, .unset, .unset] [(.int (1 : Int32)), (.int p3)])) _
    refine XS.iadd X11.here hx rfl (hb hby d5_65) rfl ?_
    exact Steps.refl _)
  obtain ⟨_, _, ⟨T13, L13, k13, n13⟩, -, X13, ⟨Lc13, hQ13, l13, y13, z13⟩, st13⟩ := Jvm.LawKit.callS X11 hx (y := (⟨"com/example/trips_into_trajectories/tripsintotrajectories/network/Network", "emptyLists", "(I)Ljava/util/List;"⟩ : MethodName)) hown (mvT hZ (hw _ (List.mem_of_getElem? (i := 72) rfl))) (mvT hZ (hw _ (List.mem_of_getElem? (i := 73) rfl))) (mvT hZ (hw _ (List.mem_of_getElem? (i := 30) rfl))) (mvT hZ (hw _ (List.mem_of_getElem? (i := 74) rfl))) (by decide) (backOf (W := 0) (rmEL l Z a0 hw [] (p3 + (1 : Int32)) da h11 n0 Z11 (by omega) (by omega) SD4) hZ (hw _ (List.mem_of_getElem? (i := 74) rfl)) (hw _ (List.mem_of_getElem? (i := 30) rfl)) (by decide) (by decide)) (g := (mkF m 66 #[.val (.ref a1), .val (.int p2), .val (.int p3), .val (.int p4), .val (.ref a5), .unset, .unset, .unset, .unset] [(.int (p3 + (1 : Int32)))])) rfl (by rw [hml]; rfl) (argsL := [(.int (p3 + (1 : Int32)))]) (rest := []) (lenOf pd_rmNet_1 rfl) rfl (by show 2 * 0 + _ ≤ _; exact Nat.le_of_eq rfl) (hb hby d5_66) (fun _ _ => ⟨rfl, e11, (by decide : 0 + 67 ≤ _), (by decide : 0 + 263 ≤ _)⟩)
  dsimp only [Pt.U, Pt.locs, Pt.cells, Pt.slots] at X13 l13 y13 z13 st13 hQ13
  subst l13 y13 z13
  obtain ⟨la, rfl, N13q, K13, LA⟩ := hQ13
  have N13 := Fr.app N11 N13q
  have pre13 : Steps p.tables e below _ (T13.setTop (mkF m 69 #[.val (.ref a1), .val (.int p2), .val (.int p3), .val (.int p4), .val (.ref a5), .unset, .unset, .unset, .unset] [(.ref la)])) := pre12.trans (st13 _ (Steps.refl _))
  have Za : n0 ≤ T13.heap.size := Nat.le_trans Z11 K13.1
  have pre14 : Steps p.tables e below _ (T13.setTop (mkF m 74 #[.val (.ref a1), .val (.int p2), .val (.int p3), .val (.int p4), .val (.ref a5), .val (.ref la), .unset, .unset, .unset] [(.int (p3 + (1 : Int32)))])) := pre13.trans (by
    show Steps p.tables e below (T13.setTop (mkF m 69 #[.val (.ref a1), .val (.int p2), .val (.int p3), .val (.int p4), .val (.ref a5), .unset, .unset, .unset, .unset] [(.ref la)])) _
    refine XS.astore X13.here hx rfl (hb hby d5_69) rfl rfl (l' := #[.val (.ref a1), .val (.int p2), .val (.int p3), .val (.int p4), .val (.ref a5), .val (.ref la), .unset, .unset, .unset]) rfl ?_
    show Steps p.tables e below (T13.setTop (mkF m 71 #[.val (.ref a1), .val (.int p2), .val (.int p3), .val (.int p4), .val (.ref a5), .val (.ref la), .unset, .unset, .unset] [])) _
    refine XS.iloadN X13.here hx rfl (hb hby d5_71) rfl ?_
    show Steps p.tables e below (T13.setTop (mkF m 72 #[.val (.ref a1), .val (.int p2), .val (.int p3), .val (.int p4), .val (.ref a5), .val (.ref la), .unset, .unset, .unset] [(.int p3)])) _
    refine XS.iconst X13.here hx rfl (hb hby d5_72) ?_
    show Steps p.tables e below (T13.setTop (mkF m 73 #[.val (.ref a1), .val (.int p2), .val (.int p3), .val (.int p4), .val (.ref a5), .val (.ref la), .unset, .unset, .unset] [(.int (1 : Int32)), (.int p3)])) _
    refine XS.iadd X13.here hx rfl (hb hby d5_73) rfl ?_
    exact Steps.refl _)
  obtain ⟨_, _, ⟨T15, L15, k15, n15⟩, -, X15, ⟨Lc15, hQ15, l15, y15, z15⟩, st15⟩ := Jvm.LawKit.callS X13 hx (y := (⟨"com/example/trips_into_trajectories/tripsintotrajectories/network/Network", "emptyLists", "(I)Ljava/util/List;"⟩ : MethodName)) hown (mvT hZ (hw _ (List.mem_of_getElem? (i := 72) rfl))) (mvT hZ (hw _ (List.mem_of_getElem? (i := 73) rfl))) (mvT hZ (hw _ (List.mem_of_getElem? (i := 30) rfl))) (mvT hZ (hw _ (List.mem_of_getElem? (i := 74) rfl))) (by decide) (backOf (W := 0) (rmEL l Z a0 hw [] (p3 + (1 : Int32)) da T13.heap n0 Za (by omega) (by omega) (Sta.keepN SD4 K13 (fun x hx => nomatch hx))) hZ (hw _ (List.mem_of_getElem? (i := 74) rfl)) (hw _ (List.mem_of_getElem? (i := 30) rfl)) (by decide) (by decide)) (g := (mkF m 74 #[.val (.ref a1), .val (.int p2), .val (.int p3), .val (.int p4), .val (.ref a5), .val (.ref la), .unset, .unset, .unset] [(.int (p3 + (1 : Int32)))])) rfl (by rw [hml]; rfl) (argsL := [(.int (p3 + (1 : Int32)))]) (rest := []) (lenOf pd_rmNet_1 rfl) rfl (by show 2 * 0 + _ ≤ _; exact Nat.le_of_eq rfl) (hb hby d5_74) (fun _ _ => ⟨rfl, (rfl : T13.heap = T13.heap), (by decide : 67 + 67 ≤ _), (by decide : 263 + 263 ≤ _)⟩)
  dsimp only [Pt.U, Pt.locs, Pt.cells, Pt.slots] at X15 l15 y15 z15 st15 hQ15
  subst l15 y15 z15
  obtain ⟨lc, rfl, N15q, K15, LC⟩ := hQ15
  have N15 := Fr.app N13 N15q
  have pre15 : Steps p.tables e below _ (T15.setTop (mkF m 77 #[.val (.ref a1), .val (.int p2), .val (.int p3), .val (.int p4), .val (.ref a5), .val (.ref la), .unset, .unset, .unset] [(.ref lc)])) := pre14.trans (st15 _ (Steps.refl _))
  have KB : Keep h11 T15.heap [] := K13.trans K15 (fun x hx => nomatch hx)
  have Zb : n0 ≤ T15.heap.size := Nat.le_trans Za K15.1
  have pre16 : Steps p.tables e below _ (T15.setTop (mkF m 85 #[.val (.ref a1), .val (.int p2), .val (.int p3), .val (.int p4), .val (.ref a5), .val (.ref la), .val (.ref lc), .val (.int (0 : Int32)), .unset] [(.ref a1), (.int (0 : Int32))])) := pre15.trans (by
    show Steps p.tables e below (T15.setTop (mkF m 77 #[.val (.ref a1), .val (.int p2), .val (.int p3), .val (.int p4), .val (.ref a5), .val (.ref la), .unset, .unset, .unset] [(.ref lc)])) _
    refine XS.astore X15.here hx rfl (hb hby d5_77) rfl rfl (l' := #[.val (.ref a1), .val (.int p2), .val (.int p3), .val (.int p4), .val (.ref a5), .val (.ref la), .val (.ref lc), .unset, .unset]) rfl ?_
    show Steps p.tables e below (T15.setTop (mkF m 79 #[.val (.ref a1), .val (.int p2), .val (.int p3), .val (.int p4), .val (.ref a5), .val (.ref la), .val (.ref lc), .unset, .unset] [])) _
    refine XS.iconst X15.here hx rfl (hb hby d5_79) ?_
    show Steps p.tables e below (T15.setTop (mkF m 80 #[.val (.ref a1), .val (.int p2), .val (.int p3), .val (.int p4), .val (.ref a5), .val (.ref la), .val (.ref lc), .unset, .unset] [(.int (0 : Int32))])) _
    refine XS.istore X15.here hx rfl (hb hby d5_80) rfl (l' := #[.val (.ref a1), .val (.int p2), .val (.int p3), .val (.int p4), .val (.ref a5), .val (.ref la), .val (.ref lc), .val (.int (0 : Int32)), .unset]) rfl ?_
    show Steps p.tables e below (T15.setTop (mkF m 82 #[.val (.ref a1), .val (.int p2), .val (.int p3), .val (.int p4), .val (.ref a5), .val (.ref la), .val (.ref lc), .val (.int (0 : Int32)), .unset] [])) _
    refine XS.iload X15.here hx rfl (hb hby d5_82) rfl ?_
    show Steps p.tables e below (T15.setTop (mkF m 84 #[.val (.ref a1), .val (.int p2), .val (.int p3), .val (.int p4), .val (.ref a5), .val (.ref la), .val (.ref lc), .val (.int (0 : Int32)), .unset] [(.int (0 : Int32))])) _
    refine XS.aloadN X15.here hx rfl (hb hby d5_84) rfl rfl ?_
    exact Steps.refl _)
  obtain ⟨T17, X17, e17, st17⟩ := getF X15 hx hZ hown (host := "") (Or.inl (hw _ (List.mem_of_getElem? (i := 70) rfl))) Via.refl (rfl : T15.heap = T15.heap) (GL4.keep KB nin0) (g := (mkF m 85 #[.val (.ref a1), .val (.int p2), .val (.int p3), .val (.int p4), .val (.ref a5), .val (.ref la), .val (.ref lc), .val (.int (0 : Int32)), .unset] [(.ref a1), (.int (0 : Int32))])) rfl rfl (hb hby d5_85)
  have pre17 : Steps p.tables e below _ (T17.setTop (mkF m 88 #[.val (.ref a1), .val (.int p2), .val (.int p3), .val (.int p4), .val (.ref a5), .val (.ref la), .val (.ref lc), .val (.int (0 : Int32)), .unset] [(.ref el), (.int (0 : Int32))])) := pre16.trans (st17 _ (Steps.refl _))
  obtain ⟨cq18, kq18, q18a, q18b, q18c⟩ := isOf hZ e17 (EE4.keep KB)
  obtain ⟨_, _, ⟨T18, L18, k18, n18⟩, -, X18, ⟨Lc18, hQ18, l18, y18, z18⟩, st18⟩ := X17.interfaceBack hx (C := "java/util/ImmutableCollections$ListN") (xi := (⟨"java/util/List", "size", "()I"⟩ : MethodName)) (y := (⟨"java/util/ImmutableCollections$ListN", "size", "()I"⟩ : MethodName)) hown (mvT hZ (hw _ (List.mem_of_getElem? (i := 99) rfl))) (mvT hZ (hw _ (List.mem_of_getElem? (i := 100) rfl))) (mvT hZ (hw _ (List.mem_of_getElem? (i := 101) rfl))) (mvT hZ (hw _ (List.mem_of_getElem? (i := 102) rfl))) (mvT hZ (hw _ (List.mem_of_getElem? (i := 103) rfl))) (mvT hZ (hw _ (List.mem_of_getElem? (i := 104) rfl))) (mvT hZ (hw _ (List.mem_of_getElem? (i := 105) rfl))) (mvT hZ (hw _ (List.mem_of_getElem? (i := 106) rfl))) (by decide) (backOf (W := 1) (rmLNs l Z a0 hw [] el ea ce T15.heap n0 Zb (FE4.keep KB nin0) ⟨KB.2.1 _ _ AE4.1 nin0, AE4.2⟩ SZ) hZ (hw _ (List.mem_of_getElem? (i := 108) rfl)) (hw _ (List.mem_of_getElem? (i := 107) rfl)) (by decide) (by decide)) q18a q18b q18c (g := (mkF m 88 #[.val (.ref a1), .val (.int p2), .val (.int p3), .val (.int p4), .val (.ref a5), .val (.ref la), .val (.ref lc), .val (.int (0 : Int32)), .unset] [(.ref el), (.int (0 : Int32))])) rfl (by rw [hml]; rfl) (Steps.refl _) (argsL := []) (rest := [(.int (0 : Int32))]) (lenOf pd_rmNet_2 rfl) rfl (by show 2 * 0 + _ ≤ _; exact Nat.le_of_eq rfl) (hb hby d5_88) (fun _ _ => ⟨rfl, e17, (by decide : 134 + 0 ≤ _), (by decide : 526 + 0 ≤ _)⟩)
  dsimp only [Pt.U, Pt.locs, Pt.cells, Pt.slots] at X18 l18 y18 z18 st18 hQ18
  subst l18 y18 z18
  obtain ⟨rfl, N18q, hh18⟩ := hQ18
  have N18 := Fr.app N15 N18q
  have pre18 : Steps p.tables e below _ (T18.setTop (mkF m 93 #[.val (.ref a1), .val (.int p2), .val (.int p3), .val (.int p4), .val (.ref a5), .val (.ref la), .val (.ref lc), .val (.int (0 : Int32)), .unset] [(.int (0 : Int32)), (.int (0 : Int32))])) := pre17.trans (st18)
  have pre19 : Steps p.tables e below _ (T18.setTop (mkF m 216 #[.val (.ref a1), .val (.int p2), .val (.int p3), .val (.int p4), .val (.ref a5), .val (.ref la), .val (.ref lc), .val (.int (0 : Int32)), .unset] [(.ref la), (.ref a1)])) := pre18.trans (by
    show Steps p.tables e below (T18.setTop (mkF m 93 #[.val (.ref a1), .val (.int p2), .val (.int p3), .val (.int p4), .val (.ref a5), .val (.ref la), .val (.ref lc), .val (.int (0 : Int32)), .unset] [(.int (0 : Int32)), (.int (0 : Int32))])) _
    refine XS.icmpYes X18.here hx rfl (pc0 := 93) (pc' := 213) rfl (hb hby d5_93) rfl (flt (by decide : ¬ (0 : Int32) < 0)).2.1 (by decide) (by decide) ?_
    show Steps p.tables e below (T18.setTop (mkF m 213 #[.val (.ref a1), .val (.int p2), .val (.int p3), .val (.int p4), .val (.ref a5), .val (.ref la), .val (.ref lc), .val (.int (0 : Int32)), .unset] [])) _
    refine XS.aloadN X18.here hx rfl (hb hby d5_213) rfl rfl ?_
    show Steps p.tables e below (T18.setTop (mkF m 214 #[.val (.ref a1), .val (.int p2), .val (.int p3), .val (.int p4), .val (.ref a5), .val (.ref la), .val (.ref lc), .val (.int (0 : Int32)), .unset] [(.ref a1)])) _
    refine XS.aload X18.here hx rfl (hb hby d5_214) rfl rfl ?_
    exact Steps.refl _)
  obtain ⟨_, _, ⟨T20, L20, k20, n20⟩, -, X20, ⟨Lc20, hQ20, l20, y20, z20⟩, st20⟩ := Jvm.LawKit.callS X18 hx (y := (⟨"com/example/trips_into_trajectories/tripsintotrajectories/network/Network", "frozen", "(Ljava/util/List;)Ljava/util/List;"⟩ : MethodName)) hown (mvT hZ (hw _ (List.mem_of_getElem? (i := 111) rfl))) (mvT hZ (hw _ (List.mem_of_getElem? (i := 112) rfl))) (mvT hZ (hw _ (List.mem_of_getElem? (i := 30) rfl))) (mvT hZ (hw _ (List.mem_of_getElem? (i := 113) rfl))) (by decide) (backOf (W := 1) (rmFr l Z a0 hw [] la el mr (p3 + (1 : Int32)) T15.heap n0 Zb (LA.keep K15) (EE4.keep KB) M (by omega) (by omega) (Sta.keepN SE4 KB (fun x hx => nomatch hx))) hZ (hw _ (List.mem_of_getElem? (i := 113) rfl)) (hw _ (List.mem_of_getElem? (i := 30) rfl)) (by decide) (by decide)) (g := (mkF m 216 #[.val (.ref a1), .val (.int p2), .val (.int p3), .val (.int p4), .val (.ref a5), .val (.ref la), .val (.ref lc), .val (.int (0 : Int32)), .unset] [(.ref la), (.ref a1)])) rfl (by rw [hml]; rfl) (argsL := [(.ref la)]) (rest := [(.ref a1)]) (lenOf pd_rmNet_3 rfl) rfl (by show 2 * 0 + _ ≤ _; exact Nat.le_of_eq rfl) (hb hby d5_216) (fun _ _ => ⟨rfl, hh18, (by decide : 134 + 6 ≤ _), (by decide : 526 + 204 ≤ _)⟩)
  dsimp only [Pt.U, Pt.locs, Pt.cells, Pt.slots] at X20 l20 y20 z20 st20 hQ20
  subst l20 y20 z20
  obtain ⟨ra, rfl, N20q, K20⟩ := hQ20
  have N20 := Fr.app N18 N20q
  have pre20 : Steps p.tables e below _ (T20.setTop (mkF m 219 #[.val (.ref a1), .val (.int p2), .val (.int p3), .val (.int p4), .val (.ref a5), .val (.ref la), .val (.ref lc), .val (.int (0 : Int32)), .unset] [(.ref ra), (.ref a1)])) := pre19.trans (st20 _ (Steps.refl _))
  have KF : Keep h11 T20.heap [] := KB.trans K20 (fun x hx => nomatch hx)
  have Zf : n0 ≤ T20.heap.size := Nat.le_trans Zb K20.1
  obtain ⟨T21, h21, X21, e21, W21, st21⟩ := putF X20 hx hZ hown (host := "") (Or.inl (hw _ (List.mem_of_getElem? (i := 233) rfl))) Via.refl (rfl : T20.heap = T20.heap) (GO4.keep KF nin0) (EA4.keep KF) (Or.inr ⟨(hw _ (List.mem_of_getElem? (i := 234) rfl)), rfl, hnm⟩) (hw _ (List.mem_of_getElem? (i := 29) rfl)) (ty := (.object "java/util/List")) (by decide) rfl rfl (g := (mkF m 219 #[.val (.ref a1), .val (.int p2), .val (.int p3), .val (.int p4), .val (.ref a5), .val (.ref la), .val (.ref lc), .val (.int (0 : Int32)), .unset] [(.ref ra), (.ref a1)])) rfl rfl (hb hby d5_219)
  have N21 := Fr.snoc X21 N20 g_a1
  have Z21 : n0 ≤ h21.size := Nat.le_trans Zf (Keep.of_wr W21).1
  have pre21 : Steps p.tables e below _ (T21.setTop (mkF m 222 #[.val (.ref a1), .val (.int p2), .val (.int p3), .val (.int p4), .val (.ref a5), .val (.ref la), .val (.ref lc), .val (.int (0 : Int32)), .unset] [])) := pre20.trans (st21 _ (Steps.refl _))
  have EA5 := (EA4.keep KF).wr W21
  have pre22 : Steps p.tables e below _ (T21.setTop (mkF m 225 #[.val (.ref a1), .val (.int p2), .val (.int p3), .val (.int p4), .val (.ref a5), .val (.ref la), .val (.ref lc), .val (.int (0 : Int32)), .unset] [(.ref lc), (.ref a1)])) := pre21.trans (by
    show Steps p.tables e below (T21.setTop (mkF m 222 #[.val (.ref a1), .val (.int p2), .val (.int p3), .val (.int p4), .val (.ref a5), .val (.ref la), .val (.ref lc), .val (.int (0 : Int32)), .unset] [])) _
    refine XS.aloadN X21.here hx rfl (hb hby d5_222) rfl rfl ?_
    show Steps p.tables e below (T21.setTop (mkF m 223 #[.val (.ref a1), .val (.int p2), .val (.int p3), .val (.int p4), .val (.ref a5), .val (.ref la), .val (.ref lc), .val (.int (0 : Int32)), .unset] [(.ref a1)])) _
    refine XS.aload X21.here hx rfl (hb hby d5_223) rfl rfl ?_
    exact Steps.refl _)
  obtain ⟨_, _, ⟨T23, L23, k23, n23⟩, -, X23, ⟨Lc23, hQ23, l23, y23, z23⟩, st23⟩ := Jvm.LawKit.callS X21 hx (y := (⟨"com/example/trips_into_trajectories/tripsintotrajectories/network/Network", "frozen", "(Ljava/util/List;)Ljava/util/List;"⟩ : MethodName)) hown (mvT hZ (hw _ (List.mem_of_getElem? (i := 111) rfl))) (mvT hZ (hw _ (List.mem_of_getElem? (i := 112) rfl))) (mvT hZ (hw _ (List.mem_of_getElem? (i := 30) rfl))) (mvT hZ (hw _ (List.mem_of_getElem? (i := 113) rfl))) (by decide) (backOf (W := 1) (rmFr l Z a0 hw [] lc el mr (p3 + (1 : Int32)) h21 n0 Z21 ((LC.keep K20).wr W21 (EA4.keep KF) (by decide) (by decide)) ((EE4.keep KF).wr W21) M (by omega) (by omega) ((Sta.keepN SE4 KF (fun x hx => nomatch hx)).wr W21)) hZ (hw _ (List.mem_of_getElem? (i := 113) rfl)) (hw _ (List.mem_of_getElem? (i := 30) rfl)) (by decide) (by decide)) (g := (mkF m 225 #[.val (.ref a1), .val (.int p2), .val (.int p3), .val (.int p4), .val (.ref a5), .val (.ref la), .val (.ref lc), .val (.int (0 : Int32)), .unset] [(.ref lc), (.ref a1)])) rfl (by rw [hml]; rfl) (argsL := [(.ref lc)]) (rest := [(.ref a1)]) (lenOf pd_rmNet_3 rfl) rfl (by show 2 * 0 + _ ≤ _; exact Nat.le_of_eq rfl) (hb hby d5_225) (fun _ _ => ⟨rfl, e21, (by decide : 140 + 6 ≤ _), (by decide : 730 + 204 ≤ _)⟩)
  dsimp only [Pt.U, Pt.locs, Pt.cells, Pt.slots] at X23 l23 y23 z23 st23 hQ23
  subst l23 y23 z23
  obtain ⟨rb, rfl, N23q, K23⟩ := hQ23
  have N23 := Fr.app N21 N23q
  have pre23 : Steps p.tables e below _ (T23.setTop (mkF m 228 #[.val (.ref a1), .val (.int p2), .val (.int p3), .val (.int p4), .val (.ref a5), .val (.ref la), .val (.ref lc), .val (.int (0 : Int32)), .unset] [(.ref rb), (.ref a1)])) := pre22.trans (st23 _ (Steps.refl _))
  have Zg : n0 ≤ T23.heap.size := Nat.le_trans Z21 K23.1
  obtain ⟨T24, h24, X24, e24, W24, st24⟩ := putF X23 hx hZ hown (host := "") (Or.inl (hw _ (List.mem_of_getElem? (i := 235) rfl))) Via.refl (rfl : T23.heap = T23.heap) (((GI4.keep KF nin0).other W21 (Or.inr (ne_incoming_outgoing hw))).keep K23 nin0) (EA5.keep K23) (Or.inr ⟨(hw _ (List.mem_of_getElem? (i := 236) rfl)), rfl, hnm⟩) (hw _ (List.mem_of_getElem? (i := 29) rfl)) (ty := (.object "java/util/List")) (by decide) rfl rfl (g := (mkF m 228 #[.val (.ref a1), .val (.int p2), .val (.int p3), .val (.int p4), .val (.ref a5), .val (.ref la), .val (.ref lc), .val (.int (0 : Int32)), .unset] [(.ref rb), (.ref a1)])) rfl rfl (hb hby d5_228)
  have N24 := Fr.snoc X24 N23 g_a1
  have Z24 : n0 ≤ h24.size := Nat.le_trans Zg (Keep.of_wr W24).1
  have pre24 : Steps p.tables e below _ (T24.setTop (mkF m 231 #[.val (.ref a1), .val (.int p2), .val (.int p3), .val (.int p4), .val (.ref a5), .val (.ref la), .val (.ref lc), .val (.int (0 : Int32)), .unset] [])) := pre23.trans (st24 _ (Steps.refl _))
  have KZ : Keep h0 h24 [a1] := (((K04.trans KF (fun x hx => nomatch hx)).wr W21 (Or.inl (List.mem_singleton.mpr rfl))).trans K23 (fun x hx => nomatch hx)).wr W24 (Or.inl (List.mem_singleton.mpr rfl))
  have EZ := (EA5.keep K23).wr W24
  have GZ : Fld Z h24 a1 "com/example/trips_into_trajectories/tripsintotrajectories/network/Network" "nodes" "I" (.int p3) := (((GN4.keep KF nin0).other W21 (Or.inr (ne_nodes_outgoing hw))).keep K23 nin0).other W24 (Or.inr (ne_nodes_incoming hw))
  obtain ⟨fs, hr, hrun, hended, hW, hsame⟩ := X24.leave (v := none) (fun h => by rfl)
  refine ⟨_, _, pre24.trans ?_, hrun, hended, _, _, rfl, ?_, ⟨_, rfl⟩, hW, hsame.mono (by decide) (by decide)⟩
  · exact X24.returnOut hx Bd.returns (hb hby d5_231) hr
  · exact ⟨rfl, N24, (by show Keep h0 T24.heap [a1]; rw [e24]; exact KZ), (by show Exa Z T24.heap _ _; rw [e24]; exact EZ), (by show Fld Z T24.heap _ _ _ _ _; rw [e24]; exact GZ)⟩
def own_in (k n : Int32) : Int32 := if k < 1 then 0 else if n < k then 0 else 1
theorem d31_0 : decode prog_38_method_9_code 0 = .ok (.iload_n 1, 1) := by decide +kernel
theorem d31_1 : decode prog_38_method_9_code 1 = .ok (.iconst 1, 1) := by decide +kernel
theorem d31_2 : decode prog_38_method_9_code 2 = .ok (.if_icmp .lt 15, 3) := by decide +kernel
theorem d31_5 : decode prog_38_method_9_code 5 = .ok (.iload_n 1, 1) := by decide +kernel
theorem d31_6 : decode prog_38_method_9_code 6 = .ok (.aload_n 0, 1) := by decide +kernel
theorem d31_7 : decode prog_38_method_9_code 7 = .ok (.getfield 22, 3) := by decide +kernel
theorem d31_10 : decode prog_38_method_9_code 10 = .ok (.if_icmp .gt 7, 3) := by decide +kernel
theorem d31_13 : decode prog_38_method_9_code 13 = .ok (.iconst 1, 1) := by decide +kernel
theorem d31_14 : decode prog_38_method_9_code 14 = .ok (.goto 4, 3) := by decide +kernel
theorem d31_17 : decode prog_38_method_9_code 17 = .ok (.iconst 0, 1) := by decide +kernel
theorem d31_18 : decode prog_38_method_9_code 18 = .ok (.ireturn, 1) := by decide +kernel
theorem pn_rmIN : plainName "com/example/trips_into_trajectories/tripsintotrajectories/network/Network" = true := by first | (simp [plainName, overriddenIn]; done) | decide +kernel
theorem ef_rmIN (m : MethodId) (a1 : Addr) (p2 : Int32) : entryFrame m #[(.ref a1), (.int p2)] 2 = (mkF m 0 #[.val (.ref a1), .val (.int p2)] []) := by first | (simp [entryFrame, mkF, argsToLocals, Value.category]; done) | rfl
def Q_rmIN (Z : State) (a1 : Addr) (p2 : Int32) (nn : Int32) (h0 : Heap) (n0 : Nat) (v : Option Value) (h : Heap) (L : List Loc) : Prop := v = some (.int (own_in p2 nn)) ∧ Fr n0 L ∧ h = h0
set_option maxRecDepth 65536 in
set_option maxHeartbeats 40000000 in
theorem rmIN (l : Launch) (Z : State) (a0 : Array Value) (hw : ∀ d ∈ tables_1, d.before a0 Z = true) (ws : List Jvm.Cond) (a1 : Addr) (p2 : Int32) (nn : Int32) (h0 : Heap) (n0 : Nat) (Z0 : n0 ≤ h0.size) (FN : Fld Z h0 a1 "com/example/trips_into_trajectories/tripsintotrajectories/network/Network" "nodes" "I" (.int nn)) :
    MetFree l (⟨"com/example/trips_into_trajectories/tripsintotrajectories/network/Network", "isNode", "(I)Z"⟩ : MethodName) (head1 (Jvm.Cond.code (⟨"com/example/trips_into_trajectories/tripsintotrajectories/network/Network", "isNode", "(I)Z"⟩ : MethodName) prog_38_method_9_code 2 (some .boolean) :: ws) ({ frames := 0, cells := 0, slots := 0, locals := 0 } : Room)) (fun a U => a = #[(.ref a1), (.int p2)] ∧ Z.Warmed39 U.vm ∧ U.heap = h0) (fun _ _ _ _ _ => True) (fun _ U o U' => ∃ v L, o = .returned v ∧ Q_rmIN Z a1 p2 nn h0 n0 v U'.heap L ∧ FrameEnd U o U' L ({ frames := 0, cells := 0, slots := 0, locals := 0 } : Room).cells ({ frames := 0, cells := 0, slots := 0, locals := 0 } : Room).slots) := by
  refine MetFree.of_bodySF (plainFor_of_name pn_rmIN) hisR ?_
  intro p e s m args below meth c s₁ Bd hml0 hP hK
  obtain ⟨rfl, hZ, hh⟩ := hP
  have hx := Bd.exec
  have hby := Bd.bytes
  have hml : c.maxLocals = 2 := hml0
  have hown : s.vm.findClass "com/example/trips_into_trajectories/tripsintotrajectories/network/Network" = some m.cls := findClass_of_methodNamed Bd.named
  have hnm := (name_of_methodNamed Bd.named Bd.method).1
  have X0 : Stand p l e ({ frames := 0, cells := 0, slots := 0, locals := 0 } : Room) s m #[(.ref a1), (.int p2)] below meth c s₁ [] 0 0 := Stand.of_body Bd
  have e0 : s₁.heap = h0 := by rw [← hh, Bd.state]; rfl
  have N0 := Fr.nil n0
  have pre0 : Steps p.tables e below (s₁.setTop (entryFrame m #[(.ref a1), (.int p2)] 2)) (s₁.setTop (mkF m 0 #[.val (.ref a1), .val (.int p2)] [])) := castTop (ef_rmIN m a1 p2) (Steps.refl _)
  have pre1 : Steps p.tables e below _ (s₁.setTop (mkF m 2 #[.val (.ref a1), .val (.int p2)] [(.int (1 : Int32)), (.int p2)])) := pre0.trans (by
    show Steps p.tables e below (s₁.setTop (mkF m 0 #[.val (.ref a1), .val (.int p2)] [])) _
    refine XS.iloadN X0.here hx rfl (hb hby d31_0) rfl ?_
    show Steps p.tables e below (s₁.setTop (mkF m 1 #[.val (.ref a1), .val (.int p2)] [(.int p2)])) _
    refine XS.iconst X0.here hx rfl (hb hby d31_1) ?_
    exact Steps.refl _)
  rcases Decidable.em (p2 < (1 : Int32)) with q1 | q1
  · have c2 := q1
    have pre2 : Steps p.tables e below _ (s₁.setTop (mkF m 18 #[.val (.ref a1), .val (.int p2)] [(.int (0 : Int32))])) := pre1.trans (by
      show Steps p.tables e below (s₁.setTop (mkF m 2 #[.val (.ref a1), .val (.int p2)] [(.int (1 : Int32)), (.int p2)])) _
      refine XS.icmpYes X0.here hx rfl (pc0 := 2) (pc' := 17) rfl (hb hby d31_2) rfl (tlt c2).1 (by decide) (by decide) ?_
      show Steps p.tables e below (s₁.setTop (mkF m 17 #[.val (.ref a1), .val (.int p2)] [])) _
      refine XS.iconst X0.here hx rfl (hb hby d31_17) ?_
      exact Steps.refl _)
    obtain ⟨fs, hr, hrun, hended, hW, hsame⟩ := X0.leave (v := some (.int (0 : Int32))) (fun h => by rw [Bd.returns] at h; cases h)
    refine ⟨_, _, pre2.trans ?_, hrun, hended, _, _, rfl, ?_, ⟨_, rfl⟩, hW, hsame.mono (by decide) (by decide)⟩
    · exact retN X0 hx (t := .boolean) Bd.returns (by simp) (hb hby d31_18) hr
    · exact ⟨by rw [show own_in p2 nn = 0 from if_pos c2], N0, e0⟩
  · have c2 := q1
    have pre3 : Steps p.tables e below _ (s₁.setTop (mkF m 7 #[.val (.ref a1), .val (.int p2)] [(.ref a1), (.int p2)])) := pre1.trans (by
      show Steps p.tables e below (s₁.setTop (mkF m 2 #[.val (.ref a1), .val (.int p2)] [(.int (1 : Int32)), (.int p2)])) _
      refine XS.icmpNo X0.here hx rfl (hb hby d31_2) rfl (flt c2).1 ?_
      show Steps p.tables e below (s₁.setTop (mkF m 5 #[.val (.ref a1), .val (.int p2)] [])) _
      refine XS.iloadN X0.here hx rfl (hb hby d31_5) rfl ?_
      show Steps p.tables e below (s₁.setTop (mkF m 6 #[.val (.ref a1), .val (.int p2)] [(.int p2)])) _
      refine XS.aloadN X0.here hx rfl (hb hby d31_6) rfl rfl ?_
      exact Steps.refl _)
    obtain ⟨T4, X4, e4, st4⟩ := getF X0 hx hZ hown (host := "") (Or.inl (hw _ (List.mem_of_getElem? (i := 37) rfl))) Via.refl e0 FN (g := (mkF m 7 #[.val (.ref a1), .val (.int p2)] [(.ref a1), (.int p2)])) rfl rfl (hb hby d31_7)
    have pre4 : Steps p.tables e below _ (T4.setTop (mkF m 10 #[.val (.ref a1), .val (.int p2)] [(.int nn), (.int p2)])) := pre3.trans (st4 _ (Steps.refl _))
    rcases Decidable.em (nn < p2) with q2 | q2
    · have c10 := q2
      have pre5 : Steps p.tables e below _ (T4.setTop (mkF m 18 #[.val (.ref a1), .val (.int p2)] [(.int (0 : Int32))])) := pre4.trans (by
        show Steps p.tables e below (T4.setTop (mkF m 10 #[.val (.ref a1), .val (.int p2)] [(.int nn), (.int p2)])) _
        refine XS.icmpYes X4.here hx rfl (pc0 := 10) (pc' := 17) rfl (hb hby d31_10) rfl (tlt c10).2.2.1 (by decide) (by decide) ?_
        show Steps p.tables e below (T4.setTop (mkF m 17 #[.val (.ref a1), .val (.int p2)] [])) _
        refine XS.iconst X4.here hx rfl (hb hby d31_17) ?_
        exact Steps.refl _)
      obtain ⟨fs, hr, hrun, hended, hW, hsame⟩ := X4.leave (v := some (.int (0 : Int32))) (fun h => by rw [Bd.returns] at h; cases h)
      refine ⟨_, _, pre5.trans ?_, hrun, hended, _, _, rfl, ?_, ⟨_, rfl⟩, hW, hsame.mono (by decide) (by decide)⟩
      · exact retN X4 hx (t := .boolean) Bd.returns (by simp) (hb hby d31_18) hr
      · exact ⟨by rw [show own_in p2 nn = 0 from (if_neg c2).trans (if_pos c10)], N0, e4⟩
    · have c10 := q2
      have pre6 : Steps p.tables e below _ (T4.setTop (mkF m 18 #[.val (.ref a1), .val (.int p2)] [(.int (1 : Int32))])) := pre4.trans (by
        show Steps p.tables e below (T4.setTop (mkF m 10 #[.val (.ref a1), .val (.int p2)] [(.int nn), (.int p2)])) _
        refine XS.icmpNo X4.here hx rfl (hb hby d31_10) rfl (flt c10).2.2.1 ?_
        show Steps p.tables e below (T4.setTop (mkF m 13 #[.val (.ref a1), .val (.int p2)] [])) _
        refine XS.iconst X4.here hx rfl (hb hby d31_13) ?_
        show Steps p.tables e below (T4.setTop (mkF m 14 #[.val (.ref a1), .val (.int p2)] [(.int (1 : Int32))])) _
        refine XS.goto X4.here hx rfl (pc0 := 14) (pc' := 18) rfl (hb hby d31_14) (by decide) (by decide) ?_
        exact Steps.refl _)
      obtain ⟨fs, hr, hrun, hended, hW, hsame⟩ := X4.leave (v := some (.int (1 : Int32))) (fun h => by rw [Bd.returns] at h; cases h)
      refine ⟨_, _, pre6.trans ?_, hrun, hended, _, _, rfl, ?_, ⟨_, rfl⟩, hW, hsame.mono (by decide) (by decide)⟩
      · exact retN X4 hx (t := .boolean) Bd.returns (by simp) (hb hby d31_18) hr
      · exact ⟨by rw [show own_in p2 nn = 1 from (if_neg c2).trans (if_neg c10)], N0, e4⟩
theorem d32_0 : decode method_3_code 0 = .ok (.iload_n 0, 1) := by decide +kernel
theorem d32_1 : decode method_3_code 1 = .ok (.i2l, 1) := by decide +kernel
theorem d32_2 : decode method_3_code 2 = .ok (.lconst 1, 1) := by decide +kernel
theorem d32_3 : decode method_3_code 3 = .ok (.lsub, 1) := by decide +kernel
theorem d32_4 : decode method_3_code 4 = .ok (.lstore_n 2, 1) := by decide +kernel
theorem d32_5 : decode method_3_code 5 = .ok (.lload_n 2, 1) := by decide +kernel
theorem d32_6 : decode method_3_code 6 = .ok (.lconst 0, 1) := by decide +kernel
theorem d32_7 : decode method_3_code 7 = .ok (.lcmp, 1) := by decide +kernel
theorem d32_8 : decode method_3_code 8 = .ok (.ifCond .lt 14, 3) := by decide +kernel
theorem d32_11 : decode method_3_code 11 = .ok (.lload_n 2, 1) := by decide +kernel
theorem d32_12 : decode method_3_code 12 = .ok (.iload_n 1, 1) := by decide +kernel
theorem d32_13 : decode method_3_code 13 = .ok (.i2l, 1) := by decide +kernel
theorem d32_14 : decode method_3_code 14 = .ok (.lcmp, 1) := by decide +kernel
theorem d32_15 : decode method_3_code 15 = .ok (.ifCond .ge 7, 3) := by decide +kernel
theorem d32_18 : decode method_3_code 18 = .ok (.iconst 1, 1) := by decide +kernel
theorem d32_19 : decode method_3_code 19 = .ok (.goto 4, 3) := by decide +kernel
theorem d32_22 : decode method_3_code 22 = .ok (.iconst 0, 1) := by decide +kernel
theorem d32_23 : decode method_3_code 23 = .ok (.ireturn, 1) := by decide +kernel
theorem pn_rmIR : plainName "com/example/trips_into_trajectories/tripsintotrajectories/network/NetworkIsNodePinLaw" = true := by first | (simp [plainName, overriddenIn]; done) | decide +kernel
theorem ef_rmIR (m : MethodId) (p1 : Int32) (p2 : Int32) : entryFrame m #[(.int p1), (.int p2)] 4 = (mkF m 0 #[.val (.int p1), .val (.int p2), .unset, .unset] []) := by first | (simp [entryFrame, mkF, argsToLocals, Value.category]; done) | rfl
def own_ir_0_1 (p1 : Int32) (p2 : Int32) : Int32 := (0 : Int32)
def own_ir_0_2 (p1 : Int32) (p2 : Int32) : Int32 := (1 : Int32)
def own_ir_0_3 (p1 : Int32) (p2 : Int32) : Int32 := if (lcmpW ((p1.toInt64) - (1 : Int64)) (p2.toInt64)) < (0 : Int32) then own_ir_0_2 p1 p2 else own_ir_0_1 p1 p2
def own_ir_0_4 (p1 : Int32) (p2 : Int32) : Int32 := if (lcmpW ((p1.toInt64) - (1 : Int64)) (0 : Int64)) < (0 : Int32) then own_ir_0_1 p1 p2 else own_ir_0_3 p1 p2
def Q_rmIR (Z : State) (p1 : Int32) (p2 : Int32)  (h0 : Heap) (n0 : Nat) (v : Option Value) (h : Heap) (L : List Loc) : Prop := v = some (.int (own_ir_0_4 p1 p2)) ∧ Fr n0 L ∧ h = h0
set_option maxRecDepth 65536 in
set_option maxHeartbeats 40000000 in
theorem rmIR (l : Launch) (Z : State) (a0 : Array Value) (hw : ∀ d ∈ tables_1, d.before a0 Z = true) (ws : List Jvm.Cond) (p1 : Int32) (p2 : Int32)  (h0 : Heap) (n0 : Nat) (Z0 : n0 ≤ h0.size)  :
    MetFree l (⟨"com/example/trips_into_trajectories/tripsintotrajectories/network/NetworkIsNodePinLaw", "inRange", "(II)Z"⟩ : MethodName) (head1 (Jvm.Cond.code (⟨"com/example/trips_into_trajectories/tripsintotrajectories/network/NetworkIsNodePinLaw", "inRange", "(II)Z"⟩ : MethodName) method_3_code 4 (some .boolean) :: ws) ({ frames := 0, cells := 0, slots := 0, locals := 0 } : Room)) (fun a U => a = #[(.int p1), (.int p2)] ∧ Z.Warmed39 U.vm ∧ U.heap = h0) (fun _ _ _ _ _ => True) (fun _ U o U' => ∃ v L, o = .returned v ∧ Q_rmIR Z p1 p2 h0 n0 v U'.heap L ∧ FrameEnd U o U' L ({ frames := 0, cells := 0, slots := 0, locals := 0 } : Room).cells ({ frames := 0, cells := 0, slots := 0, locals := 0 } : Room).slots) := by
  refine MetFree.of_bodySF (plainFor_of_name pn_rmIR) hisR ?_
  intro p e s m args below meth c s₁ Bd hml0 hP hK
  obtain ⟨rfl, hZ, hh⟩ := hP
  have hx := Bd.exec
  have hby := Bd.bytes
  have hml : c.maxLocals = 4 := hml0
  have hown : s.vm.findClass "com/example/trips_into_trajectories/tripsintotrajectories/network/NetworkIsNodePinLaw" = some m.cls := findClass_of_methodNamed Bd.named
  have hnm := (name_of_methodNamed Bd.named Bd.method).1
  have X0 : Stand p l e ({ frames := 0, cells := 0, slots := 0, locals := 0 } : Room) s m #[(.int p1), (.int p2)] below meth c s₁ [] 0 0 := Stand.of_body Bd
  have e0 : s₁.heap = h0 := by rw [← hh, Bd.state]; rfl
  have N0 := Fr.nil n0
  have pre0 : Steps p.tables e below (s₁.setTop (entryFrame m #[(.int p1), (.int p2)] 4)) (s₁.setTop (mkF m 0 #[.val (.int p1), .val (.int p2), .unset, .unset] [])) := castTop (ef_rmIR m p1 p2) (Steps.refl _)
  obtain ⟨v_ir_0, h_v_ir_0⟩ : ∃ z, z = own_ir_0_4 p1 p2 := ⟨_, rfl⟩
  obtain ⟨fs, hr, hrun, hended, hW, hsame⟩ := X0.leave (v := some (.int v_ir_0)) (fun h => by rw [Bd.returns] at h; cases h)
  have Bir_1 (hv0 : v_ir_0 = own_ir_0_1 p1 p2) : Steps p.tables e below (s₁.setTop (mkF m 22 #[.val (.int p1), .val (.int p2), .val (.long ((p1.toInt64) - (1 : Int64))), .second] [])) (s₁.setFrames fs) := by
    have hw0 : v_ir_0 = (0 : Int32) := hv0
    rw [hw0] at hr
    show Steps p.tables e below (s₁.setTop (mkF m 22 #[.val (.int p1), .val (.int p2), .val (.long ((p1.toInt64) - (1 : Int64))), .second] [])) _
    refine XS.iconst X0.here hx rfl (hb hby d32_22) ?_
    show Steps p.tables e below (s₁.setTop (mkF m 23 #[.val (.int p1), .val (.int p2), .val (.long ((p1.toInt64) - (1 : Int64))), .second] [(.int (0 : Int32))])) _
    exact retN X0 hx (t := .boolean) Bd.returns (by simp) (hb hby d32_23) hr
  have Bir_2 (hv0 : v_ir_0 = own_ir_0_2 p1 p2) : Steps p.tables e below (s₁.setTop (mkF m 18 #[.val (.int p1), .val (.int p2), .val (.long ((p1.toInt64) - (1 : Int64))), .second] [])) (s₁.setFrames fs) := by
    have hw0 : v_ir_0 = (1 : Int32) := hv0
    rw [hw0] at hr
    show Steps p.tables e below (s₁.setTop (mkF m 18 #[.val (.int p1), .val (.int p2), .val (.long ((p1.toInt64) - (1 : Int64))), .second] [])) _
    refine XS.iconst X0.here hx rfl (hb hby d32_18) ?_
    show Steps p.tables e below (s₁.setTop (mkF m 19 #[.val (.int p1), .val (.int p2), .val (.long ((p1.toInt64) - (1 : Int64))), .second] [(.int (1 : Int32))])) _
    refine XS.goto X0.here hx rfl (pc0 := 19) (pc' := 23) rfl (hb hby d32_19) (by decide) (by decide) ?_
    show Steps p.tables e below (s₁.setTop (mkF m 23 #[.val (.int p1), .val (.int p2), .val (.long ((p1.toInt64) - (1 : Int64))), .second] [(.int (1 : Int32))])) _
    exact retN X0 hx (t := .boolean) Bd.returns (by simp) (hb hby d32_23) hr
  have Bir_3 (hv0 : v_ir_0 = own_ir_0_3 p1 p2) : Steps p.tables e below (s₁.setTop (mkF m 11 #[.val (.int p1), .val (.int p2), .val (.long ((p1.toInt64) - (1 : Int64))), .second] [])) (s₁.setFrames fs) := by
    show Steps p.tables e below (s₁.setTop (mkF m 11 #[.val (.int p1), .val (.int p2), .val (.long ((p1.toInt64) - (1 : Int64))), .second] [])) _
    refine XS.lloadN X0.here hx rfl (hb hby d32_11) rfl ?_
    show Steps p.tables e below (s₁.setTop (mkF m 12 #[.val (.int p1), .val (.int p2), .val (.long ((p1.toInt64) - (1 : Int64))), .second] [(.long ((p1.toInt64) - (1 : Int64)))])) _
    refine XS.iloadN X0.here hx rfl (hb hby d32_12) rfl ?_
    show Steps p.tables e below (s₁.setTop (mkF m 13 #[.val (.int p1), .val (.int p2), .val (.long ((p1.toInt64) - (1 : Int64))), .second] [(.int p2), (.long ((p1.toInt64) - (1 : Int64)))])) _
    refine XS.i2l X0.here hx rfl (hb hby d32_13) rfl ?_
    show Steps p.tables e below (s₁.setTop (mkF m 14 #[.val (.int p1), .val (.int p2), .val (.long ((p1.toInt64) - (1 : Int64))), .second] [(.long (p2.toInt64)), (.long ((p1.toInt64) - (1 : Int64)))])) _
    refine XS.lcmp X0.here hx rfl (hb hby d32_14) rfl ?_
    show Steps p.tables e below (s₁.setTop (mkF m 15 #[.val (.int p1), .val (.int p2), .val (.long ((p1.toInt64) - (1 : Int64))), .second] [(.int (lcmpW ((p1.toInt64) - (1 : Int64)) (p2.toInt64)))])) _
    by_cases h15 : (lcmpW ((p1.toInt64) - (1 : Int64)) (p2.toInt64)) < (0 : Int32)
    · refine XS.ifNo X0.here hx rfl (hb hby d32_15) rfl ((if0 _ _).trans (tlt h15).2.1) ?_
      exact Bir_2 (hv0.trans (if_pos h15))
    · refine XS.ifYes X0.here hx rfl (pc0 := 15) (pc' := 22) rfl (hb hby d32_15) rfl ((if0 _ _).trans (flt h15).2.1) (by decide) (by decide) ?_
      exact Bir_1 (hv0.trans (if_neg h15))
  have Bir_4 (hv0 : v_ir_0 = own_ir_0_4 p1 p2) : Steps p.tables e below (s₁.setTop (mkF m 0 #[.val (.int p1), .val (.int p2), .unset, .unset] [])) (s₁.setFrames fs) := by
    show Steps p.tables e below (s₁.setTop (mkF m 0 #[.val (.int p1), .val (.int p2), .unset, .unset] [])) _
    refine XS.iloadN X0.here hx rfl (hb hby d32_0) rfl ?_
    show Steps p.tables e below (s₁.setTop (mkF m 1 #[.val (.int p1), .val (.int p2), .unset, .unset] [(.int p1)])) _
    refine XS.i2l X0.here hx rfl (hb hby d32_1) rfl ?_
    show Steps p.tables e below (s₁.setTop (mkF m 2 #[.val (.int p1), .val (.int p2), .unset, .unset] [(.long (p1.toInt64))])) _
    refine XS.lconst X0.here hx rfl (hb hby d32_2) ?_
    show Steps p.tables e below (s₁.setTop (mkF m 3 #[.val (.int p1), .val (.int p2), .unset, .unset] [(.long (1 : Int64)), (.long (p1.toInt64))])) _
    refine XS.lsub X0.here hx rfl (hb hby d32_3) rfl ?_
    show Steps p.tables e below (s₁.setTop (mkF m 4 #[.val (.int p1), .val (.int p2), .unset, .unset] [(.long ((p1.toInt64) - (1 : Int64)))])) _
    refine XS.lstoreN X0.here hx rfl (hb hby d32_4) rfl (l' := #[.val (.int p1), .val (.int p2), .val (.long ((p1.toInt64) - (1 : Int64))), .second]) rfl ?_
    show Steps p.tables e below (s₁.setTop (mkF m 5 #[.val (.int p1), .val (.int p2), .val (.long ((p1.toInt64) - (1 : Int64))), .second] [])) _
    refine XS.lloadN X0.here hx rfl (hb hby d32_5) rfl ?_
    show Steps p.tables e below (s₁.setTop (mkF m 6 #[.val (.int p1), .val (.int p2), .val (.long ((p1.toInt64) - (1 : Int64))), .second] [(.long ((p1.toInt64) - (1 : Int64)))])) _
    refine XS.lconst X0.here hx rfl (hb hby d32_6) ?_
    show Steps p.tables e below (s₁.setTop (mkF m 7 #[.val (.int p1), .val (.int p2), .val (.long ((p1.toInt64) - (1 : Int64))), .second] [(.long (0 : Int64)), (.long ((p1.toInt64) - (1 : Int64)))])) _
    refine XS.lcmp X0.here hx rfl (hb hby d32_7) rfl ?_
    show Steps p.tables e below (s₁.setTop (mkF m 8 #[.val (.int p1), .val (.int p2), .val (.long ((p1.toInt64) - (1 : Int64))), .second] [(.int (lcmpW ((p1.toInt64) - (1 : Int64)) (0 : Int64)))])) _
    by_cases h8 : (lcmpW ((p1.toInt64) - (1 : Int64)) (0 : Int64)) < (0 : Int32)
    · refine XS.ifYes X0.here hx rfl (pc0 := 8) (pc' := 22) rfl (hb hby d32_8) rfl ((if0 _ _).trans (tlt h8).1) (by decide) (by decide) ?_
      exact Bir_1 (hv0.trans (if_pos h8))
    · refine XS.ifNo X0.here hx rfl (hb hby d32_8) rfl ((if0 _ _).trans (flt h8).1) ?_
      exact Bir_3 (hv0.trans (if_neg h8))
  have pre1 : Steps p.tables e below _ (s₁.setFrames fs) := pre0.trans (Bir_4 h_v_ir_0)
  refine ⟨_, _, pre1, hrun, hended, _, _, rfl, ?_, ⟨_, rfl⟩, hW, hsame.mono (by decide) (by decide)⟩
  exact ⟨by rw [h_v_ir_0], N0, e0⟩
theorem own_eq (k n : Int32) : own_in k n = own_ir_0_4 k n := by
  have a := c_i2l k
  have b := c_i2l n
  have c1 := c_lsub k.toInt64 1
  have e1 : (1 : Int64).toInt = 1 := rfl
  have e0 : (0 : Int64).toInt = 0 := rfl
  have f0 : (0 : Int32).toInt = 0 := rfl
  have f1 : (1 : Int32).toInt = 1 := rfl
  have r1 := rng32 k
  have r2 := rng32 n
  have r3 := rng64 (k.toInt64 - 1)
  have d : (k.toInt64 - 1).toInt = k.toInt - 1 := by omega
  have l0 := c_lcmp (k.toInt64 - 1) 0
  have l1 := c_lcmp (k.toInt64 - 1) n.toInt64
  show (if k < 1 then (0 : Int32) else if n < k then 0 else 1) = if (lcmpW (k.toInt64 - 1) 0) < (0 : Int32) then (0 : Int32) else if (lcmpW (k.toInt64 - 1) n.toInt64) < (0 : Int32) then 1 else 0
  by_cases q1 : k < 1
  · have q2 := q1
    rw [own_lt] at q2
    have g0 : (lcmpW (k.toInt64 - 1) 0) < (0 : Int32) := by rw [own_lt]; omega
    rw [if_pos q1, if_pos g0]
  · have q2 := q1
    rw [own_lt] at q2
    have g0 : ¬ (lcmpW (k.toInt64 - 1) 0) < (0 : Int32) := by rw [own_lt]; omega
    rw [if_neg q1, if_neg g0]
    by_cases q3 : n < k
    · have q4 := q3
      rw [own_lt] at q4
      have g1 : ¬ (lcmpW (k.toInt64 - 1) n.toInt64) < (0 : Int32) := by rw [own_lt]; omega
      rw [if_pos q3, if_neg g1]
    · have q4 := q3
      rw [own_lt] at q4
      have g1 : (lcmpW (k.toInt64 - 1) n.toInt64) < (0 : Int32) := by rw [own_lt]; omega
      rw [if_neg q3, if_pos g1]
theorem own_out (k n : Int32) (q : k.toInt < 1 ∨ n.toInt < k.toInt) : own_in k n = 0 := by
  have f1 : (1 : Int32).toInt = 1 := rfl
  by_cases q1 : k < 1
  · exact if_pos q1
  · have q2 := q1
    rw [own_lt] at q2
    exact (if_neg q1).trans (if_pos (by rw [own_lt]; omega))
theorem own_yes (k n : Int32) (q1 : 1 ≤ k.toInt) (q2 : k.toInt ≤ n.toInt) : ¬ own_in k n = 0 := by
  have f1 : (1 : Int32).toInt = 1 := rfl
  have e : own_in k n = 1 := (if_neg (by rw [own_lt]; omega)).trans (if_neg (by rw [own_lt]; omega))
  rw [e]; decide
theorem own_n64 (x : Int32) : 1 ≤ ((x &&& (63 : Int32)) + (1 : Int32)).toInt ∧ ((x &&& (63 : Int32)) + (1 : Int32)).toInt ≤ 64 := by
  have q : (x &&& (63 : Int32)).toInt = x.toInt % 64 := c_mask x 63 6 (by decide) (by decide)
  have r := own_inc (x &&& (63 : Int32)) (by omega) (by omega)
  omega
theorem own_z (x n : Int32) (h1 : 1 ≤ n.toInt) (h2 : n.toInt ≤ 64) : 0 ≤ ((x &&& (2147483647 : Int32)) % (n + (1 : Int32))).toInt ∧ ((x &&& (2147483647 : Int32)) % (n + (1 : Int32))).toInt ≤ n.toInt := by
  have q := c_and x (2147483647 : Int32) (by decide)
  have r := own_inc n (by omega) (by omega)
  have s := (c_iremV (x &&& (2147483647 : Int32)) (n + (1 : Int32))).1 q.1 (by omega)
  omega
theorem own_ff (x : Int32) : 1 ≤ ((x &&& (1073741823 : Int32)) + (1 : Int32)).toInt := by
  have q := c_and x (1073741823 : Int32) (by decide)
  have e : (1073741823 : Int32).toInt = 1073741823 := rfl
  have r := c_iadd (x &&& (1073741823 : Int32)) 1
  have e1 : (1 : Int32).toInt = 1 := rfl
  have r2 := rng32 ((x &&& (1073741823 : Int32)) + 1)
  omega
theorem own_all {L : List Jvm.Cond} {c0 : Jvm.Cond} {args : Array Value} {s : State} (h : (L.foldr Jvm.Cond.and c0).before args s = true) : ∀ c ∈ L, c.before args s = true := by
  induction L with
  | nil => intro c hc; cases hc
  | cons a t ih =>
    intro c hc
    have h' : (Jvm.Cond.and a (t.foldr Jvm.Cond.and c0)).before args s = true := h
    rw [Jvm.Cond.before_and, Bool.and_eq_true] at h'
    rcases List.mem_cons.mp hc with rfl | hc
    · exact h'.1
    · exact ih h'.2 c hc
theorem own_seq {t : Term} {n : Int32} {args : Array Value} {s : State} (h : (Jvm.Cond.eq t (.int n)).before args s = true) : t.eval args s none [] s = some (.int n) := by
  have h := Cond.before_iff.mp h
  simp only [Cond.value, Term.eval] at h
  cases ht : t.eval args s none [] s with
  | none => simp [ht] at h
  | some x => cases x <;> simp [ht] at h ⊢; exact h
theorem own_fst {t : Term} {C n d : String} {a : Addr} {v : Value} {args : Array Value} {s : State} (e1 : t.eval args s none [] s = some (.ref a)) (e2 : (Term.field t C n d).eval args s none [] s = some v) : Fld s s.heap a C n d v := by
  apply Fld.start
  rw [← fld_at (C := C) (n := n) (dd := d) e1]
  exact e2
theorem own_len0 {t : Term} {a : Addr} {ce : Cell} {ty : FieldType} {args : Array Value} {s : State} (e1 : t.eval args s none [] s = some (.ref a)) (A : Arr s s.heap a ce ty) (e2 : (Term.length t).eval args s none [] s = some (.int 0)) : ce.slots.size = (0 : Int32).toNatClampNeg := by
  have q : s.arrayAt? a = some ce := Arr.fin (Vm.Alike.refl _) A
  by_cases hl : ce.slots.size < 2 ^ 31
  · have r := (len_f e1 q hl).symm.trans e2
    have e : ce.slots.size.toInt32 = 0 := Value.int.inj (Option.some.inj r)
    rw [← e]; simp only [Int32.toNatClampNeg, len_toInt hl]; rfl
  · simp [Term.eval, e1, q, hl] at e2
theorem pn_rm0 : plainName "com/example/trips_into_trajectories/tripsintotrajectories/network/NetworkIsNodePinLaw" = true := by first | (simp [plainName, overriddenIn]; done) | decide +kernel
theorem pd_rm0_0 : parseMethodDescriptor "()V" = some ⟨[], none⟩ := by decide +kernel
theorem pd_rm0_1 : parseMethodDescriptor "(IIILjava/util/List;)V" = some ⟨[.int, .int, .int, (.object "java/util/List")], none⟩ := by decide +kernel
theorem pd_rm0_2 : parseMethodDescriptor "(I)Z" = some ⟨[.int], some .boolean⟩ := by decide +kernel
theorem pd_rm0_3 : parseMethodDescriptor "(II)Z" = some ⟨[.int, .int], some .boolean⟩ := by decide +kernel
theorem ef_rm0 (m : MethodId) (p1 : Int32) (p2 : Int32) (p3 : Int32) (p4 : Int32) : entryFrame m #[(.int p1), (.int p2), (.int p3), (.int p4)] maxLocals = (mkF m 0 #[.val (.int p1), .val (.int p2), .val (.int p3), .val (.int p4), .unset, .unset, .unset, .unset, .unset, .unset, .unset] []) := by first | (simp [entryFrame, mkF, argsToLocals, Value.category, maxLocals]; done) | rfl
def Q_rm0 (Z : State) (p1 : Int32) (p2 : Int32) (p3 : Int32) (p4 : Int32) (da el mr ea : Addr) (ce : Cell) (h0 : Heap) (n0 : Nat) (v : Option Value) (h : Heap) (L : List Loc) : Prop := v = some (.int (1 : Int32)) ∧ Fr n0 L
set_option maxRecDepth 65536 in
set_option maxHeartbeats 40000000 in
theorem rm0 (l : Launch) (Z : State) (a0 : Array Value) (hw : ∀ d ∈ tables_1, d.before a0 Z = true) (ws : List Jvm.Cond) (p1 : Int32) (p2 : Int32) (p3 : Int32) (p4 : Int32) (da el mr ea : Addr) (ce : Cell) (h0 : Heap) (n0 : Nat) (Z0 : n0 ≤ h0.size) (SD : Sta Z h0 "java/util/ArrayList" "DEFAULTCAPACITY_EMPTY_ELEMENTDATA" "[Ljava/lang/Object;" (.ref da)) (SE : Sta Z h0 "java/util/ImmutableCollections" "EMPTY_LIST" "Ljava/util/ImmutableCollections$ListN;" (.ref el)) (EE : Exa Z h0 el "java/util/ImmutableCollections$ListN") (FE : Fld Z h0 el "java/util/ImmutableCollections$ListN" "elements" "[Ljava/lang/Object;" (.ref ea)) (AE : Arr Z h0 ea ce (.object "java/lang/Object")) (SZ : ce.slots.size = (0 : Int32).toNatClampNeg) (M : Mir Z "[Ljava/lang/Object;" mr) :
    MetFree l x (head1 (Jvm.Cond.code x code maxLocals ret :: ws) room_1) (fun a U => a = #[(.int p1), (.int p2), (.int p3), (.int p4)] ∧ Z.Warmed39 U.vm ∧ U.heap = h0) (fun _ _ _ _ _ => True) (fun _ U o U' => ∃ v L, o = .returned v ∧ Q_rm0 Z p1 p2 p3 p4 da el mr ea ce h0 n0 v U'.heap L ∧ FrameEnd U o U' L 148 943) := by
  refine MetFree.of_bodySF (plainFor_of_name pn_rm0) hisR ?_
  intro p e s m args below meth c s₁ Bd hml0 hP hK
  obtain ⟨rfl, hZ, hh⟩ := hP
  have hx := Bd.exec
  have hby := Bd.bytes
  have hml : c.maxLocals = 11 := hml0
  have hown : s.vm.findClass "com/example/trips_into_trajectories/tripsintotrajectories/network/NetworkIsNodePinLaw" = some m.cls := findClass_of_methodNamed Bd.named
  have hnm := (name_of_methodNamed Bd.named Bd.method).1
  have X0 : Stand p l e room_1 s m #[(.int p1), (.int p2), (.int p3), (.int p4)] below meth c s₁ [] 0 0 := Stand.of_body Bd
  have e0 : s₁.heap = h0 := by rw [← hh, Bd.state]; rfl
  have N0 := Fr.nil n0
  have pre0 : Steps p.tables e below (s₁.setTop (entryFrame m #[(.int p1), (.int p2), (.int p3), (.int p4)] maxLocals)) (s₁.setTop (mkF m 0 #[.val (.int p1), .val (.int p2), .val (.int p3), .val (.int p4), .unset, .unset, .unset, .unset, .unset, .unset, .unset] [])) := castTop (ef_rm0 m p1 p2 p3 p4) (Steps.refl _)
  have e01 : (1 : Int32).toInt = 1 := rfl
  have e00 : (0 : Int32).toInt = 0 := rfl
  have pre1 : Steps p.tables e below _ (s₁.setTop (mkF m 6 #[.val (.int p1), .val (.int p2), .val (.int p3), .val (.int p4), .unset, .unset, .unset, .unset, .unset, .unset, .unset] [(.int ((p1 &&& (63 : Int32)) + (1 : Int32)))])) := pre0.trans (by
    show Steps p.tables e below (s₁.setTop (mkF m 0 #[.val (.int p1), .val (.int p2), .val (.int p3), .val (.int p4), .unset, .unset, .unset, .unset, .unset, .unset, .unset] [])) _
    refine XS.iloadN X0.here hx rfl (hb hby at_0) rfl ?_
    show Steps p.tables e below (s₁.setTop (mkF m 1 #[.val (.int p1), .val (.int p2), .val (.int p3), .val (.int p4), .unset, .unset, .unset, .unset, .unset, .unset, .unset] [(.int p1)])) _
    refine XS.bipush X0.here hx rfl (hb hby at_1) ?_
    show Steps p.tables e below (s₁.setTop (mkF m 3 #[.val (.int p1), .val (.int p2), .val (.int p3), .val (.int p4), .unset, .unset, .unset, .unset, .unset, .unset, .unset] [(.int (63 : Int32)), (.int p1)])) _
    refine XS.iand X0.here hx rfl (hb hby at_3) rfl ?_
    show Steps p.tables e below (s₁.setTop (mkF m 4 #[.val (.int p1), .val (.int p2), .val (.int p3), .val (.int p4), .unset, .unset, .unset, .unset, .unset, .unset, .unset] [(.int (p1 &&& (63 : Int32)))])) _
    refine XS.iconst X0.here hx rfl (hb hby at_4) ?_
    show Steps p.tables e below (s₁.setTop (mkF m 5 #[.val (.int p1), .val (.int p2), .val (.int p3), .val (.int p4), .unset, .unset, .unset, .unset, .unset, .unset, .unset] [(.int (1 : Int32)), (.int (p1 &&& (63 : Int32)))])) _
    refine XS.iadd X0.here hx rfl (hb hby at_5) rfl ?_
    exact Steps.refl _)
  obtain ⟨nn, h_nn⟩ : ∃ z, z = ((p1 &&& (63 : Int32)) + (1 : Int32)) := ⟨_, rfl⟩
  rw [← h_nn] at pre1
  have hn1 : 1 ≤ nn.toInt := by rw [h_nn]; exact (own_n64 p1).1
  have hn2 : nn.toInt ≤ 64 := by rw [h_nn]; exact (own_n64 p1).2
  have ei := own_inc nn (by omega) (by omega)
  have hnz : nn + (1 : Int32) ≠ 0 := fun q => by rw [q, e00] at ei; omega
  have pre2 : Steps p.tables e below _ (s₁.setTop (mkF m 17 #[.val (.int p1), .val (.int p2), .val (.int p3), .val (.int p4), .val (.int nn), .unset, .unset, .unset, .unset, .unset, .unset] [(.int ((p2 &&& (2147483647 : Int32)) % (nn + (1 : Int32))))])) := pre1.trans (by
    show Steps p.tables e below (s₁.setTop (mkF m 6 #[.val (.int p1), .val (.int p2), .val (.int p3), .val (.int p4), .unset, .unset, .unset, .unset, .unset, .unset, .unset] [(.int nn)])) _
    refine XS.istore X0.here hx rfl (hb hby at_6) rfl (l' := #[.val (.int p1), .val (.int p2), .val (.int p3), .val (.int p4), .val (.int nn), .unset, .unset, .unset, .unset, .unset, .unset]) rfl ?_
    show Steps p.tables e below (s₁.setTop (mkF m 8 #[.val (.int p1), .val (.int p2), .val (.int p3), .val (.int p4), .val (.int nn), .unset, .unset, .unset, .unset, .unset, .unset] [])) _
    refine XS.iloadN X0.here hx rfl (hb hby at_8) rfl ?_
    show Steps p.tables e below (s₁.setTop (mkF m 9 #[.val (.int p1), .val (.int p2), .val (.int p3), .val (.int p4), .val (.int nn), .unset, .unset, .unset, .unset, .unset, .unset] [(.int p2)])) _
    refine X0.ldcInt hx hown (mvT hZ (hw _ (List.mem_of_getElem? (i := 0) rfl))) (g := (mkF m 9 #[.val (.int p1), .val (.int p2), .val (.int p3), .val (.int p4), .val (.int nn), .unset, .unset, .unset, .unset, .unset, .unset] [(.int p2)])) rfl (hb hby at_9) _ ?_
    show Steps p.tables e below (s₁.setTop (mkF m 11 #[.val (.int p1), .val (.int p2), .val (.int p3), .val (.int p4), .val (.int nn), .unset, .unset, .unset, .unset, .unset, .unset] [(.int (2147483647 : Int32)), (.int p2)])) _
    refine XS.iand X0.here hx rfl (hb hby at_11) rfl ?_
    show Steps p.tables e below (s₁.setTop (mkF m 12 #[.val (.int p1), .val (.int p2), .val (.int p3), .val (.int p4), .val (.int nn), .unset, .unset, .unset, .unset, .unset, .unset] [(.int (p2 &&& (2147483647 : Int32)))])) _
    refine XS.iload X0.here hx rfl (hb hby at_12) rfl ?_
    show Steps p.tables e below (s₁.setTop (mkF m 14 #[.val (.int p1), .val (.int p2), .val (.int p3), .val (.int p4), .val (.int nn), .unset, .unset, .unset, .unset, .unset, .unset] [(.int nn), (.int (p2 &&& (2147483647 : Int32)))])) _
    refine XS.iconst X0.here hx rfl (hb hby at_14) ?_
    show Steps p.tables e below (s₁.setTop (mkF m 15 #[.val (.int p1), .val (.int p2), .val (.int p3), .val (.int p4), .val (.int nn), .unset, .unset, .unset, .unset, .unset, .unset] [(.int (1 : Int32)), (.int nn), (.int (p2 &&& (2147483647 : Int32)))])) _
    refine XS.iadd X0.here hx rfl (hb hby at_15) rfl ?_
    show Steps p.tables e below (s₁.setTop (mkF m 16 #[.val (.int p1), .val (.int p2), .val (.int p3), .val (.int p4), .val (.int nn), .unset, .unset, .unset, .unset, .unset, .unset] [(.int (nn + (1 : Int32))), (.int (p2 &&& (2147483647 : Int32)))])) _
    refine iremM X0 hx rfl (hb hby at_16) rfl hnz ?_
    exact Steps.refl _)
  obtain ⟨zz, h_zz⟩ : ∃ z, z = ((p2 &&& (2147483647 : Int32)) % (nn + (1 : Int32))) := ⟨_, rfl⟩
  rw [← h_zz] at pre2
  have hz := own_z p2 nn hn1 hn2
  rw [← h_zz] at hz
  have pre3 : Steps p.tables e below _ (s₁.setTop (mkF m 25 #[.val (.int p1), .val (.int p2), .val (.int p3), .val (.int p4), .val (.int nn), .val (.int zz), .unset, .unset, .unset, .unset, .unset] [(.int ((p3 &&& (1073741823 : Int32)) + (1 : Int32)))])) := pre2.trans (by
    show Steps p.tables e below (s₁.setTop (mkF m 17 #[.val (.int p1), .val (.int p2), .val (.int p3), .val (.int p4), .val (.int nn), .unset, .unset, .unset, .unset, .unset, .unset] [(.int zz)])) _
    refine XS.istore X0.here hx rfl (hb hby at_17) rfl (l' := #[.val (.int p1), .val (.int p2), .val (.int p3), .val (.int p4), .val (.int nn), .val (.int zz), .unset, .unset, .unset, .unset, .unset]) rfl ?_
    show Steps p.tables e below (s₁.setTop (mkF m 19 #[.val (.int p1), .val (.int p2), .val (.int p3), .val (.int p4), .val (.int nn), .val (.int zz), .unset, .unset, .unset, .unset, .unset] [])) _
    refine XS.iloadN X0.here hx rfl (hb hby at_19) rfl ?_
    show Steps p.tables e below (s₁.setTop (mkF m 20 #[.val (.int p1), .val (.int p2), .val (.int p3), .val (.int p4), .val (.int nn), .val (.int zz), .unset, .unset, .unset, .unset, .unset] [(.int p3)])) _
    refine X0.ldcInt hx hown (mvT hZ (hw _ (List.mem_of_getElem? (i := 1) rfl))) (g := (mkF m 20 #[.val (.int p1), .val (.int p2), .val (.int p3), .val (.int p4), .val (.int nn), .val (.int zz), .unset, .unset, .unset, .unset, .unset] [(.int p3)])) rfl (hb hby at_20) _ ?_
    show Steps p.tables e below (s₁.setTop (mkF m 22 #[.val (.int p1), .val (.int p2), .val (.int p3), .val (.int p4), .val (.int nn), .val (.int zz), .unset, .unset, .unset, .unset, .unset] [(.int (1073741823 : Int32)), (.int p3)])) _
    refine XS.iand X0.here hx rfl (hb hby at_22) rfl ?_
    show Steps p.tables e below (s₁.setTop (mkF m 23 #[.val (.int p1), .val (.int p2), .val (.int p3), .val (.int p4), .val (.int nn), .val (.int zz), .unset, .unset, .unset, .unset, .unset] [(.int (p3 &&& (1073741823 : Int32)))])) _
    refine XS.iconst X0.here hx rfl (hb hby at_23) ?_
    show Steps p.tables e below (s₁.setTop (mkF m 24 #[.val (.int p1), .val (.int p2), .val (.int p3), .val (.int p4), .val (.int nn), .val (.int zz), .unset, .unset, .unset, .unset, .unset] [(.int (1 : Int32)), (.int (p3 &&& (1073741823 : Int32)))])) _
    refine XS.iadd X0.here hx rfl (hb hby at_24) rfl ?_
    exact Steps.refl _)
  obtain ⟨ff, h_ff⟩ : ∃ z, z = ((p3 &&& (1073741823 : Int32)) + (1 : Int32)) := ⟨_, rfl⟩
  rw [← h_ff] at pre3
  have hf1 := own_ff p3
  rw [← h_ff] at hf1
  have pre4 : Steps p.tables e below _ (s₁.setTop (mkF m 27 #[.val (.int p1), .val (.int p2), .val (.int p3), .val (.int p4), .val (.int nn), .val (.int zz), .val (.int ff), .unset, .unset, .unset, .unset] [])) := pre3.trans (by
    show Steps p.tables e below (s₁.setTop (mkF m 25 #[.val (.int p1), .val (.int p2), .val (.int p3), .val (.int p4), .val (.int nn), .val (.int zz), .unset, .unset, .unset, .unset, .unset] [(.int ff)])) _
    refine XS.istore X0.here hx rfl (hb hby at_25) rfl (l' := #[.val (.int p1), .val (.int p2), .val (.int p3), .val (.int p4), .val (.int nn), .val (.int zz), .val (.int ff), .unset, .unset, .unset, .unset]) rfl ?_
    exact Steps.refl _)
  obtain ⟨T5, h5, X5, e5, E5, A5, D5, -, st5⟩ := newO X0 hx hZ hown (hw _ (List.mem_of_getElem? (i := 2) rfl)) (hw _ (List.mem_of_getElem? (i := 3) rfl)) (hw _ (List.mem_of_getElem? (i := 4) rfl)) e0 (g := (mkF m 27 #[.val (.int p1), .val (.int p2), .val (.int p3), .val (.int p4), .val (.int nn), .val (.int zz), .val (.int ff), .unset, .unset, .unset, .unset] [])) rfl (hb hby at_27) (by decide : 0 + 1 ≤ _) (by decide : 0 + 3 ≤ _)
  obtain ⟨lk, g5⟩ : ∃ z, z = h0.size := ⟨_, rfl⟩
  rw [← g5] at A5 D5 st5
  have g_lk : n0 ≤ lk := Nat.le_trans Z0 (Nat.le_of_eq g5.symm)
  have Z5 : n0 ≤ h5.size := Nat.le_trans Z0 E5.1
  have pre5 : Steps p.tables e below _ (T5.setTop (mkF m 30 #[.val (.int p1), .val (.int p2), .val (.int p3), .val (.int p4), .val (.int nn), .val (.int zz), .val (.int ff), .unset, .unset, .unset, .unset] [(.ref lk)])) := pre4.trans (st5 _ (Steps.refl _))
  have AL5 : Ali Z h5 lk .null 0 0 := ⟨A5, (D5 (Or.inl (hw _ (List.mem_of_getElem? (i := 27) rfl))) (ty := (.array (.object "java/lang/Object"))) (by decide)), (D5 (Or.inl (hw _ (List.mem_of_getElem? (i := 65) rfl))) (ty := .int) (by decide)), (D5 (Or.inl (hw _ (List.mem_of_getElem? (i := 24) rfl))) (ty := .int) (by decide))⟩
  have pre6 : Steps p.tables e below _ (T5.setTop (mkF m 31 #[.val (.int p1), .val (.int p2), .val (.int p3), .val (.int p4), .val (.int nn), .val (.int zz), .val (.int ff), .unset, .unset, .unset, .unset] [(.ref lk), (.ref lk)])) := pre5.trans (by
    show Steps p.tables e below (T5.setTop (mkF m 30 #[.val (.int p1), .val (.int p2), .val (.int p3), .val (.int p4), .val (.int nn), .val (.int zz), .val (.int ff), .unset, .unset, .unset, .unset] [(.ref lk)])) _
    refine XS.dup X5.here hx rfl (hb hby at_30) rfl rfl ?_
    exact Steps.refl _)
  obtain ⟨_, _, ⟨T7, L7, k7, n7⟩, -, X7, ⟨Lc7, hQ7, l7, y7, z7⟩, st7⟩ := X5.specialBack hx (y := (⟨"java/util/ArrayList", "<init>", "()V"⟩ : MethodName)) rfl hown (mvT hZ (hw _ (List.mem_of_getElem? (i := 5) rfl))) (mvT hZ (hw _ (List.mem_of_getElem? (i := 6) rfl))) (mvT hZ (hw _ (List.mem_of_getElem? (i := 7) rfl))) (by decide) (backOf (W := 1) (rmA0 l Z a0 hw [] lk da h5 n0 Z5 AL5 g_lk (SD.ext E5)) hZ (hw _ (List.mem_of_getElem? (i := 7) rfl)) (hw _ (List.mem_of_getElem? (i := 4) rfl)) (by decide) (by decide)) (g := (mkF m 31 #[.val (.int p1), .val (.int p2), .val (.int p3), .val (.int p4), .val (.int nn), .val (.int zz), .val (.int ff), .unset, .unset, .unset, .unset] [(.ref lk), (.ref lk)])) rfl (by rw [hml]; rfl) (Steps.refl _) (a := lk) (argsL := []) (rest := [(.ref lk)]) (lenOf pd_rm0_0 rfl) rfl (by show 2 * 0 + _ ≤ _; exact Nat.le_of_eq rfl) (hb hby at_31) (fun _ _ => ⟨rfl, e5, (by decide : 1 + 0 ≤ _), (by decide : 3 + 0 ≤ _)⟩)
  dsimp only [Pt.U, Pt.locs, Pt.cells, Pt.slots] at X7 l7 y7 z7 st7 hQ7
  subst l7 y7 z7
  obtain ⟨rfl, N7q, K7, AK⟩ := hQ7
  have N7 := Fr.app N0 N7q
  have pre7 : Steps p.tables e below _ (T7.setTop (mkF m 34 #[.val (.int p1), .val (.int p2), .val (.int p3), .val (.int p4), .val (.int nn), .val (.int zz), .val (.int ff), .unset, .unset, .unset, .unset] [(.ref lk)])) := pre6.trans (st7)
  have Z7k : n0 ≤ T7.heap.size := Nat.le_trans Z5 K7.1
  have pre8 : Steps p.tables e below _ (T7.setTop (mkF m 36 #[.val (.int p1), .val (.int p2), .val (.int p3), .val (.int p4), .val (.int nn), .val (.int zz), .val (.int ff), .val (.ref lk), .unset, .unset, .unset] [])) := pre7.trans (by
    show Steps p.tables e below (T7.setTop (mkF m 34 #[.val (.int p1), .val (.int p2), .val (.int p3), .val (.int p4), .val (.int nn), .val (.int zz), .val (.int ff), .unset, .unset, .unset, .unset] [(.ref lk)])) _
    refine XS.astore X7.here hx rfl (hb hby at_34) rfl rfl (l' := #[.val (.int p1), .val (.int p2), .val (.int p3), .val (.int p4), .val (.int nn), .val (.int zz), .val (.int ff), .val (.ref lk), .unset, .unset, .unset]) rfl ?_
    exact Steps.refl _)
  obtain ⟨T9, h9, X9, e9, E9, A9, D9, -, st9⟩ := newO X7 hx hZ hown (hw _ (List.mem_of_getElem? (i := 28) rfl)) (hw _ (List.mem_of_getElem? (i := 29) rfl)) (hw _ (List.mem_of_getElem? (i := 30) rfl)) (rfl : T7.heap = T7.heap) (g := (mkF m 36 #[.val (.int p1), .val (.int p2), .val (.int p3), .val (.int p4), .val (.int nn), .val (.int zz), .val (.int ff), .val (.ref lk), .unset, .unset, .unset] [])) rfl (hb hby at_36) (by decide : 1 + 1 ≤ _) (by decide : 3 + 6 ≤ _)
  obtain ⟨nt, g9⟩ : ∃ z, z = T7.heap.size := ⟨_, rfl⟩
  rw [← g9] at A9 D9 st9
  have g_nt : n0 ≤ nt := Nat.le_trans Z7k (Nat.le_of_eq g9.symm)
  have Z9 : n0 ≤ h9.size := Nat.le_trans Z7k E9.1
  have pre9 : Steps p.tables e below _ (T9.setTop (mkF m 39 #[.val (.int p1), .val (.int p2), .val (.int p3), .val (.int p4), .val (.int nn), .val (.int zz), .val (.int ff), .val (.ref lk), .unset, .unset, .unset] [(.ref nt)])) := pre8.trans (st9 _ (Steps.refl _))
  have FN1 : Fld Z h9 nt "com/example/trips_into_trajectories/tripsintotrajectories/network/Network" "zones" "I" (.int (0 : Int32)) := D9 (Or.inr (hw _ (List.mem_of_getElem? (i := 36) rfl))) (ty := .int) (by decide)
  have FN2 : Fld Z h9 nt "com/example/trips_into_trajectories/tripsintotrajectories/network/Network" "nodes" "I" (.int (0 : Int32)) := D9 (Or.inr (hw _ (List.mem_of_getElem? (i := 38) rfl))) (ty := .int) (by decide)
  have FN3 : Fld Z h9 nt "com/example/trips_into_trajectories/tripsintotrajectories/network/Network" "firstThruNode" "I" (.int (0 : Int32)) := D9 (Or.inr (hw _ (List.mem_of_getElem? (i := 40) rfl))) (ty := .int) (by decide)
  have FN4 : Fld Z h9 nt "com/example/trips_into_trajectories/tripsintotrajectories/network/Network" "links" "Ljava/util/List;" .null := D9 (Or.inr (hw _ (List.mem_of_getElem? (i := 71) rfl))) (ty := (.object "java/util/List")) (by decide)
  have FN5 : Fld Z h9 nt "com/example/trips_into_trajectories/tripsintotrajectories/network/Network" "outgoing" "Ljava/util/List;" .null := D9 (Or.inr (hw _ (List.mem_of_getElem? (i := 234) rfl))) (ty := (.object "java/util/List")) (by decide)
  have FN6 : Fld Z h9 nt "com/example/trips_into_trajectories/tripsintotrajectories/network/Network" "incoming" "Ljava/util/List;" .null := D9 (Or.inr (hw _ (List.mem_of_getElem? (i := 236) rfl))) (ty := (.object "java/util/List")) (by decide)
  have nlk : el ≠ lk := fun q => absurd EE.lt (by rw [q, g5]; exact Nat.lt_irrefl _)
  have nla : ea ≠ lk := fun q => absurd AE.lt (by rw [q, g5]; exact Nat.lt_irrefl _)
  have AE2 : Arr Z h9 ea ce (.object "java/lang/Object") := ⟨E9.2 _ _ (K7.2.1 _ _ (E5.2 _ _ AE.1) (own_nin nla)), AE.2⟩
  have pre10 : Steps p.tables e below _ (T9.setTop (mkF m 48 #[.val (.int p1), .val (.int p2), .val (.int p3), .val (.int p4), .val (.int nn), .val (.int zz), .val (.int ff), .val (.ref lk), .unset, .unset, .unset] [(.ref lk), (.int ff), (.int nn), (.int zz), (.ref nt), (.ref nt)])) := pre9.trans (by
    show Steps p.tables e below (T9.setTop (mkF m 39 #[.val (.int p1), .val (.int p2), .val (.int p3), .val (.int p4), .val (.int nn), .val (.int zz), .val (.int ff), .val (.ref lk), .unset, .unset, .unset] [(.ref nt)])) _
    refine XS.dup X9.here hx rfl (hb hby at_39) rfl rfl ?_
    show Steps p.tables e below (T9.setTop (mkF m 40 #[.val (.int p1), .val (.int p2), .val (.int p3), .val (.int p4), .val (.int nn), .val (.int zz), .val (.int ff), .val (.ref lk), .unset, .unset, .unset] [(.ref nt), (.ref nt)])) _
    refine XS.iload X9.here hx rfl (hb hby at_40) rfl ?_
    show Steps p.tables e below (T9.setTop (mkF m 42 #[.val (.int p1), .val (.int p2), .val (.int p3), .val (.int p4), .val (.int nn), .val (.int zz), .val (.int ff), .val (.ref lk), .unset, .unset, .unset] [(.int zz), (.ref nt), (.ref nt)])) _
    refine XS.iload X9.here hx rfl (hb hby at_42) rfl ?_
    show Steps p.tables e below (T9.setTop (mkF m 44 #[.val (.int p1), .val (.int p2), .val (.int p3), .val (.int p4), .val (.int nn), .val (.int zz), .val (.int ff), .val (.ref lk), .unset, .unset, .unset] [(.int nn), (.int zz), (.ref nt), (.ref nt)])) _
    refine XS.iload X9.here hx rfl (hb hby at_44) rfl ?_
    show Steps p.tables e below (T9.setTop (mkF m 46 #[.val (.int p1), .val (.int p2), .val (.int p3), .val (.int p4), .val (.int nn), .val (.int zz), .val (.int ff), .val (.ref lk), .unset, .unset, .unset] [(.int ff), (.int nn), (.int zz), (.ref nt), (.ref nt)])) _
    refine XS.aload X9.here hx rfl (hb hby at_46) rfl rfl ?_
    exact Steps.refl _)
  obtain ⟨_, _, ⟨T11, L11, k11, n11⟩, -, X11, ⟨Lc11, hQ11, l11, y11, z11⟩, st11⟩ := X9.specialBack hx (y := (⟨"com/example/trips_into_trajectories/tripsintotrajectories/network/Network", "<init>", "(IIILjava/util/List;)V"⟩ : MethodName)) rfl hown (mvT hZ (hw _ (List.mem_of_getElem? (i := 31) rfl))) (mvT hZ (hw _ (List.mem_of_getElem? (i := 32) rfl))) (mvT hZ (hw _ (List.mem_of_getElem? (i := 33) rfl))) (by decide) (backOf (W := 1) (rmNet l Z a0 hw [] nt zz nn ff lk da el mr ea ce h9 n0 Z9 hn1 hn2 (by rw [own_lt]; omega) (by rw [own_lt]; omega) (by rw [own_lt]; omega) A9 FN1 FN2 FN3 FN4 FN5 FN6 ⟨AK.1.ext E9, AK.2.2.1.ext E9⟩ g_nt ((Sta.keepN (SD.ext E5) K7 (own_one (Exa.nostat A5))).ext E9) ((Sta.keepN (SE.ext E5) K7 (own_one (Exa.nostat A5))).ext E9) (((EE.ext E5).keep K7).ext E9) (((FE.ext E5).keep K7 (own_nin nlk)).ext E9) AE2 SZ M) hZ (hw _ (List.mem_of_getElem? (i := 33) rfl)) (hw _ (List.mem_of_getElem? (i := 30) rfl)) (by decide) (by decide)) (g := (mkF m 48 #[.val (.int p1), .val (.int p2), .val (.int p3), .val (.int p4), .val (.int nn), .val (.int zz), .val (.int ff), .val (.ref lk), .unset, .unset, .unset] [(.ref lk), (.int ff), (.int nn), (.int zz), (.ref nt), (.ref nt)])) rfl (by rw [hml]; rfl) (Steps.refl _) (a := nt) (argsL := [(.int zz), (.int nn), (.int ff), (.ref lk)]) (rest := [(.ref nt)]) (lenOf pd_rm0_1 rfl) rfl (by show 2 * 0 + _ ≤ _; exact Nat.le_of_eq rfl) (hb hby at_48) (fun _ _ => ⟨rfl, e9, (by decide : 2 + 146 ≤ _), (by decide : 9 + 934 ≤ _)⟩)
  dsimp only [Pt.U, Pt.locs, Pt.cells, Pt.slots] at X11 l11 y11 z11 st11 hQ11
  subst l11 y11 z11
  obtain ⟨rfl, N11q, K11, EN, FNO⟩ := hQ11
  have N11 := Fr.app N7 N11q
  have pre11 : Steps p.tables e below _ (T11.setTop (mkF m 51 #[.val (.int p1), .val (.int p2), .val (.int p3), .val (.int p4), .val (.int nn), .val (.int zz), .val (.int ff), .val (.ref lk), .unset, .unset, .unset] [(.ref nt)])) := pre10.trans (st11)
  have Zn : n0 ≤ T11.heap.size := Nat.le_trans Z9 K11.1
  have pre12 : Steps p.tables e below _ (T11.setTop (mkF m 60 #[.val (.int p1), .val (.int p2), .val (.int p3), .val (.int p4), .val (.int nn), .val (.int zz), .val (.int ff), .val (.ref lk), .val (.ref nt), .unset, .unset] [(.int ((p4 &&& (127 : Int32)) - (32 : Int32)))])) := pre11.trans (by
    show Steps p.tables e below (T11.setTop (mkF m 51 #[.val (.int p1), .val (.int p2), .val (.int p3), .val (.int p4), .val (.int nn), .val (.int zz), .val (.int ff), .val (.ref lk), .unset, .unset, .unset] [(.ref nt)])) _
    refine XS.astore X11.here hx rfl (hb hby at_51) rfl rfl (l' := #[.val (.int p1), .val (.int p2), .val (.int p3), .val (.int p4), .val (.int nn), .val (.int zz), .val (.int ff), .val (.ref lk), .val (.ref nt), .unset, .unset]) rfl ?_
    show Steps p.tables e below (T11.setTop (mkF m 53 #[.val (.int p1), .val (.int p2), .val (.int p3), .val (.int p4), .val (.int nn), .val (.int zz), .val (.int ff), .val (.ref lk), .val (.ref nt), .unset, .unset] [])) _
    refine XS.iloadN X11.here hx rfl (hb hby at_53) rfl ?_
    show Steps p.tables e below (T11.setTop (mkF m 54 #[.val (.int p1), .val (.int p2), .val (.int p3), .val (.int p4), .val (.int nn), .val (.int zz), .val (.int ff), .val (.ref lk), .val (.ref nt), .unset, .unset] [(.int p4)])) _
    refine XS.bipush X11.here hx rfl (hb hby at_54) ?_
    show Steps p.tables e below (T11.setTop (mkF m 56 #[.val (.int p1), .val (.int p2), .val (.int p3), .val (.int p4), .val (.int nn), .val (.int zz), .val (.int ff), .val (.ref lk), .val (.ref nt), .unset, .unset] [(.int (127 : Int32)), (.int p4)])) _
    refine XS.iand X11.here hx rfl (hb hby at_56) rfl ?_
    show Steps p.tables e below (T11.setTop (mkF m 57 #[.val (.int p1), .val (.int p2), .val (.int p3), .val (.int p4), .val (.int nn), .val (.int zz), .val (.int ff), .val (.ref lk), .val (.ref nt), .unset, .unset] [(.int (p4 &&& (127 : Int32)))])) _
    refine XS.bipush X11.here hx rfl (hb hby at_57) ?_
    show Steps p.tables e below (T11.setTop (mkF m 59 #[.val (.int p1), .val (.int p2), .val (.int p3), .val (.int p4), .val (.int nn), .val (.int zz), .val (.int ff), .val (.ref lk), .val (.ref nt), .unset, .unset] [(.int (32 : Int32)), (.int (p4 &&& (127 : Int32)))])) _
    refine XS.isub X11.here hx rfl (hb hby at_59) rfl ?_
    exact Steps.refl _)
  obtain ⟨nr, h_nr⟩ : ∃ z, z = ((p4 &&& (127 : Int32)) - (32 : Int32)) := ⟨_, rfl⟩
  rw [← h_nr] at pre12
  have emx : (2147483647 : Int32).toInt = 2147483647 := rfl
  have emn : (-2147483648 : Int32).toInt = -2147483648 := rfl
  have pre13 : Steps p.tables e below _ (T11.setTop (mkF m 65 #[.val (.int p1), .val (.int p2), .val (.int p3), .val (.int p4), .val (.int nn), .val (.int zz), .val (.int ff), .val (.ref lk), .val (.ref nt), .val (.int nr), .unset] [(.int (0 : Int32)), (.ref nt)])) := pre12.trans (by
    show Steps p.tables e below (T11.setTop (mkF m 60 #[.val (.int p1), .val (.int p2), .val (.int p3), .val (.int p4), .val (.int nn), .val (.int zz), .val (.int ff), .val (.ref lk), .val (.ref nt), .unset, .unset] [(.int nr)])) _
    refine XS.istore X11.here hx rfl (hb hby at_60) rfl (l' := #[.val (.int p1), .val (.int p2), .val (.int p3), .val (.int p4), .val (.int nn), .val (.int zz), .val (.int ff), .val (.ref lk), .val (.ref nt), .val (.int nr), .unset]) rfl ?_
    show Steps p.tables e below (T11.setTop (mkF m 62 #[.val (.int p1), .val (.int p2), .val (.int p3), .val (.int p4), .val (.int nn), .val (.int zz), .val (.int ff), .val (.ref lk), .val (.ref nt), .val (.int nr), .unset] [])) _
    refine XS.aload X11.here hx rfl (hb hby at_62) rfl rfl ?_
    show Steps p.tables e below (T11.setTop (mkF m 64 #[.val (.int p1), .val (.int p2), .val (.int p3), .val (.int p4), .val (.int nn), .val (.int zz), .val (.int ff), .val (.ref lk), .val (.ref nt), .val (.int nr), .unset] [(.ref nt)])) _
    refine XS.iconst X11.here hx rfl (hb hby at_64) ?_
    exact Steps.refl _)
  obtain ⟨cq14, kq14, q14a, q14b, q14c⟩ := isOf hZ (rfl : T11.heap = T11.heap) EN
  obtain ⟨_, _, ⟨T14, L14, k14, n14⟩, -, X14, ⟨Lc14, hQ14, l14, y14, z14⟩, st14⟩ := X11.virtualBack hx (y := (⟨"com/example/trips_into_trajectories/tripsintotrajectories/network/Network", "isNode", "(I)Z"⟩ : MethodName)) (z := (⟨"com/example/trips_into_trajectories/tripsintotrajectories/network/Network", "isNode", "(I)Z"⟩ : MethodName)) hown (mvT hZ (hw _ (List.mem_of_getElem? (i := 237) rfl))) (mvT hZ (hw _ (List.mem_of_getElem? (i := 238) rfl))) (notFace_of_selects (args := #[]) (mvT hZ (hw _ (List.mem_of_getElem? (i := 240) rfl)))) (mvT hZ (hw _ (List.mem_of_getElem? (i := 240) rfl))) (mvT hZ (hw _ (List.mem_of_getElem? (i := 239) rfl))) (by decide) (backOf (W := 0) (rmIN l Z a0 hw [] nt (0 : Int32) nn T11.heap n0 Zn FNO) hZ (hw _ (List.mem_of_getElem? (i := 241) rfl)) (hw _ (List.mem_of_getElem? (i := 30) rfl)) (by decide) (by decide)) q14a q14c (g := (mkF m 65 #[.val (.int p1), .val (.int p2), .val (.int p3), .val (.int p4), .val (.int nn), .val (.int zz), .val (.int ff), .val (.ref lk), .val (.ref nt), .val (.int nr), .unset] [(.int (0 : Int32)), (.ref nt)])) rfl (by rw [hml]; rfl) (Steps.refl _) (argsL := [(.int (0 : Int32))]) (rest := []) (lenOf pd_rm0_2 rfl) rfl (by show 2 * 0 + _ ≤ _; exact Nat.le_of_eq rfl) (hb hby at_65) (fun _ _ => ⟨rfl, (rfl : T11.heap = T11.heap), (by decide : 148 + 0 ≤ _), (by decide : 943 + 0 ≤ _)⟩)
  dsimp only [Pt.U, Pt.locs, Pt.cells, Pt.slots] at X14 l14 y14 z14 st14 hQ14
  subst l14 y14 z14
  obtain ⟨rfl, N14q, hh14⟩ := hQ14
  have N14 := Fr.app N11 N14q
  have pre14 : Steps p.tables e below _ (T14.setTop (mkF m 68 #[.val (.int p1), .val (.int p2), .val (.int p3), .val (.int p4), .val (.int nn), .val (.int zz), .val (.int ff), .val (.ref lk), .val (.ref nt), .val (.int nr), .unset] [(.int (own_in (0 : Int32) nn))])) := pre13.trans (st14)
  have pre15 : Steps p.tables e below _ (T14.setTop (mkF m 74 #[.val (.int p1), .val (.int p2), .val (.int p3), .val (.int p4), .val (.int nn), .val (.int zz), .val (.int ff), .val (.ref lk), .val (.ref nt), .val (.int nr), .unset] [(.int (1 : Int32)), (.ref nt)])) := pre14.trans (by
    show Steps p.tables e below (T14.setTop (mkF m 68 #[.val (.int p1), .val (.int p2), .val (.int p3), .val (.int p4), .val (.int nn), .val (.int zz), .val (.int ff), .val (.ref lk), .val (.ref nt), .val (.int nr), .unset] [(.int (own_in (0 : Int32) nn))])) _
    refine XS.ifNo X14.here hx rfl (hb hby at_68) rfl ((if0 _ _).trans (teq (own_out (0 : Int32) nn (Or.inl (by omega)))).2) ?_
    show Steps p.tables e below (T14.setTop (mkF m 71 #[.val (.int p1), .val (.int p2), .val (.int p3), .val (.int p4), .val (.int nn), .val (.int zz), .val (.int ff), .val (.ref lk), .val (.ref nt), .val (.int nr), .unset] [])) _
    refine XS.aload X14.here hx rfl (hb hby at_71) rfl rfl ?_
    show Steps p.tables e below (T14.setTop (mkF m 73 #[.val (.int p1), .val (.int p2), .val (.int p3), .val (.int p4), .val (.int nn), .val (.int zz), .val (.int ff), .val (.ref lk), .val (.ref nt), .val (.int nr), .unset] [(.ref nt)])) _
    refine XS.iconst X14.here hx rfl (hb hby at_73) ?_
    exact Steps.refl _)
  obtain ⟨cq16, kq16, q16a, q16b, q16c⟩ := isOf hZ hh14 EN
  obtain ⟨_, _, ⟨T16, L16, k16, n16⟩, -, X16, ⟨Lc16, hQ16, l16, y16, z16⟩, st16⟩ := X14.virtualBack hx (y := (⟨"com/example/trips_into_trajectories/tripsintotrajectories/network/Network", "isNode", "(I)Z"⟩ : MethodName)) (z := (⟨"com/example/trips_into_trajectories/tripsintotrajectories/network/Network", "isNode", "(I)Z"⟩ : MethodName)) hown (mvT hZ (hw _ (List.mem_of_getElem? (i := 237) rfl))) (mvT hZ (hw _ (List.mem_of_getElem? (i := 238) rfl))) (notFace_of_selects (args := #[]) (mvT hZ (hw _ (List.mem_of_getElem? (i := 240) rfl)))) (mvT hZ (hw _ (List.mem_of_getElem? (i := 240) rfl))) (mvT hZ (hw _ (List.mem_of_getElem? (i := 239) rfl))) (by decide) (backOf (W := 0) (rmIN l Z a0 hw [] nt (1 : Int32) nn T11.heap n0 Zn FNO) hZ (hw _ (List.mem_of_getElem? (i := 241) rfl)) (hw _ (List.mem_of_getElem? (i := 30) rfl)) (by decide) (by decide)) q16a q16c (g := (mkF m 74 #[.val (.int p1), .val (.int p2), .val (.int p3), .val (.int p4), .val (.int nn), .val (.int zz), .val (.int ff), .val (.ref lk), .val (.ref nt), .val (.int nr), .unset] [(.int (1 : Int32)), (.ref nt)])) rfl (by rw [hml]; rfl) (Steps.refl _) (argsL := [(.int (1 : Int32))]) (rest := []) (lenOf pd_rm0_2 rfl) rfl (by show 2 * 0 + _ ≤ _; exact Nat.le_of_eq rfl) (hb hby at_74) (fun _ _ => ⟨rfl, hh14, (by decide : 148 + 0 ≤ _), (by decide : 943 + 0 ≤ _)⟩)
  dsimp only [Pt.U, Pt.locs, Pt.cells, Pt.slots] at X16 l16 y16 z16 st16 hQ16
  subst l16 y16 z16
  obtain ⟨rfl, N16q, hh16⟩ := hQ16
  have N16 := Fr.app N14 N16q
  have pre16 : Steps p.tables e below _ (T16.setTop (mkF m 77 #[.val (.int p1), .val (.int p2), .val (.int p3), .val (.int p4), .val (.int nn), .val (.int zz), .val (.int ff), .val (.ref lk), .val (.ref nt), .val (.int nr), .unset] [(.int (own_in (1 : Int32) nn))])) := pre15.trans (st16)
  have pre17 : Steps p.tables e below _ (T16.setTop (mkF m 84 #[.val (.int p1), .val (.int p2), .val (.int p3), .val (.int p4), .val (.int nn), .val (.int zz), .val (.int ff), .val (.ref lk), .val (.ref nt), .val (.int nr), .unset] [(.int nn), (.ref nt)])) := pre16.trans (by
    show Steps p.tables e below (T16.setTop (mkF m 77 #[.val (.int p1), .val (.int p2), .val (.int p3), .val (.int p4), .val (.int nn), .val (.int zz), .val (.int ff), .val (.ref lk), .val (.ref nt), .val (.int nr), .unset] [(.int (own_in (1 : Int32) nn))])) _
    refine XS.ifNo X16.here hx rfl (hb hby at_77) rfl ((if0 _ _).trans (feq (own_yes (1 : Int32) nn (by omega) (by omega))).1) ?_
    show Steps p.tables e below (T16.setTop (mkF m 80 #[.val (.int p1), .val (.int p2), .val (.int p3), .val (.int p4), .val (.int nn), .val (.int zz), .val (.int ff), .val (.ref lk), .val (.ref nt), .val (.int nr), .unset] [])) _
    refine XS.aload X16.here hx rfl (hb hby at_80) rfl rfl ?_
    show Steps p.tables e below (T16.setTop (mkF m 82 #[.val (.int p1), .val (.int p2), .val (.int p3), .val (.int p4), .val (.int nn), .val (.int zz), .val (.int ff), .val (.ref lk), .val (.ref nt), .val (.int nr), .unset] [(.ref nt)])) _
    refine XS.iload X16.here hx rfl (hb hby at_82) rfl ?_
    exact Steps.refl _)
  obtain ⟨cq18, kq18, q18a, q18b, q18c⟩ := isOf hZ hh16 EN
  obtain ⟨_, _, ⟨T18, L18, k18, n18⟩, -, X18, ⟨Lc18, hQ18, l18, y18, z18⟩, st18⟩ := X16.virtualBack hx (y := (⟨"com/example/trips_into_trajectories/tripsintotrajectories/network/Network", "isNode", "(I)Z"⟩ : MethodName)) (z := (⟨"com/example/trips_into_trajectories/tripsintotrajectories/network/Network", "isNode", "(I)Z"⟩ : MethodName)) hown (mvT hZ (hw _ (List.mem_of_getElem? (i := 237) rfl))) (mvT hZ (hw _ (List.mem_of_getElem? (i := 238) rfl))) (notFace_of_selects (args := #[]) (mvT hZ (hw _ (List.mem_of_getElem? (i := 240) rfl)))) (mvT hZ (hw _ (List.mem_of_getElem? (i := 240) rfl))) (mvT hZ (hw _ (List.mem_of_getElem? (i := 239) rfl))) (by decide) (backOf (W := 0) (rmIN l Z a0 hw [] nt nn nn T11.heap n0 Zn FNO) hZ (hw _ (List.mem_of_getElem? (i := 241) rfl)) (hw _ (List.mem_of_getElem? (i := 30) rfl)) (by decide) (by decide)) q18a q18c (g := (mkF m 84 #[.val (.int p1), .val (.int p2), .val (.int p3), .val (.int p4), .val (.int nn), .val (.int zz), .val (.int ff), .val (.ref lk), .val (.ref nt), .val (.int nr), .unset] [(.int nn), (.ref nt)])) rfl (by rw [hml]; rfl) (Steps.refl _) (argsL := [(.int nn)]) (rest := []) (lenOf pd_rm0_2 rfl) rfl (by show 2 * 0 + _ ≤ _; exact Nat.le_of_eq rfl) (hb hby at_84) (fun _ _ => ⟨rfl, hh16, (by decide : 148 + 0 ≤ _), (by decide : 943 + 0 ≤ _)⟩)
  dsimp only [Pt.U, Pt.locs, Pt.cells, Pt.slots] at X18 l18 y18 z18 st18 hQ18
  subst l18 y18 z18
  obtain ⟨rfl, N18q, hh18⟩ := hQ18
  have N18 := Fr.app N16 N18q
  have pre18 : Steps p.tables e below _ (T18.setTop (mkF m 87 #[.val (.int p1), .val (.int p2), .val (.int p3), .val (.int p4), .val (.int nn), .val (.int zz), .val (.int ff), .val (.ref lk), .val (.ref nt), .val (.int nr), .unset] [(.int (own_in nn nn))])) := pre17.trans (st18)
  have pre19 : Steps p.tables e below _ (T18.setTop (mkF m 96 #[.val (.int p1), .val (.int p2), .val (.int p3), .val (.int p4), .val (.int nn), .val (.int zz), .val (.int ff), .val (.ref lk), .val (.ref nt), .val (.int nr), .unset] [(.int (nn + (1 : Int32))), (.ref nt)])) := pre18.trans (by
    show Steps p.tables e below (T18.setTop (mkF m 87 #[.val (.int p1), .val (.int p2), .val (.int p3), .val (.int p4), .val (.int nn), .val (.int zz), .val (.int ff), .val (.ref lk), .val (.ref nt), .val (.int nr), .unset] [(.int (own_in nn nn))])) _
    refine XS.ifNo X18.here hx rfl (hb hby at_87) rfl ((if0 _ _).trans (feq (own_yes nn nn (by omega) (by omega))).1) ?_
    show Steps p.tables e below (T18.setTop (mkF m 90 #[.val (.int p1), .val (.int p2), .val (.int p3), .val (.int p4), .val (.int nn), .val (.int zz), .val (.int ff), .val (.ref lk), .val (.ref nt), .val (.int nr), .unset] [])) _
    refine XS.aload X18.here hx rfl (hb hby at_90) rfl rfl ?_
    show Steps p.tables e below (T18.setTop (mkF m 92 #[.val (.int p1), .val (.int p2), .val (.int p3), .val (.int p4), .val (.int nn), .val (.int zz), .val (.int ff), .val (.ref lk), .val (.ref nt), .val (.int nr), .unset] [(.ref nt)])) _
    refine XS.iload X18.here hx rfl (hb hby at_92) rfl ?_
    show Steps p.tables e below (T18.setTop (mkF m 94 #[.val (.int p1), .val (.int p2), .val (.int p3), .val (.int p4), .val (.int nn), .val (.int zz), .val (.int ff), .val (.ref lk), .val (.ref nt), .val (.int nr), .unset] [(.int nn), (.ref nt)])) _
    refine XS.iconst X18.here hx rfl (hb hby at_94) ?_
    show Steps p.tables e below (T18.setTop (mkF m 95 #[.val (.int p1), .val (.int p2), .val (.int p3), .val (.int p4), .val (.int nn), .val (.int zz), .val (.int ff), .val (.ref lk), .val (.ref nt), .val (.int nr), .unset] [(.int (1 : Int32)), (.int nn), (.ref nt)])) _
    refine XS.iadd X18.here hx rfl (hb hby at_95) rfl ?_
    exact Steps.refl _)
  obtain ⟨cq20, kq20, q20a, q20b, q20c⟩ := isOf hZ hh18 EN
  obtain ⟨_, _, ⟨T20, L20, k20, n20⟩, -, X20, ⟨Lc20, hQ20, l20, y20, z20⟩, st20⟩ := X18.virtualBack hx (y := (⟨"com/example/trips_into_trajectories/tripsintotrajectories/network/Network", "isNode", "(I)Z"⟩ : MethodName)) (z := (⟨"com/example/trips_into_trajectories/tripsintotrajectories/network/Network", "isNode", "(I)Z"⟩ : MethodName)) hown (mvT hZ (hw _ (List.mem_of_getElem? (i := 237) rfl))) (mvT hZ (hw _ (List.mem_of_getElem? (i := 238) rfl))) (notFace_of_selects (args := #[]) (mvT hZ (hw _ (List.mem_of_getElem? (i := 240) rfl)))) (mvT hZ (hw _ (List.mem_of_getElem? (i := 240) rfl))) (mvT hZ (hw _ (List.mem_of_getElem? (i := 239) rfl))) (by decide) (backOf (W := 0) (rmIN l Z a0 hw [] nt (nn + (1 : Int32)) nn T11.heap n0 Zn FNO) hZ (hw _ (List.mem_of_getElem? (i := 241) rfl)) (hw _ (List.mem_of_getElem? (i := 30) rfl)) (by decide) (by decide)) q20a q20c (g := (mkF m 96 #[.val (.int p1), .val (.int p2), .val (.int p3), .val (.int p4), .val (.int nn), .val (.int zz), .val (.int ff), .val (.ref lk), .val (.ref nt), .val (.int nr), .unset] [(.int (nn + (1 : Int32))), (.ref nt)])) rfl (by rw [hml]; rfl) (Steps.refl _) (argsL := [(.int (nn + (1 : Int32)))]) (rest := []) (lenOf pd_rm0_2 rfl) rfl (by show 2 * 0 + _ ≤ _; exact Nat.le_of_eq rfl) (hb hby at_96) (fun _ _ => ⟨rfl, hh18, (by decide : 148 + 0 ≤ _), (by decide : 943 + 0 ≤ _)⟩)
  dsimp only [Pt.U, Pt.locs, Pt.cells, Pt.slots] at X20 l20 y20 z20 st20 hQ20
  subst l20 y20 z20
  obtain ⟨rfl, N20q, hh20⟩ := hQ20
  have N20 := Fr.app N18 N20q
  have pre20 : Steps p.tables e below _ (T20.setTop (mkF m 99 #[.val (.int p1), .val (.int p2), .val (.int p3), .val (.int p4), .val (.int nn), .val (.int zz), .val (.int ff), .val (.ref lk), .val (.ref nt), .val (.int nr), .unset] [(.int (own_in (nn + (1 : Int32)) nn))])) := pre19.trans (st20)
  have pre21 : Steps p.tables e below _ (T20.setTop (mkF m 106 #[.val (.int p1), .val (.int p2), .val (.int p3), .val (.int p4), .val (.int nn), .val (.int zz), .val (.int ff), .val (.ref lk), .val (.ref nt), .val (.int nr), .unset] [(.int (-2147483648 : Int32)), (.ref nt)])) := pre20.trans (by
    show Steps p.tables e below (T20.setTop (mkF m 99 #[.val (.int p1), .val (.int p2), .val (.int p3), .val (.int p4), .val (.int nn), .val (.int zz), .val (.int ff), .val (.ref lk), .val (.ref nt), .val (.int nr), .unset] [(.int (own_in (nn + (1 : Int32)) nn))])) _
    refine XS.ifNo X20.here hx rfl (hb hby at_99) rfl ((if0 _ _).trans (teq (own_out (nn + (1 : Int32)) nn (Or.inr (by omega)))).2) ?_
    show Steps p.tables e below (T20.setTop (mkF m 102 #[.val (.int p1), .val (.int p2), .val (.int p3), .val (.int p4), .val (.int nn), .val (.int zz), .val (.int ff), .val (.ref lk), .val (.ref nt), .val (.int nr), .unset] [])) _
    refine XS.aload X20.here hx rfl (hb hby at_102) rfl rfl ?_
    show Steps p.tables e below (T20.setTop (mkF m 104 #[.val (.int p1), .val (.int p2), .val (.int p3), .val (.int p4), .val (.int nn), .val (.int zz), .val (.int ff), .val (.ref lk), .val (.ref nt), .val (.int nr), .unset] [(.ref nt)])) _
    refine X20.ldcInt hx hown (mvT hZ (hw _ (List.mem_of_getElem? (i := 242) rfl))) (g := (mkF m 104 #[.val (.int p1), .val (.int p2), .val (.int p3), .val (.int p4), .val (.int nn), .val (.int zz), .val (.int ff), .val (.ref lk), .val (.ref nt), .val (.int nr), .unset] [(.ref nt)])) rfl (hb hby at_104) _ ?_
    exact Steps.refl _)
  obtain ⟨cq22, kq22, q22a, q22b, q22c⟩ := isOf hZ hh20 EN
  obtain ⟨_, _, ⟨T22, L22, k22, n22⟩, -, X22, ⟨Lc22, hQ22, l22, y22, z22⟩, st22⟩ := X20.virtualBack hx (y := (⟨"com/example/trips_into_trajectories/tripsintotrajectories/network/Network", "isNode", "(I)Z"⟩ : MethodName)) (z := (⟨"com/example/trips_into_trajectories/tripsintotrajectories/network/Network", "isNode", "(I)Z"⟩ : MethodName)) hown (mvT hZ (hw _ (List.mem_of_getElem? (i := 237) rfl))) (mvT hZ (hw _ (List.mem_of_getElem? (i := 238) rfl))) (notFace_of_selects (args := #[]) (mvT hZ (hw _ (List.mem_of_getElem? (i := 240) rfl)))) (mvT hZ (hw _ (List.mem_of_getElem? (i := 240) rfl))) (mvT hZ (hw _ (List.mem_of_getElem? (i := 239) rfl))) (by decide) (backOf (W := 0) (rmIN l Z a0 hw [] nt (-2147483648 : Int32) nn T11.heap n0 Zn FNO) hZ (hw _ (List.mem_of_getElem? (i := 241) rfl)) (hw _ (List.mem_of_getElem? (i := 30) rfl)) (by decide) (by decide)) q22a q22c (g := (mkF m 106 #[.val (.int p1), .val (.int p2), .val (.int p3), .val (.int p4), .val (.int nn), .val (.int zz), .val (.int ff), .val (.ref lk), .val (.ref nt), .val (.int nr), .unset] [(.int (-2147483648 : Int32)), (.ref nt)])) rfl (by rw [hml]; rfl) (Steps.refl _) (argsL := [(.int (-2147483648 : Int32))]) (rest := []) (lenOf pd_rm0_2 rfl) rfl (by show 2 * 0 + _ ≤ _; exact Nat.le_of_eq rfl) (hb hby at_106) (fun _ _ => ⟨rfl, hh20, (by decide : 148 + 0 ≤ _), (by decide : 943 + 0 ≤ _)⟩)
  dsimp only [Pt.U, Pt.locs, Pt.cells, Pt.slots] at X22 l22 y22 z22 st22 hQ22
  subst l22 y22 z22
  obtain ⟨rfl, N22q, hh22⟩ := hQ22
  have N22 := Fr.app N20 N22q
  have pre22 : Steps p.tables e below _ (T22.setTop (mkF m 109 #[.val (.int p1), .val (.int p2), .val (.int p3), .val (.int p4), .val (.int nn), .val (.int zz), .val (.int ff), .val (.ref lk), .val (.ref nt), .val (.int nr), .unset] [(.int (own_in (-2147483648 : Int32) nn))])) := pre21.trans (st22)
  have pre23 : Steps p.tables e below _ (T22.setTop (mkF m 116 #[.val (.int p1), .val (.int p2), .val (.int p3), .val (.int p4), .val (.int nn), .val (.int zz), .val (.int ff), .val (.ref lk), .val (.ref nt), .val (.int nr), .unset] [(.int (2147483647 : Int32)), (.ref nt)])) := pre22.trans (by
    show Steps p.tables e below (T22.setTop (mkF m 109 #[.val (.int p1), .val (.int p2), .val (.int p3), .val (.int p4), .val (.int nn), .val (.int zz), .val (.int ff), .val (.ref lk), .val (.ref nt), .val (.int nr), .unset] [(.int (own_in (-2147483648 : Int32) nn))])) _
    refine XS.ifNo X22.here hx rfl (hb hby at_109) rfl ((if0 _ _).trans (teq (own_out (-2147483648 : Int32) nn (Or.inl (by omega)))).2) ?_
    show Steps p.tables e below (T22.setTop (mkF m 112 #[.val (.int p1), .val (.int p2), .val (.int p3), .val (.int p4), .val (.int nn), .val (.int zz), .val (.int ff), .val (.ref lk), .val (.ref nt), .val (.int nr), .unset] [])) _
    refine XS.aload X22.here hx rfl (hb hby at_112) rfl rfl ?_
    show Steps p.tables e below (T22.setTop (mkF m 114 #[.val (.int p1), .val (.int p2), .val (.int p3), .val (.int p4), .val (.int nn), .val (.int zz), .val (.int ff), .val (.ref lk), .val (.ref nt), .val (.int nr), .unset] [(.ref nt)])) _
    refine X22.ldcInt hx hown (mvT hZ (hw _ (List.mem_of_getElem? (i := 0) rfl))) (g := (mkF m 114 #[.val (.int p1), .val (.int p2), .val (.int p3), .val (.int p4), .val (.int nn), .val (.int zz), .val (.int ff), .val (.ref lk), .val (.ref nt), .val (.int nr), .unset] [(.ref nt)])) rfl (hb hby at_114) _ ?_
    exact Steps.refl _)
  obtain ⟨cq24, kq24, q24a, q24b, q24c⟩ := isOf hZ hh22 EN
  obtain ⟨_, _, ⟨T24, L24, k24, n24⟩, -, X24, ⟨Lc24, hQ24, l24, y24, z24⟩, st24⟩ := X22.virtualBack hx (y := (⟨"com/example/trips_into_trajectories/tripsintotrajectories/network/Network", "isNode", "(I)Z"⟩ : MethodName)) (z := (⟨"com/example/trips_into_trajectories/tripsintotrajectories/network/Network", "isNode", "(I)Z"⟩ : MethodName)) hown (mvT hZ (hw _ (List.mem_of_getElem? (i := 237) rfl))) (mvT hZ (hw _ (List.mem_of_getElem? (i := 238) rfl))) (notFace_of_selects (args := #[]) (mvT hZ (hw _ (List.mem_of_getElem? (i := 240) rfl)))) (mvT hZ (hw _ (List.mem_of_getElem? (i := 240) rfl))) (mvT hZ (hw _ (List.mem_of_getElem? (i := 239) rfl))) (by decide) (backOf (W := 0) (rmIN l Z a0 hw [] nt (2147483647 : Int32) nn T11.heap n0 Zn FNO) hZ (hw _ (List.mem_of_getElem? (i := 241) rfl)) (hw _ (List.mem_of_getElem? (i := 30) rfl)) (by decide) (by decide)) q24a q24c (g := (mkF m 116 #[.val (.int p1), .val (.int p2), .val (.int p3), .val (.int p4), .val (.int nn), .val (.int zz), .val (.int ff), .val (.ref lk), .val (.ref nt), .val (.int nr), .unset] [(.int (2147483647 : Int32)), (.ref nt)])) rfl (by rw [hml]; rfl) (Steps.refl _) (argsL := [(.int (2147483647 : Int32))]) (rest := []) (lenOf pd_rm0_2 rfl) rfl (by show 2 * 0 + _ ≤ _; exact Nat.le_of_eq rfl) (hb hby at_116) (fun _ _ => ⟨rfl, hh22, (by decide : 148 + 0 ≤ _), (by decide : 943 + 0 ≤ _)⟩)
  dsimp only [Pt.U, Pt.locs, Pt.cells, Pt.slots] at X24 l24 y24 z24 st24 hQ24
  subst l24 y24 z24
  obtain ⟨rfl, N24q, hh24⟩ := hQ24
  have N24 := Fr.app N22 N24q
  have pre24 : Steps p.tables e below _ (T24.setTop (mkF m 119 #[.val (.int p1), .val (.int p2), .val (.int p3), .val (.int p4), .val (.int nn), .val (.int zz), .val (.int ff), .val (.ref lk), .val (.ref nt), .val (.int nr), .unset] [(.int (own_in (2147483647 : Int32) nn))])) := pre23.trans (st24)
  have pre25 : Steps p.tables e below _ (T24.setTop (mkF m 137 #[.val (.int p1), .val (.int p2), .val (.int p3), .val (.int p4), .val (.int nn), .val (.int zz), .val (.int ff), .val (.ref lk), .val (.ref nt), .val (.int nr), .val (.int (1 : Int32))] [(.int p4), (.ref nt)])) := pre24.trans (by
    show Steps p.tables e below (T24.setTop (mkF m 119 #[.val (.int p1), .val (.int p2), .val (.int p3), .val (.int p4), .val (.int nn), .val (.int zz), .val (.int ff), .val (.ref lk), .val (.ref nt), .val (.int nr), .unset] [(.int (own_in (2147483647 : Int32) nn))])) _
    refine XS.ifNo X24.here hx rfl (hb hby at_119) rfl ((if0 _ _).trans (teq (own_out (2147483647 : Int32) nn (Or.inr (by omega)))).2) ?_
    show Steps p.tables e below (T24.setTop (mkF m 122 #[.val (.int p1), .val (.int p2), .val (.int p3), .val (.int p4), .val (.int nn), .val (.int zz), .val (.int ff), .val (.ref lk), .val (.ref nt), .val (.int nr), .unset] [])) _
    refine XS.iconst X24.here hx rfl (hb hby at_122) ?_
    show Steps p.tables e below (T24.setTop (mkF m 123 #[.val (.int p1), .val (.int p2), .val (.int p3), .val (.int p4), .val (.int nn), .val (.int zz), .val (.int ff), .val (.ref lk), .val (.ref nt), .val (.int nr), .unset] [(.int (1 : Int32))])) _
    refine XS.goto X24.here hx rfl (pc0 := 123) (pc' := 127) rfl (hb hby at_123) (by decide) (by decide) ?_
    show Steps p.tables e below (T24.setTop (mkF m 127 #[.val (.int p1), .val (.int p2), .val (.int p3), .val (.int p4), .val (.int nn), .val (.int zz), .val (.int ff), .val (.ref lk), .val (.ref nt), .val (.int nr), .unset] [(.int (1 : Int32))])) _
    refine XS.istore X24.here hx rfl (hb hby at_127) rfl (l' := #[.val (.int p1), .val (.int p2), .val (.int p3), .val (.int p4), .val (.int nn), .val (.int zz), .val (.int ff), .val (.ref lk), .val (.ref nt), .val (.int nr), .val (.int (1 : Int32))]) rfl ?_
    show Steps p.tables e below (T24.setTop (mkF m 129 #[.val (.int p1), .val (.int p2), .val (.int p3), .val (.int p4), .val (.int nn), .val (.int zz), .val (.int ff), .val (.ref lk), .val (.ref nt), .val (.int nr), .val (.int (1 : Int32))] [])) _
    refine XS.iload X24.here hx rfl (hb hby at_129) rfl ?_
    show Steps p.tables e below (T24.setTop (mkF m 131 #[.val (.int p1), .val (.int p2), .val (.int p3), .val (.int p4), .val (.int nn), .val (.int zz), .val (.int ff), .val (.ref lk), .val (.ref nt), .val (.int nr), .val (.int (1 : Int32))] [(.int (1 : Int32))])) _
    refine XS.ifNo X24.here hx rfl (hb hby at_131) rfl ((if0 _ _).trans (feq (by decide : ¬ (1 : Int32) = 0)).1) ?_
    show Steps p.tables e below (T24.setTop (mkF m 134 #[.val (.int p1), .val (.int p2), .val (.int p3), .val (.int p4), .val (.int nn), .val (.int zz), .val (.int ff), .val (.ref lk), .val (.ref nt), .val (.int nr), .val (.int (1 : Int32))] [])) _
    refine XS.aload X24.here hx rfl (hb hby at_134) rfl rfl ?_
    show Steps p.tables e below (T24.setTop (mkF m 136 #[.val (.int p1), .val (.int p2), .val (.int p3), .val (.int p4), .val (.int nn), .val (.int zz), .val (.int ff), .val (.ref lk), .val (.ref nt), .val (.int nr), .val (.int (1 : Int32))] [(.ref nt)])) _
    refine XS.iloadN X24.here hx rfl (hb hby at_136) rfl ?_
    exact Steps.refl _)
  obtain ⟨cq26, kq26, q26a, q26b, q26c⟩ := isOf hZ hh24 EN
  obtain ⟨_, _, ⟨T26, L26, k26, n26⟩, -, X26, ⟨Lc26, hQ26, l26, y26, z26⟩, st26⟩ := X24.virtualBack hx (y := (⟨"com/example/trips_into_trajectories/tripsintotrajectories/network/Network", "isNode", "(I)Z"⟩ : MethodName)) (z := (⟨"com/example/trips_into_trajectories/tripsintotrajectories/network/Network", "isNode", "(I)Z"⟩ : MethodName)) hown (mvT hZ (hw _ (List.mem_of_getElem? (i := 237) rfl))) (mvT hZ (hw _ (List.mem_of_getElem? (i := 238) rfl))) (notFace_of_selects (args := #[]) (mvT hZ (hw _ (List.mem_of_getElem? (i := 240) rfl)))) (mvT hZ (hw _ (List.mem_of_getElem? (i := 240) rfl))) (mvT hZ (hw _ (List.mem_of_getElem? (i := 239) rfl))) (by decide) (backOf (W := 0) (rmIN l Z a0 hw [] nt p4 nn T11.heap n0 Zn FNO) hZ (hw _ (List.mem_of_getElem? (i := 241) rfl)) (hw _ (List.mem_of_getElem? (i := 30) rfl)) (by decide) (by decide)) q26a q26c (g := (mkF m 137 #[.val (.int p1), .val (.int p2), .val (.int p3), .val (.int p4), .val (.int nn), .val (.int zz), .val (.int ff), .val (.ref lk), .val (.ref nt), .val (.int nr), .val (.int (1 : Int32))] [(.int p4), (.ref nt)])) rfl (by rw [hml]; rfl) (Steps.refl _) (argsL := [(.int p4)]) (rest := []) (lenOf pd_rm0_2 rfl) rfl (by show 2 * 0 + _ ≤ _; exact Nat.le_of_eq rfl) (hb hby at_137) (fun _ _ => ⟨rfl, hh24, (by decide : 148 + 0 ≤ _), (by decide : 943 + 0 ≤ _)⟩)
  dsimp only [Pt.U, Pt.locs, Pt.cells, Pt.slots] at X26 l26 y26 z26 st26 hQ26
  subst l26 y26 z26
  obtain ⟨rfl, N26q, hh26⟩ := hQ26
  have N26 := Fr.app N24 N26q
  have pre26 : Steps p.tables e below _ (T26.setTop (mkF m 140 #[.val (.int p1), .val (.int p2), .val (.int p3), .val (.int p4), .val (.int nn), .val (.int zz), .val (.int ff), .val (.ref lk), .val (.ref nt), .val (.int nr), .val (.int (1 : Int32))] [(.int (own_in p4 nn))])) := pre25.trans (st26)
  have pre27 : Steps p.tables e below _ (T26.setTop (mkF m 143 #[.val (.int p1), .val (.int p2), .val (.int p3), .val (.int p4), .val (.int nn), .val (.int zz), .val (.int ff), .val (.ref lk), .val (.ref nt), .val (.int nr), .val (.int (1 : Int32))] [(.int nn), (.int p4), (.int (own_in p4 nn))])) := pre26.trans (by
    show Steps p.tables e below (T26.setTop (mkF m 140 #[.val (.int p1), .val (.int p2), .val (.int p3), .val (.int p4), .val (.int nn), .val (.int zz), .val (.int ff), .val (.ref lk), .val (.ref nt), .val (.int nr), .val (.int (1 : Int32))] [(.int (own_in p4 nn))])) _
    refine XS.iloadN X26.here hx rfl (hb hby at_140) rfl ?_
    show Steps p.tables e below (T26.setTop (mkF m 141 #[.val (.int p1), .val (.int p2), .val (.int p3), .val (.int p4), .val (.int nn), .val (.int zz), .val (.int ff), .val (.ref lk), .val (.ref nt), .val (.int nr), .val (.int (1 : Int32))] [(.int p4), (.int (own_in p4 nn))])) _
    refine XS.iload X26.here hx rfl (hb hby at_141) rfl ?_
    exact Steps.refl _)
  obtain ⟨_, _, ⟨T28, L28, k28, n28⟩, -, X28, ⟨Lc28, hQ28, l28, y28, z28⟩, st28⟩ := Jvm.LawKit.callS X26 hx (y := (⟨"com/example/trips_into_trajectories/tripsintotrajectories/network/NetworkIsNodePinLaw", "inRange", "(II)Z"⟩ : MethodName)) hown (mvT hZ (hw _ (List.mem_of_getElem? (i := 243) rfl))) (mvT hZ (hw _ (List.mem_of_getElem? (i := 244) rfl))) (mvT hZ (hw _ (List.mem_of_getElem? (i := 245) rfl))) (mvT hZ (hw _ (List.mem_of_getElem? (i := 246) rfl))) (by decide) (backOf (W := 1) (rmIR l Z a0 hw [] p4 nn T11.heap n0 Zn) hZ (hw _ (List.mem_of_getElem? (i := 246) rfl)) (hw _ (List.mem_of_getElem? (i := 245) rfl)) (by decide) (by decide)) (g := (mkF m 143 #[.val (.int p1), .val (.int p2), .val (.int p3), .val (.int p4), .val (.int nn), .val (.int zz), .val (.int ff), .val (.ref lk), .val (.ref nt), .val (.int nr), .val (.int (1 : Int32))] [(.int nn), (.int p4), (.int (own_in p4 nn))])) rfl (by rw [hml]; rfl) (argsL := [(.int p4), (.int nn)]) (rest := [(.int (own_in p4 nn))]) (lenOf pd_rm0_3 rfl) rfl (by show 2 * 0 + _ ≤ _; exact Nat.le_of_eq rfl) (hb hby at_143) (fun _ _ => ⟨rfl, hh26, (by decide : 148 + 0 ≤ _), (by decide : 943 + 0 ≤ _)⟩)
  dsimp only [Pt.U, Pt.locs, Pt.cells, Pt.slots] at X28 l28 y28 z28 st28 hQ28
  subst l28 y28 z28
  obtain ⟨rfl, N28q, hh28⟩ := hQ28
  have N28 := Fr.app N26 N28q
  have pre28 : Steps p.tables e below _ (T28.setTop (mkF m 146 #[.val (.int p1), .val (.int p2), .val (.int p3), .val (.int p4), .val (.int nn), .val (.int zz), .val (.int ff), .val (.ref lk), .val (.ref nt), .val (.int nr), .val (.int (1 : Int32))] [(.int (own_ir_0_4 p4 nn)), (.int (own_in p4 nn))])) := pre27.trans (st28 _ (Steps.refl _))
  have pre29 : Steps p.tables e below _ (T28.setTop (mkF m 165 #[.val (.int p1), .val (.int p2), .val (.int p3), .val (.int p4), .val (.int nn), .val (.int zz), .val (.int ff), .val (.ref lk), .val (.ref nt), .val (.int nr), .val (.int (1 : Int32))] [(.int nr), (.ref nt)])) := pre28.trans (by
    show Steps p.tables e below (T28.setTop (mkF m 146 #[.val (.int p1), .val (.int p2), .val (.int p3), .val (.int p4), .val (.int nn), .val (.int zz), .val (.int ff), .val (.ref lk), .val (.ref nt), .val (.int nr), .val (.int (1 : Int32))] [(.int (own_ir_0_4 p4 nn)), (.int (own_in p4 nn))])) _
    refine XS.icmpNo X28.here hx rfl (hb hby at_146) rfl (teq (own_eq p4 nn)).2 ?_
    show Steps p.tables e below (T28.setTop (mkF m 149 #[.val (.int p1), .val (.int p2), .val (.int p3), .val (.int p4), .val (.int nn), .val (.int zz), .val (.int ff), .val (.ref lk), .val (.ref nt), .val (.int nr), .val (.int (1 : Int32))] [])) _
    refine XS.iconst X28.here hx rfl (hb hby at_149) ?_
    show Steps p.tables e below (T28.setTop (mkF m 150 #[.val (.int p1), .val (.int p2), .val (.int p3), .val (.int p4), .val (.int nn), .val (.int zz), .val (.int ff), .val (.ref lk), .val (.ref nt), .val (.int nr), .val (.int (1 : Int32))] [(.int (1 : Int32))])) _
    refine XS.goto X28.here hx rfl (pc0 := 150) (pc' := 154) rfl (hb hby at_150) (by decide) (by decide) ?_
    show Steps p.tables e below (T28.setTop (mkF m 154 #[.val (.int p1), .val (.int p2), .val (.int p3), .val (.int p4), .val (.int nn), .val (.int zz), .val (.int ff), .val (.ref lk), .val (.ref nt), .val (.int nr), .val (.int (1 : Int32))] [(.int (1 : Int32))])) _
    refine XS.istore X28.here hx rfl (hb hby at_154) rfl (l' := #[.val (.int p1), .val (.int p2), .val (.int p3), .val (.int p4), .val (.int nn), .val (.int zz), .val (.int ff), .val (.ref lk), .val (.ref nt), .val (.int nr), .val (.int (1 : Int32))]) rfl ?_
    show Steps p.tables e below (T28.setTop (mkF m 156 #[.val (.int p1), .val (.int p2), .val (.int p3), .val (.int p4), .val (.int nn), .val (.int zz), .val (.int ff), .val (.ref lk), .val (.ref nt), .val (.int nr), .val (.int (1 : Int32))] [])) _
    refine XS.iload X28.here hx rfl (hb hby at_156) rfl ?_
    show Steps p.tables e below (T28.setTop (mkF m 158 #[.val (.int p1), .val (.int p2), .val (.int p3), .val (.int p4), .val (.int nn), .val (.int zz), .val (.int ff), .val (.ref lk), .val (.ref nt), .val (.int nr), .val (.int (1 : Int32))] [(.int (1 : Int32))])) _
    refine XS.ifNo X28.here hx rfl (hb hby at_158) rfl ((if0 _ _).trans (feq (by decide : ¬ (1 : Int32) = 0)).1) ?_
    show Steps p.tables e below (T28.setTop (mkF m 161 #[.val (.int p1), .val (.int p2), .val (.int p3), .val (.int p4), .val (.int nn), .val (.int zz), .val (.int ff), .val (.ref lk), .val (.ref nt), .val (.int nr), .val (.int (1 : Int32))] [])) _
    refine XS.aload X28.here hx rfl (hb hby at_161) rfl rfl ?_
    show Steps p.tables e below (T28.setTop (mkF m 163 #[.val (.int p1), .val (.int p2), .val (.int p3), .val (.int p4), .val (.int nn), .val (.int zz), .val (.int ff), .val (.ref lk), .val (.ref nt), .val (.int nr), .val (.int (1 : Int32))] [(.ref nt)])) _
    refine XS.iload X28.here hx rfl (hb hby at_163) rfl ?_
    exact Steps.refl _)
  obtain ⟨cq30, kq30, q30a, q30b, q30c⟩ := isOf hZ hh28 EN
  obtain ⟨_, _, ⟨T30, L30, k30, n30⟩, -, X30, ⟨Lc30, hQ30, l30, y30, z30⟩, st30⟩ := X28.virtualBack hx (y := (⟨"com/example/trips_into_trajectories/tripsintotrajectories/network/Network", "isNode", "(I)Z"⟩ : MethodName)) (z := (⟨"com/example/trips_into_trajectories/tripsintotrajectories/network/Network", "isNode", "(I)Z"⟩ : MethodName)) hown (mvT hZ (hw _ (List.mem_of_getElem? (i := 237) rfl))) (mvT hZ (hw _ (List.mem_of_getElem? (i := 238) rfl))) (notFace_of_selects (args := #[]) (mvT hZ (hw _ (List.mem_of_getElem? (i := 240) rfl)))) (mvT hZ (hw _ (List.mem_of_getElem? (i := 240) rfl))) (mvT hZ (hw _ (List.mem_of_getElem? (i := 239) rfl))) (by decide) (backOf (W := 0) (rmIN l Z a0 hw [] nt nr nn T11.heap n0 Zn FNO) hZ (hw _ (List.mem_of_getElem? (i := 241) rfl)) (hw _ (List.mem_of_getElem? (i := 30) rfl)) (by decide) (by decide)) q30a q30c (g := (mkF m 165 #[.val (.int p1), .val (.int p2), .val (.int p3), .val (.int p4), .val (.int nn), .val (.int zz), .val (.int ff), .val (.ref lk), .val (.ref nt), .val (.int nr), .val (.int (1 : Int32))] [(.int nr), (.ref nt)])) rfl (by rw [hml]; rfl) (Steps.refl _) (argsL := [(.int nr)]) (rest := []) (lenOf pd_rm0_2 rfl) rfl (by show 2 * 0 + _ ≤ _; exact Nat.le_of_eq rfl) (hb hby at_165) (fun _ _ => ⟨rfl, hh28, (by decide : 148 + 0 ≤ _), (by decide : 943 + 0 ≤ _)⟩)
  dsimp only [Pt.U, Pt.locs, Pt.cells, Pt.slots] at X30 l30 y30 z30 st30 hQ30
  subst l30 y30 z30
  obtain ⟨rfl, N30q, hh30⟩ := hQ30
  have N30 := Fr.app N28 N30q
  have pre30 : Steps p.tables e below _ (T30.setTop (mkF m 168 #[.val (.int p1), .val (.int p2), .val (.int p3), .val (.int p4), .val (.int nn), .val (.int zz), .val (.int ff), .val (.ref lk), .val (.ref nt), .val (.int nr), .val (.int (1 : Int32))] [(.int (own_in nr nn))])) := pre29.trans (st30)
  have pre31 : Steps p.tables e below _ (T30.setTop (mkF m 172 #[.val (.int p1), .val (.int p2), .val (.int p3), .val (.int p4), .val (.int nn), .val (.int zz), .val (.int ff), .val (.ref lk), .val (.ref nt), .val (.int nr), .val (.int (1 : Int32))] [(.int nn), (.int nr), (.int (own_in nr nn))])) := pre30.trans (by
    show Steps p.tables e below (T30.setTop (mkF m 168 #[.val (.int p1), .val (.int p2), .val (.int p3), .val (.int p4), .val (.int nn), .val (.int zz), .val (.int ff), .val (.ref lk), .val (.ref nt), .val (.int nr), .val (.int (1 : Int32))] [(.int (own_in nr nn))])) _
    refine XS.iload X30.here hx rfl (hb hby at_168) rfl ?_
    show Steps p.tables e below (T30.setTop (mkF m 170 #[.val (.int p1), .val (.int p2), .val (.int p3), .val (.int p4), .val (.int nn), .val (.int zz), .val (.int ff), .val (.ref lk), .val (.ref nt), .val (.int nr), .val (.int (1 : Int32))] [(.int nr), (.int (own_in nr nn))])) _
    refine XS.iload X30.here hx rfl (hb hby at_170) rfl ?_
    exact Steps.refl _)
  obtain ⟨_, _, ⟨T32, L32, k32, n32⟩, -, X32, ⟨Lc32, hQ32, l32, y32, z32⟩, st32⟩ := Jvm.LawKit.callS X30 hx (y := (⟨"com/example/trips_into_trajectories/tripsintotrajectories/network/NetworkIsNodePinLaw", "inRange", "(II)Z"⟩ : MethodName)) hown (mvT hZ (hw _ (List.mem_of_getElem? (i := 243) rfl))) (mvT hZ (hw _ (List.mem_of_getElem? (i := 244) rfl))) (mvT hZ (hw _ (List.mem_of_getElem? (i := 245) rfl))) (mvT hZ (hw _ (List.mem_of_getElem? (i := 246) rfl))) (by decide) (backOf (W := 1) (rmIR l Z a0 hw [] nr nn T11.heap n0 Zn) hZ (hw _ (List.mem_of_getElem? (i := 246) rfl)) (hw _ (List.mem_of_getElem? (i := 245) rfl)) (by decide) (by decide)) (g := (mkF m 172 #[.val (.int p1), .val (.int p2), .val (.int p3), .val (.int p4), .val (.int nn), .val (.int zz), .val (.int ff), .val (.ref lk), .val (.ref nt), .val (.int nr), .val (.int (1 : Int32))] [(.int nn), (.int nr), (.int (own_in nr nn))])) rfl (by rw [hml]; rfl) (argsL := [(.int nr), (.int nn)]) (rest := [(.int (own_in nr nn))]) (lenOf pd_rm0_3 rfl) rfl (by show 2 * 0 + _ ≤ _; exact Nat.le_of_eq rfl) (hb hby at_172) (fun _ _ => ⟨rfl, hh30, (by decide : 148 + 0 ≤ _), (by decide : 943 + 0 ≤ _)⟩)
  dsimp only [Pt.U, Pt.locs, Pt.cells, Pt.slots] at X32 l32 y32 z32 st32 hQ32
  subst l32 y32 z32
  obtain ⟨rfl, N32q, hh32⟩ := hQ32
  have N32 := Fr.app N30 N32q
  have pre32 : Steps p.tables e below _ (T32.setTop (mkF m 175 #[.val (.int p1), .val (.int p2), .val (.int p3), .val (.int p4), .val (.int nn), .val (.int zz), .val (.int ff), .val (.ref lk), .val (.ref nt), .val (.int nr), .val (.int (1 : Int32))] [(.int (own_ir_0_4 nr nn)), (.int (own_in nr nn))])) := pre31.trans (st32 _ (Steps.refl _))
  have pre33 : Steps p.tables e below _ (T32.setTop (mkF m 187 #[.val (.int p1), .val (.int p2), .val (.int p3), .val (.int p4), .val (.int nn), .val (.int zz), .val (.int ff), .val (.ref lk), .val (.ref nt), .val (.int nr), .val (.int (1 : Int32))] [(.int (1 : Int32))])) := pre32.trans (by
    show Steps p.tables e below (T32.setTop (mkF m 175 #[.val (.int p1), .val (.int p2), .val (.int p3), .val (.int p4), .val (.int nn), .val (.int zz), .val (.int ff), .val (.ref lk), .val (.ref nt), .val (.int nr), .val (.int (1 : Int32))] [(.int (own_ir_0_4 nr nn)), (.int (own_in nr nn))])) _
    refine XS.icmpNo X32.here hx rfl (hb hby at_175) rfl (teq (own_eq nr nn)).2 ?_
    show Steps p.tables e below (T32.setTop (mkF m 178 #[.val (.int p1), .val (.int p2), .val (.int p3), .val (.int p4), .val (.int nn), .val (.int zz), .val (.int ff), .val (.ref lk), .val (.ref nt), .val (.int nr), .val (.int (1 : Int32))] [])) _
    refine XS.iconst X32.here hx rfl (hb hby at_178) ?_
    show Steps p.tables e below (T32.setTop (mkF m 179 #[.val (.int p1), .val (.int p2), .val (.int p3), .val (.int p4), .val (.int nn), .val (.int zz), .val (.int ff), .val (.ref lk), .val (.ref nt), .val (.int nr), .val (.int (1 : Int32))] [(.int (1 : Int32))])) _
    refine XS.goto X32.here hx rfl (pc0 := 179) (pc' := 183) rfl (hb hby at_179) (by decide) (by decide) ?_
    show Steps p.tables e below (T32.setTop (mkF m 183 #[.val (.int p1), .val (.int p2), .val (.int p3), .val (.int p4), .val (.int nn), .val (.int zz), .val (.int ff), .val (.ref lk), .val (.ref nt), .val (.int nr), .val (.int (1 : Int32))] [(.int (1 : Int32))])) _
    refine XS.istore X32.here hx rfl (hb hby at_183) rfl (l' := #[.val (.int p1), .val (.int p2), .val (.int p3), .val (.int p4), .val (.int nn), .val (.int zz), .val (.int ff), .val (.ref lk), .val (.ref nt), .val (.int nr), .val (.int (1 : Int32))]) rfl ?_
    show Steps p.tables e below (T32.setTop (mkF m 185 #[.val (.int p1), .val (.int p2), .val (.int p3), .val (.int p4), .val (.int nn), .val (.int zz), .val (.int ff), .val (.ref lk), .val (.ref nt), .val (.int nr), .val (.int (1 : Int32))] [])) _
    refine XS.iload X32.here hx rfl (hb hby at_185) rfl ?_
    exact Steps.refl _)
  obtain ⟨fs, hr, hrun, hended, hW, hsame⟩ := X32.leave (v := some (.int (1 : Int32))) (fun h => by rw [Bd.returns] at h; cases h)
  refine ⟨_, _, pre33.trans ?_, hrun, hended, _, _, rfl, ?_, ⟨_, rfl⟩, hW, hsame.mono (by decide) (by decide)⟩
  · exact retN X32 hx (t := .boolean) Bd.returns (by simp) (hb hby at_187) hr
  · exact ⟨rfl, N32⟩
set_option maxRecDepth 65536 in
set_option maxHeartbeats 40000000 in
theorem comes_1 {Post : Tables → Env → Array Value → State → Outcome → State → Prop} (hpost : ∀ tb e args s v u, (limb_1_1.after args s (.returned v) u = true ∧ limb_1_2.after args s (.returned v) u = true ∧ True) → FrameEnd s (.returned v) u (Jvm.fieldLocs frame_1_writes args s ++ Jvm.arrayLocs frame_1_arrays args s ++ Jvm.staticLocs frame_1_statics s) 304 1984 → Post tb e args s (.returned v) u) :
    ArmFor flags0 classFile x code maxLocals ret World_1 tables_1 room_1 Calls_1 rest_1 Pre_1 Post := by
  intro l hfl _ _ p e ha hc hk s m args below hf hA hF happ hP
  obtain ⟨hcalls, hrest, hpre⟩ := hP
  obtain ⟨-, -, -, hnamed, -, -, -, hat⟩ := (Spec.applies_iff hf).mp happ
  obtain ⟨hg, hn⟩ := and_e (Cond.before_iff.mp (show (Jvm.Cond.and given_1 narrow_1).before args s = true from hpre))
  obtain ⟨g0, r0⟩ := and_e hg
  obtain ⟨w0, w1, w2, w3, rfl⟩ : ∃ w0 w1 w2 w3 : Value, args = #[w0, w1, w2, w3] := by
    have hs : args.size = 4 := by simpa [Cond.value, given_1] using g0
    obtain ⟨L⟩ := args
    match L, hs with
    | [w0, w1, w2, w3], _ => exact ⟨w0, w1, w2, w3, rfl⟩
  have hw := fun d (hd : d ∈ tables_1) => atoms_spec (ws := Jvm.Cond.code x code maxLocals ret :: tables_1) hat d (List.mem_cons_of_mem _ hd)
  have hfit : Fit s := fun {y c} hc i hi => by
    obtain ⟨ha, rfl⟩ := Array.getElem?_eq_some_iff.mp hc
    have q := List.all_eq_true.mp ((Array.all_eq_true_iff_forall_mem.mp hF) _ (Array.getElem_mem ha)) i (List.mem_range.mpr hi)
    simpa [Array.getElem?_eq_getElem hi] using q
  obtain ⟨g1, r1⟩ := and_e r0
  obtain ⟨i0, ei0⟩ := is_v g1
  obtain rfl : w0 = (.int i0) := Option.some.inj ei0
  obtain ⟨g2, r2⟩ := and_e r1
  obtain ⟨i1, ei1⟩ := is_v g2
  obtain rfl : w1 = (.int i1) := Option.some.inj ei1
  obtain ⟨g3, r3⟩ := and_e r2
  obtain ⟨i2, ei2⟩ := is_v g3
  obtain rfl : w2 = (.int i2) := Option.some.inj ei2
  obtain ⟨i3, ei3⟩ := is_v r3
  obtain rfl : w3 = (.int i3) := Option.some.inj ei3
  have hsets := fun k (c : Jvm.Cond) (hk : jdkStatics_1[k]? = some c) => own_all (show (jdkStatics_1.foldr Jvm.Cond.and restOwn_1).before #[.int i0, .int i1, .int i2, .int i3] s = true from hrest) c (List.mem_of_getElem? hk)
  obtain ⟨da, eda⟩ := exa_v (Cond.before_iff.mp (hsets 7 _ rfl))
  have SD := Sta.start eda (Or.inr ⟨(hw _ (List.mem_of_getElem? (i := 4) rfl)), hsets 2 _ rfl⟩)
  obtain ⟨el, eel⟩ := exa_v (Cond.before_iff.mp (hsets 11 _ rfl))
  have SE := Sta.start eel (Or.inl (hsets 10 _ rfl))
  have EE := Exa.start eel (Cond.before_iff.mp (hsets 11 _ rfl))
  obtain ⟨ea, eea⟩ := exa_v (Cond.before_iff.mp (hsets 13 _ rfl))
  have FE : Fld s s.heap el "java/util/ImmutableCollections$ListN" "elements" "[Ljava/lang/Object;" (.ref ea) := own_fst eel eea
  obtain ⟨ce, AE⟩ := Arr.start eea (Cond.before_iff.mp (hsets 12 _ rfl))
  have SZ : ce.slots.size = (0 : Int32).toNatClampNeg := own_len0 eea AE (own_seq (hsets 14 _ rfl))
  obtain ⟨mc, mk, mr, hm1, hm2, hm3⟩ := hcalls.1
  have M : Mir s "[Ljava/lang/Object;" mr := ⟨mc, mk, hm1, hm2, hm3⟩
  obtain ⟨n, o, h1, h2, h3, _, L, rfl, ⟨rfl, N⟩, hq⟩ := rm0 l s _ hw tables_1 i0 i1 i2 i3 da el mr ea ce s.heap s.heap.size (Nat.le_refl _) SD SE EE FE AE SZ M p e ha hc hk s m _ below hf ((Spec.applies_iff_loose hf).mp happ).1 ⟨rfl, State.Warmed39.refl s, rfl⟩ trivial
  refine ⟨n, _, h1, h2, h3, hpost _ _ _ _ _ _ ⟨Cond.after_iff.mpr rfl, Cond.after_iff.mpr (eq_i res_at (Term.int_eval (1)) rfl), trivial⟩ ⟨hq.1, hq.2.1, (hq.2.2.sift fun y hy => Or.inr (N y hy)).mono (by decide) (by decide)⟩⟩
theorem main_1_1 : Claimed_1_1 := comes_1 fun _ _ _ _ _ _ h hF => ⟨h.1, hF⟩
theorem main_1_2 : Claimed_1_2 := comes_1 fun _ _ _ _ _ _ h hF => ⟨h.2.1, hF⟩
end Jvm.Pilot.@@N@@
namespace Jvm.Pilot.@@N@@
open Jvm Jvm.ClassFile Sem Op Lib Jvm.Free Jvm.Stand Jvm.Pilot.@@N@@.Jvm.D
/-! MADE BY PROGRAM (witnessworld.py) out of the Statement's table words and the real class files: 30 classes; the members and pool entries that the words name. The judged class is class 1, her method 1. -/
namespace start1
open Jvm.ClassFile
def u (s : String) : CpInfo := .utf8 (stringToUtf16 s)
/-- a pool by its gaps: so many unusable entries, then the entry; so many at the end -/
def gap : Nat → List CpInfo → List CpInfo
  | 0, r => r
  | n + 1, r => .unusable :: gap n r
def poolList (es : List (Nat × CpInfo)) (last : Nat) : List CpInfo := es.foldr (fun e r => gap e.1 (e.2 :: r)) (gap last [])
def pool (es : List (Nat × CpInfo)) (last : Nat) : Array CpInfo := ⟨poolList es last⟩
def fileOf (pool : Array CpInfo) (this : Nat) (attrs : Array Attribute := #[]) (ms : Array MethodInfo := #[]) (fl : Nat := 33) (sup : Nat := 0) (ifs : Array Nat := #[]) (fds : Array FieldInfo := #[]) : ClassFile where
  minorVersion := 0
  majorVersion := 65
  constantPool := pool
  accessFlags := fl
  thisClass := this
  superClass := sup
  interfaces := ifs
  fields := fds
  methods := ms
  attributes := attrs
def plain (name : String) (sup : Option ClassId) : Class where
  name := name
  kind := .ordinary
  loader := none
  accessFlags := 33
  super := sup
  interfaces := #[]
  cf := none
  fields := #[]
  methods := #[]
  instanceTypes := #[]
  staticTypes := #[]
  resolved := #[]
  callSites := []
  init := .initialized
  statics := none
  mirror := none

def pool0 : Array CpInfo := pool [(5, u "<init>"), (0, u "()V"), (1, .class_ 10), (1, u "java/lang/Object"), (0, u "getClass"), (0, u "()Ljava/lang/Class;")] 111

def k0c0 : Code := { maxStack := 0, maxLocals := 1, code := object_method_1_code, exceptionTable := #[], attributes := #[] }
def k0m0 : Method := { name := "<init>", desc := "()V", sig := { parameters := [], returnType := none }, accessFlags := 1, code := some k0c0 }
def k0m1 : Method := { name := "getClass", desc := "()Ljava/lang/Class;", sig := { parameters := [], returnType := some (.object "java/lang/Class") }, accessFlags := 273, code := none }
/-- java/lang/Object -/
def k0 : Class := { plain "java/lang/Object" none with
  accessFlags := 33
  interfaces := #[]
  cf := some (fileOf pool0 8 #[] #[{ accessFlags := 1, nameIndex := 5, descriptorIndex := 6, attributes := #[] }, { accessFlags := 273, nameIndex := 11, descriptorIndex := 12, attributes := #[] }] 33 0 #[] #[])
  fields := #[]
  methods := #[k0m0, k0m1]
  instanceTypes := #[]
  staticTypes := #[]
  resolved := Array.replicate 124 none
  statics := none }

def pool1 : Array CpInfo := pool [(2, .class_ 4), (0, .nameAndType 5 6), (0, u "java/lang/Object"), (0, u "<init>"), (0, u "()V"), (0, .integer 2147483647), (0, .integer 1073741823), (0, .class_ 10), (0, u "java/util/ArrayList"), (0, .methodref 9 3), (0, .class_ 13), (0, u "com/example/trips_into_trajectories/tripsintotrajectories/network/Network"), (0, .methodref 12 15), (0, .nameAndType 5 16), (0, u "(IIILjava/util/List;)V"), (0, .methodref 12 18), (0, .nameAndType 19 20), (0, u "isNode"), (0, u "(I)Z"), (2, .integer 2147483648), (0, .methodref 25 26), (0, .class_ 27), (0, .nameAndType 28 29), (0, u "com/example/trips_into_trajectories/tripsintotrajectories/network/NetworkIsNodePinLaw"), (0, u "inRange"), (0, u "(II)Z"), (2, u "law"), (0, u "(IIII)Z")] 5

def k1m0 : Method := { name := "<init>", desc := "()V", sig := { parameters := [], returnType := none }, accessFlags := 1, code := none }
def k1c1 : Code := { maxStack := 6, maxLocals := 11, code := code, exceptionTable := #[], attributes := #[] }
def k1m1 : Method := { name := "law", desc := "(IIII)Z", sig := { parameters := [.int, .int, .int, .int], returnType := some .boolean }, accessFlags := 9, code := some k1c1 }
def k1c2 : Code := { maxStack := 4, maxLocals := 4, code := method_3_code, exceptionTable := #[], attributes := #[] }
def k1m2 : Method := { name := "inRange", desc := "(II)Z", sig := { parameters := [.int, .int], returnType := some .boolean }, accessFlags := 10, code := some k1c2 }
/-- com/example/trips_into_trajectories/tripsintotrajectories/network/NetworkIsNodePinLaw -/
def k1 : Class := { plain "com/example/trips_into_trajectories/tripsintotrajectories/network/NetworkIsNodePinLaw" (some 0) with
  accessFlags := 49
  interfaces := #[]
  cf := some (fileOf pool1 25 #[] #[{ accessFlags := 1, nameIndex := 5, descriptorIndex := 6, attributes := #[] }, { accessFlags := 9, nameIndex := 32, descriptorIndex := 33, attributes := #[] }, { accessFlags := 10, nameIndex := 28, descriptorIndex := 29, attributes := #[] }] 49 2 #[] #[])
  fields := #[]
  methods := #[k1m0, k1m1, k1m2]
  instanceTypes := #[]
  staticTypes := #[]
  resolved := Array.replicate 39 none
  statics := none }

def pool2 : Array CpInfo := pool [(8, .class_ 10), (1, u "java/lang/Iterable"), (24, .class_ 36), (0, u "java/lang/Object")] 25

/-- java/lang/Iterable -/
def k2 : Class := { plain "java/lang/Iterable" (some 0) with
  accessFlags := 1537
  interfaces := #[]
  cf := some (fileOf pool2 8 #[] #[] 1537 35 #[] #[])
  fields := #[]
  methods := #[]
  instanceTypes := #[]
  staticTypes := #[]
  resolved := Array.replicate 62 none
  statics := none }

def pool3 : Array CpInfo := pool [(10, .class_ 12), (1, u "java/util/Collection"), (0, u "toArray"), (16, u "()Z"), (29, .class_ 61), (0, u "java/lang/Object"), (0, .class_ 63), (0, u "java/lang/Iterable"), (2, u "isEmpty"), (3, u "()[Ljava/lang/Object;")] 44

def k3m0 : Method := { name := "isEmpty", desc := "()Z", sig := { parameters := [], returnType := some .boolean }, accessFlags := 1025, code := none }
def k3m1 : Method := { name := "toArray", desc := "()[Ljava/lang/Object;", sig := { parameters := [], returnType := some (.array (.object "java/lang/Object")) }, accessFlags := 1025, code := none }
/-- java/util/Collection -/
def k3 : Class := { plain "java/util/Collection" (some 0) with
  accessFlags := 1537
  interfaces := #[2]
  cf := some (fileOf pool3 10 #[] #[{ accessFlags := 1025, nameIndex := 66, descriptorIndex := 30, attributes := #[] }, { accessFlags := 1025, nameIndex := 13, descriptorIndex := 70, attributes := #[] }] 1537 60 #[62] #[])
  fields := #[]
  methods := #[k3m0, k3m1]
  instanceTypes := #[]
  staticTypes := #[]
  resolved := Array.replicate 115 none
  statics := none }

def pool4 : Array CpInfo := pool [(1, .methodref 2 3), (0, .class_ 4), (0, .nameAndType 5 6), (0, u "java/lang/Object"), (0, u "<init>"), (0, u "()V"), (1, .class_ 10), (1, u "java/util/AbstractCollection"), (66, .class_ 78), (0, u "java/util/Collection")] 81

def k4c0 : Code := { maxStack := 1, maxLocals := 1, code := jdk_22_method_1_code, exceptionTable := #[], attributes := #[] }
def k4m0 : Method := { name := "<init>", desc := "()V", sig := { parameters := [], returnType := none }, accessFlags := 4, code := some k4c0 }
/-- java/util/AbstractCollection -/
def k4 : Class := { plain "java/util/AbstractCollection" (some 0) with
  accessFlags := 1057
  interfaces := #[3]
  cf := some (fileOf pool4 8 #[] #[{ accessFlags := 4, nameIndex := 5, descriptorIndex := 6, attributes := #[] }] 1057 2 #[77] #[])
  fields := #[]
  methods := #[k4m0]
  instanceTypes := #[]
  staticTypes := #[]
  resolved := Array.replicate 160 none
  statics := none }

def pool5 : Array CpInfo := pool [(8, .class_ 10), (1, u "java/util/SequencedCollection"), (15, .class_ 27), (0, u "java/lang/Object"), (0, .class_ 29), (0, u "java/util/Collection")] 27

/-- java/util/SequencedCollection -/
def k5 : Class := { plain "java/util/SequencedCollection" (some 0) with
  accessFlags := 1537
  interfaces := #[3]
  cf := some (fileOf pool5 8 #[] #[] 1537 26 #[28] #[])
  fields := #[]
  methods := #[]
  instanceTypes := #[]
  staticTypes := #[]
  resolved := Array.replicate 57 none
  statics := none }

def pool6 : Array CpInfo := pool [(8, .class_ 10), (1, u "java/util/List"), (37, u "<init>"), (11, u "add"), (3, u "(Ljava/lang/Object;)Z"), (14, u "size"), (0, u "()I"), (7, u "of"), (1, .fieldref 91 92), (0, .class_ 93), (0, .nameAndType 94 95), (0, u "java/util/ImmutableCollections"), (0, u "EMPTY_LIST"), (0, u "Ljava/util/ImmutableCollections$ListN;"), (0, .class_ 97), (0, u "java/util/ImmutableCollections$List12"), (2, .methodref 96 101), (0, .nameAndType 48 102), (0, u "(Ljava/lang/Object;Ljava/lang/Object;)V"), (0, .class_ 104), (0, u "java/lang/Object"), (3, u "([Ljava/lang/Object;)Ljava/util/List;"), (0, .methodref 91 110), (0, .nameAndType 111 108), (0, u "listFromArray"), (0, .methodref 91 113), (0, .nameAndType 114 115), (0, u "listCopy"), (0, u "(Ljava/util/Collection;)Ljava/util/List;"), (3, u "()Ljava/util/List;"), (0, .class_ 121), (0, u "java/util/SequencedCollection"), (1, u "iterator"), (0, u "()Ljava/util/Iterator;"), (109, u "copyOf")] 16

def k6m0 : Method := { name := "size", desc := "()I", sig := { parameters := [], returnType := some .int }, accessFlags := 1025, code := none }
def k6m1 : Method := { name := "iterator", desc := "()Ljava/util/Iterator;", sig := { parameters := [], returnType := some (.object "java/util/Iterator") }, accessFlags := 1025, code := none }
def k6m2 : Method := { name := "add", desc := "(Ljava/lang/Object;)Z", sig := { parameters := [(.object "java/lang/Object")], returnType := some .boolean }, accessFlags := 1025, code := none }
def k6c3 : Code := { maxStack := 1, maxLocals := 0, code := jdk_40_method_36_code, exceptionTable := #[], attributes := #[] }
def k6m3 : Method := { name := "of", desc := "()Ljava/util/List;", sig := { parameters := [], returnType := some (.object "java/util/List") }, accessFlags := 9, code := some k6c3 }
def k6c4 : Code := { maxStack := 5, maxLocals := 2, code := jdk_40_method_47_code, exceptionTable := #[], attributes := #[] }
def k6m4 : Method := { name := "of", desc := "([Ljava/lang/Object;)Ljava/util/List;", sig := { parameters := [(.array (.object "java/lang/Object"))], returnType := some (.object "java/util/List") }, accessFlags := 137, code := some k6c4 }
def k6c5 : Code := { maxStack := 1, maxLocals := 1, code := jdk_40_method_48_code, exceptionTable := #[], attributes := #[] }
def k6m5 : Method := { name := "copyOf", desc := "(Ljava/util/Collection;)Ljava/util/List;", sig := { parameters := [(.object "java/util/Collection")], returnType := some (.object "java/util/List") }, accessFlags := 9, code := some k6c5 }
/-- java/util/List -/
def k6 : Class := { plain "java/util/List" (some 0) with
  accessFlags := 1537
  interfaces := #[5]
  cf := some (fileOf pool6 8 #[] #[{ accessFlags := 1025, nameIndex := 79, descriptorIndex := 80, attributes := #[] }, { accessFlags := 1025, nameIndex := 123, descriptorIndex := 124, attributes := #[] }, { accessFlags := 1025, nameIndex := 60, descriptorIndex := 64, attributes := #[] }, { accessFlags := 9, nameIndex := 88, descriptorIndex := 119, attributes := #[] }, { accessFlags := 137, nameIndex := 88, descriptorIndex := 108, attributes := #[] }, { accessFlags := 9, nameIndex := 234, descriptorIndex := 115, attributes := #[] }] 1537 103 #[120] #[])
  fields := #[]
  methods := #[k6m0, k6m1, k6m2, k6m3, k6m4, k6m5]
  instanceTypes := #[]
  staticTypes := #[]
  resolved := Array.replicate 251 none
  statics := none }

def pool7 : Array CpInfo := pool [(1, .methodref 2 3), (0, .class_ 4), (0, .nameAndType 5 6), (0, u "java/util/AbstractCollection"), (0, u "<init>"), (0, u "()V"), (0, .fieldref 8 9), (0, .class_ 10), (0, .nameAndType 11 12), (0, u "java/util/AbstractList"), (0, u "modCount"), (0, u "I"), (64, .class_ 78), (0, u "java/util/AbstractList$Itr"), (3, .class_ 83), (0, u "java/util/AbstractList$ListItr"), (9, .class_ 94), (0, u "java/util/AbstractList$RandomAccessSubList"), (3, .class_ 99), (0, u "java/util/AbstractList$SubList"), (33, .class_ 134), (0, u "java/util/List"), (73, .class_ 209), (0, u "java/util/AbstractList$SubList$1"), (0, .class_ 211), (0, u "java/util/AbstractList$RandomAccessSpliterator")] 6

def k7c0 : Code := { maxStack := 2, maxLocals := 1, code := jdk_39_method_1_code, exceptionTable := #[], attributes := #[] }
def k7m0 : Method := { name := "<init>", desc := "()V", sig := { parameters := [], returnType := none }, accessFlags := 4, code := some k7c0 }
/-- java/util/AbstractList -/
def k7 : Class := { plain "java/util/AbstractList" (some 4) with
  accessFlags := 1057
  interfaces := #[6]
  cf := some (fileOf pool7 8 #[.nestMembers #[93, 98, 208, 210, 82, 77]] #[{ accessFlags := 4, nameIndex := 5, descriptorIndex := 6, attributes := #[] }] 1057 2 #[133] #[{ accessFlags := 132, nameIndex := 11, descriptorIndex := 12, attributes := #[] }])
  fields := #[{ name := "modCount", type := .int, accessFlags := 132, slot := 0, constantValue := 0 }]
  methods := #[k7m0]
  instanceTypes := #[.int]
  staticTypes := #[]
  resolved := Array.replicate 218 none
  statics := none }

def pool8 : Array CpInfo := pool [(1, .class_ 2), (0, u "java/util/RandomAccess"), (0, .class_ 4), (0, u "java/lang/Object")] 2

/-- java/util/RandomAccess -/
def k8 : Class := { plain "java/util/RandomAccess" (some 0) with
  accessFlags := 1537
  interfaces := #[]
  cf := some (fileOf pool8 1 #[] #[] 1537 3 #[] #[])
  fields := #[]
  methods := #[]
  instanceTypes := #[]
  staticTypes := #[]
  resolved := Array.replicate 7 none
  statics := none }

def pool9 : Array CpInfo := pool [(1, .class_ 2), (0, u "java/lang/Cloneable"), (0, .class_ 4), (0, u "java/lang/Object")] 2

/-- java/lang/Cloneable -/
def k9 : Class := { plain "java/lang/Cloneable" (some 0) with
  accessFlags := 1537
  interfaces := #[]
  cf := some (fileOf pool9 1 #[] #[] 1537 3 #[] #[])
  fields := #[]
  methods := #[]
  instanceTypes := #[]
  staticTypes := #[]
  resolved := Array.replicate 7 none
  statics := none }

def pool10 : Array CpInfo := pool [(1, .class_ 2), (0, u "java/io/Serializable"), (0, .class_ 4), (0, u "java/lang/Object")] 2

/-- java/io/Serializable -/
def k10 : Class := { plain "java/io/Serializable" (some 0) with
  accessFlags := 1537
  interfaces := #[]
  cf := some (fileOf pool10 1 #[] #[] 1537 3 #[] #[])
  fields := #[]
  methods := #[]
  instanceTypes := #[]
  staticTypes := #[]
  resolved := Array.replicate 7 none
  statics := none }

def pool11 : Array CpInfo := pool [(1, .methodref 2 3), (0, .class_ 4), (0, .nameAndType 5 6), (0, u "java/util/AbstractList"), (0, u "<init>"), (0, u "()V"), (0, .class_ 8), (0, u "java/lang/Object"), (0, .fieldref 10 11), (0, .class_ 12), (0, .nameAndType 13 14), (0, u "java/util/ArrayList"), (0, u "elementData"), (0, u "[Ljava/lang/Object;"), (2, u "EMPTY_ELEMENTDATA"), (21, .fieldref 10 40), (0, .nameAndType 41 14), (0, u "DEFAULTCAPACITY_EMPTY_ELEMENTDATA"), (4, u "toArray"), (0, u "()[Ljava/lang/Object;"), (0, .fieldref 10 49), (0, .nameAndType 50 51), (0, u "size"), (0, u "I"), (6, .class_ 60), (1, u "java/util/Arrays"), (0, u "copyOf"), (1, .fieldref 10 64), (0, .nameAndType 65 51), (0, u "modCount"), (0, .methodref 58 67), (0, .nameAndType 61 68), (0, u "([Ljava/lang/Object;I)[Ljava/lang/Object;"), (27, u "(Ljava/lang/Object;)Z"), (34, .methodref 10 132), (0, .nameAndType 133 134), (0, u "add"), (0, u "(Ljava/lang/Object;[Ljava/lang/Object;I)V"), (3, u "(I)V"), (9, .class_ 149), (0, u "java/util/List"), (16, u "iterator"), (0, u "()Ljava/util/Iterator;"), (5, u "()Z"), (12, u "()I"), (75, .class_ 263), (0, u "java/util/ArrayList$ListItr"), (3, .class_ 268), (0, u "java/util/ArrayList$Itr"), (0, .methodref 267 270), (0, .nameAndType 5 271), (0, u "(Ljava/util/ArrayList;)V"), (4, .class_ 277), (0, u "java/util/ArrayList$SubList"), (12, .class_ 291), (0, u "java/util/ArrayList$ArrayListSpliterator"), (37, .class_ 330), (0, u "java/util/RandomAccess"), (0, .class_ 332), (0, u "java/lang/Cloneable"), (0, .class_ 334), (0, u "java/io/Serializable"), (0, u "serialVersionUID"), (0, u "J"), (3, u "DEFAULT_CAPACITY"), (22, u "isEmpty"), (136, .class_ 501), (0, u "java/util/ArrayList$SubList$2"), (0, .class_ 503), (0, u "java/util/ArrayList$SubList$1")] 5

def k11c0 : Code := { maxStack := 4, maxLocals := 2, code := jdk_38_method_1_code, exceptionTable := #[], attributes := #[] }
def k11m0 : Method := { name := "<init>", desc := "(I)V", sig := { parameters := [.int], returnType := none }, accessFlags := 1, code := some k11c0 }
def k11c1 : Code := { maxStack := 2, maxLocals := 1, code := jdk_38_method_2_code, exceptionTable := #[], attributes := #[] }
def k11m1 : Method := { name := "<init>", desc := "()V", sig := { parameters := [], returnType := none }, accessFlags := 1, code := some k11c1 }
def k11c2 : Code := { maxStack := 1, maxLocals := 1, code := jdk_38_method_8_code, exceptionTable := #[], attributes := #[] }
def k11m2 : Method := { name := "size", desc := "()I", sig := { parameters := [], returnType := some .int }, accessFlags := 1, code := some k11c2 }
def k11c3 : Code := { maxStack := 1, maxLocals := 1, code := jdk_38_method_9_code, exceptionTable := #[], attributes := #[] }
def k11m3 : Method := { name := "isEmpty", desc := "()Z", sig := { parameters := [], returnType := some .boolean }, accessFlags := 1, code := some k11c3 }
def k11c4 : Code := { maxStack := 2, maxLocals := 1, code := jdk_38_method_16_code, exceptionTable := #[], attributes := #[] }
def k11m4 : Method := { name := "toArray", desc := "()[Ljava/lang/Object;", sig := { parameters := [], returnType := some (.array (.object "java/lang/Object")) }, accessFlags := 1, code := some k11c4 }
def k11c5 : Code := { maxStack := 3, maxLocals := 4, code := jdk_38_method_24_code, exceptionTable := #[], attributes := #[] }
def k11m5 : Method := { name := "add", desc := "(Ljava/lang/Object;[Ljava/lang/Object;I)V", sig := { parameters := [(.object "java/lang/Object"), (.array (.object "java/lang/Object")), .int], returnType := none }, accessFlags := 2, code := some k11c5 }
def k11c6 : Code := { maxStack := 4, maxLocals := 2, code := jdk_38_method_25_code, exceptionTable := #[], attributes := #[] }
def k11m6 : Method := { name := "add", desc := "(Ljava/lang/Object;)Z", sig := { parameters := [(.object "java/lang/Object")], returnType := some .boolean }, accessFlags := 1, code := some k11c6 }
def k11c7 : Code := { maxStack := 3, maxLocals := 1, code := jdk_38_method_55_code, exceptionTable := #[], attributes := #[] }
def k11m7 : Method := { name := "iterator", desc := "()Ljava/util/Iterator;", sig := { parameters := [], returnType := some (.object "java/util/Iterator") }, accessFlags := 1, code := some k11c7 }
/-- java/util/ArrayList -/
def k11 : Class := { plain "java/util/ArrayList" (some 7) with
  accessFlags := 33
  interfaces := #[6, 8, 9, 10]
  cf := some (fileOf pool11 10 #[.nestMembers #[290, 276, 500, 502, 262, 267]] #[{ accessFlags := 1, nameIndex := 5, descriptorIndex := 138, attributes := #[] }, { accessFlags := 1, nameIndex := 5, descriptorIndex := 6, attributes := #[] }, { accessFlags := 1, nameIndex := 50, descriptorIndex := 186, attributes := #[] }, { accessFlags := 1, nameIndex := 363, descriptorIndex := 173, attributes := #[] }, { accessFlags := 1, nameIndex := 46, descriptorIndex := 47, attributes := #[] }, { accessFlags := 2, nameIndex := 133, descriptorIndex := 134, attributes := #[] }, { accessFlags := 1, nameIndex := 133, descriptorIndex := 96, attributes := #[] }, { accessFlags := 1, nameIndex := 166, descriptorIndex := 167, attributes := #[] }] 33 2 #[148, 329, 331, 333] #[{ accessFlags := 26, nameIndex := 335, descriptorIndex := 336, attributes := #[] }, { accessFlags := 26, nameIndex := 340, descriptorIndex := 51, attributes := #[] }, { accessFlags := 26, nameIndex := 17, descriptorIndex := 14, attributes := #[] }, { accessFlags := 26, nameIndex := 41, descriptorIndex := 14, attributes := #[] }, { accessFlags := 128, nameIndex := 13, descriptorIndex := 14, attributes := #[] }, { accessFlags := 2, nameIndex := 50, descriptorIndex := 51, attributes := #[] }])
  fields := #[{ name := "serialVersionUID", type := .long, accessFlags := 26, slot := 0, constantValue := 0 }, { name := "DEFAULT_CAPACITY", type := .int, accessFlags := 26, slot := 1, constantValue := 0 }, { name := "EMPTY_ELEMENTDATA", type := (.array (.object "java/lang/Object")), accessFlags := 26, slot := 2, constantValue := 0 }, { name := "DEFAULTCAPACITY_EMPTY_ELEMENTDATA", type := (.array (.object "java/lang/Object")), accessFlags := 26, slot := 3, constantValue := 0 }, { name := "elementData", type := (.array (.object "java/lang/Object")), accessFlags := 128, slot := 1, constantValue := 0 }, { name := "size", type := .int, accessFlags := 2, slot := 2, constantValue := 0 }]
  methods := #[k11m0, k11m1, k11m2, k11m3, k11m4, k11m5, k11m6, k11m7]
  instanceTypes := #[.int, (.array (.object "java/lang/Object")), .int]
  staticTypes := #[.long, .int, (.array (.object "java/lang/Object")), (.array (.object "java/lang/Object"))]
  resolved := Array.replicate 509 none
  statics := some 0 }

def pool12 : Array CpInfo := pool [(1, .methodref 2 3), (0, .class_ 4), (0, .nameAndType 5 6), (0, u "java/lang/Object"), (0, u "<init>"), (0, u "()V"), (9, .fieldref 17 18), (0, .class_ 19), (0, .nameAndType 20 21), (0, u "com/example/trips_into_trajectories/tripsintotrajectories/network/Network"), (0, u "zones"), (0, u "I"), (0, .fieldref 17 23), (0, .nameAndType 24 21), (0, u "nodes"), (0, .fieldref 17 26), (0, .nameAndType 27 21), (0, u "firstThruNode"), (0, .interfaceMethodref 29 30), (0, .class_ 31), (0, .nameAndType 32 33), (0, u "java/util/List"), (0, u "copyOf"), (0, u "(Ljava/util/Collection;)Ljava/util/List;"), (0, .fieldref 17 35), (0, .nameAndType 36 37), (0, u "links"), (0, u "Ljava/util/List;"), (0, .methodref 17 39), (0, .nameAndType 40 41), (0, u "emptyLists"), (0, u "(I)Ljava/util/List;"), (0, .interfaceMethodref 29 43), (0, .nameAndType 44 45), (0, u "size"), (0, u "()I"), (9, .methodref 17 56), (0, .nameAndType 57 58), (0, u "isNode"), (0, u "(I)Z"), (16, .interfaceMethodref 29 76), (0, .nameAndType 77 78), (0, u "add"), (0, u "(Ljava/lang/Object;)Z"), (0, .methodref 17 80), (0, .nameAndType 81 82), (0, u "frozen"), (0, u "(Ljava/util/List;)Ljava/util/List;"), (0, .fieldref 17 84), (0, .nameAndType 85 37), (0, u "outgoing"), (0, .fieldref 17 87), (0, .nameAndType 88 37), (0, u "incoming"), (0, .class_ 90), (0, u "java/util/ArrayList"), (0, .methodref 89 92), (0, .nameAndType 5 93), (0, u "(I)V"), (0, .methodref 89 3), (0, .interfaceMethodref 29 96), (0, .nameAndType 97 98), (0, u "iterator"), (0, u "()Ljava/util/Iterator;"), (0, .interfaceMethodref 100 101), (0, .class_ 102), (0, .nameAndType 103 104), (0, u "java/util/Iterator"), (0, u "hasNext"), (0, u "()Z"), (0, .interfaceMethodref 100 106), (0, .nameAndType 107 108), (0, u "next"), (0, u "()Ljava/lang/Object;"), (3, u "(IIILjava/util/List;)V")] 31

def k12c0 : Code := { maxStack := 5, maxLocals := 9, code := prog_38_method_1_code, exceptionTable := #[], attributes := #[] }
def k12m0 : Method := { name := "<init>", desc := "(IIILjava/util/List;)V", sig := { parameters := [.int, .int, .int, (.object "java/util/List")], returnType := none }, accessFlags := 1, code := some k12c0 }
def k12c1 : Code := { maxStack := 2, maxLocals := 2, code := prog_38_method_9_code, exceptionTable := #[], attributes := #[] }
def k12m1 : Method := { name := "isNode", desc := "(I)Z", sig := { parameters := [.int], returnType := some .boolean }, accessFlags := 1, code := some k12c1 }
def k12c2 : Code := { maxStack := 3, maxLocals := 3, code := prog_38_method_11_code, exceptionTable := #[], attributes := #[] }
def k12m2 : Method := { name := "emptyLists", desc := "(I)Ljava/util/List;", sig := { parameters := [.int], returnType := some (.object "java/util/List") }, accessFlags := 10, code := some k12c2 }
def k12c3 : Code := { maxStack := 3, maxLocals := 4, code := prog_38_method_12_code, exceptionTable := #[], attributes := #[] }
def k12m3 : Method := { name := "frozen", desc := "(Ljava/util/List;)Ljava/util/List;", sig := { parameters := [(.object "java/util/List")], returnType := some (.object "java/util/List") }, accessFlags := 10, code := some k12c3 }
/-- com/example/trips_into_trajectories/tripsintotrajectories/network/Network -/
def k12 : Class := { plain "com/example/trips_into_trajectories/tripsintotrajectories/network/Network" (some 0) with
  accessFlags := 49
  interfaces := #[]
  cf := some (fileOf pool12 17 #[] #[{ accessFlags := 1, nameIndex := 5, descriptorIndex := 112, attributes := #[] }, { accessFlags := 1, nameIndex := 57, descriptorIndex := 58, attributes := #[] }, { accessFlags := 10, nameIndex := 40, descriptorIndex := 41, attributes := #[] }, { accessFlags := 10, nameIndex := 81, descriptorIndex := 82, attributes := #[] }] 49 2 #[] #[{ accessFlags := 18, nameIndex := 20, descriptorIndex := 21, attributes := #[] }, { accessFlags := 18, nameIndex := 24, descriptorIndex := 21, attributes := #[] }, { accessFlags := 18, nameIndex := 27, descriptorIndex := 21, attributes := #[] }, { accessFlags := 18, nameIndex := 36, descriptorIndex := 37, attributes := #[] }, { accessFlags := 18, nameIndex := 85, descriptorIndex := 37, attributes := #[] }, { accessFlags := 18, nameIndex := 88, descriptorIndex := 37, attributes := #[] }])
  fields := #[{ name := "zones", type := .int, accessFlags := 18, slot := 0, constantValue := 0 }, { name := "nodes", type := .int, accessFlags := 18, slot := 1, constantValue := 0 }, { name := "firstThruNode", type := .int, accessFlags := 18, slot := 2, constantValue := 0 }, { name := "links", type := (.object "java/util/List"), accessFlags := 18, slot := 3, constantValue := 0 }, { name := "outgoing", type := (.object "java/util/List"), accessFlags := 18, slot := 4, constantValue := 0 }, { name := "incoming", type := (.object "java/util/List"), accessFlags := 18, slot := 5, constantValue := 0 }]
  methods := #[k12m0, k12m1, k12m2, k12m3]
  instanceTypes := #[.int, .int, .int, (.object "java/util/List"), (.object "java/util/List"), (.object "java/util/List")]
  staticTypes := #[]
  resolved := Array.replicate 144 none
  statics := none }

def pool13 : Array CpInfo := pool [(2, .class_ 4), (1, u "java/lang/Object"), (0, u "<init>"), (0, u "()V"), (3, .class_ 11), (0, u "java/util/ImmutableCollections$List12"), (0, .class_ 13), (0, u "java/util/ImmutableCollections$ListN"), (3, u "Z"), (0, .class_ 19), (0, u "java/util/List"), (0, .interfaceMethodref 21 22), (0, .class_ 23), (0, .nameAndType 24 25), (0, u "java/util/Collection"), (0, u "isEmpty"), (0, u "()Z"), (0, .interfaceMethodref 18 27), (0, .nameAndType 28 29), (0, u "of"), (0, u "()Ljava/util/List;"), (0, .interfaceMethodref 21 31), (0, .nameAndType 32 33), (0, u "toArray"), (0, u "()[Ljava/lang/Object;"), (0, .interfaceMethodref 18 35), (0, .nameAndType 28 36), (0, u "([Ljava/lang/Object;)Ljava/util/List;"), (0, .methodref 38 39), (0, .class_ 40), (0, .nameAndType 41 42), (0, u "java/util/Objects"), (0, u "requireNonNull"), (0, u "(Ljava/lang/Object;)Ljava/lang/Object;"), (0, .methodref 12 44), (0, .nameAndType 5 45), (0, u "([Ljava/lang/Object;Z)V"), (1, .class_ 49), (1, u "java/util/ImmutableCollections"), (0, u "$assertionsDisabled"), (5, u "[Ljava/lang/Object;"), (5, u "EMPTY_LIST"), (0, u "Ljava/util/ImmutableCollections$ListN;"), (8, u "EMPTY_LIST_NULLS"), (22, u "SALT32L"), (0, u "J"), (2, u "REVERSE"), (6, u "archivedObjects"), (2, u "EMPTY"), (0, u "Ljava/lang/Object;"), (0, .class_ 112), (0, u "java/util/ImmutableCollections$SetN"), (5, u "EMPTY_SET"), (0, u "Ljava/util/ImmutableCollections$SetN;"), (0, .class_ 121), (0, u "java/util/ImmutableCollections$MapN"), (3, u "EMPTY_MAP"), (0, u "Ljava/util/ImmutableCollections$MapN;"), (4, u "EXPAND_FACTOR"), (0, u "I"), (9, u "listCopy"), (0, u "(Ljava/util/Collection;)Ljava/util/List;"), (7, u "listFromArray"), (17, .class_ 170), (0, u "java/util/ImmutableCollections$MapN$MapNIterator"), (0, .class_ 172), (0, u "java/util/ImmutableCollections$MapN$1"), (0, .class_ 174), (0, u "java/util/ImmutableCollections$Map1"), (0, .class_ 176), (0, u "java/util/ImmutableCollections$AbstractImmutableMap"), (0, .class_ 178), (0, u "java/util/ImmutableCollections$SetN$SetNIterator"), (0, .class_ 180), (0, u "java/util/ImmutableCollections$Set12"), (0, .class_ 182), (0, u "java/util/ImmutableCollections$Set12$1"), (0, .class_ 184), (0, u "java/util/ImmutableCollections$AbstractImmutableSet"), (0, .class_ 186), (0, u "java/util/ImmutableCollections$SubList"), (0, .class_ 188), (0, u "java/util/ImmutableCollections$ListItr"), (0, .class_ 190), (0, u "java/util/ImmutableCollections$AbstractImmutableList"), (0, .class_ 192), (0, u "java/util/ImmutableCollections$AbstractImmutableCollection"), (0, .class_ 194), (0, u "java/util/ImmutableCollections$Access"), (0, .class_ 196), (0, u "java/util/ImmutableCollections$Access$1")] 16

def k13m0 : Method := { name := "<init>", desc := "()V", sig := { parameters := [], returnType := none }, accessFlags := 2, code := none }
def k13c1 : Code := { maxStack := 1, maxLocals := 2, code := jdk_56_method_3_code, exceptionTable := #[], attributes := #[] }
def k13m1 : Method := { name := "listCopy", desc := "(Ljava/util/Collection;)Ljava/util/List;", sig := { parameters := [(.object "java/util/Collection")], returnType := some (.object "java/util/List") }, accessFlags := 8, code := some k13c1 }
def k13c2 : Code := { maxStack := 4, maxLocals := 3, code := jdk_56_method_4_code, exceptionTable := #[], attributes := #[] }
def k13m2 : Method := { name := "listFromArray", desc := "([Ljava/lang/Object;)Ljava/util/List;", sig := { parameters := [(.array (.object "java/lang/Object"))], returnType := some (.object "java/util/List") }, accessFlags := 136, code := some k13c2 }
/-- java/util/ImmutableCollections -/
def k13 : Class := { plain "java/util/ImmutableCollections" (some 0) with
  accessFlags := 32
  interfaces := #[]
  cf := some (fileOf pool13 47 #[.nestMembers #[120, 169, 171, 173, 175, 111, 177, 179, 181, 183, 12, 10, 185, 187, 189, 191, 193, 195]] #[{ accessFlags := 2, nameIndex := 5, descriptorIndex := 6, attributes := #[] }, { accessFlags := 8, nameIndex := 142, descriptorIndex := 143, attributes := #[] }, { accessFlags := 136, nameIndex := 151, descriptorIndex := 36, attributes := #[] }] 32 2 #[] #[{ accessFlags := 26, nameIndex := 95, descriptorIndex := 96, attributes := #[] }, { accessFlags := 26, nameIndex := 99, descriptorIndex := 17, attributes := #[] }, { accessFlags := 10, nameIndex := 106, descriptorIndex := 56, attributes := #[] }, { accessFlags := 26, nameIndex := 109, descriptorIndex := 110, attributes := #[] }, { accessFlags := 24, nameIndex := 62, descriptorIndex := 63, attributes := #[] }, { accessFlags := 24, nameIndex := 72, descriptorIndex := 63, attributes := #[] }, { accessFlags := 24, nameIndex := 118, descriptorIndex := 119, attributes := #[] }, { accessFlags := 24, nameIndex := 125, descriptorIndex := 126, attributes := #[] }, { accessFlags := 24, nameIndex := 131, descriptorIndex := 132, attributes := #[] }, { accessFlags := 4120, nameIndex := 50, descriptorIndex := 17, attributes := #[] }])
  fields := #[{ name := "SALT32L", type := .long, accessFlags := 26, slot := 0, constantValue := 0 }, { name := "REVERSE", type := .boolean, accessFlags := 26, slot := 1, constantValue := 0 }, { name := "archivedObjects", type := (.array (.object "java/lang/Object")), accessFlags := 10, slot := 2, constantValue := 0 }, { name := "EMPTY", type := (.object "java/lang/Object"), accessFlags := 26, slot := 3, constantValue := 0 }, { name := "EMPTY_LIST", type := (.object "java/util/ImmutableCollections$ListN"), accessFlags := 24, slot := 4, constantValue := 0 }, { name := "EMPTY_LIST_NULLS", type := (.object "java/util/ImmutableCollections$ListN"), accessFlags := 24, slot := 5, constantValue := 0 }, { name := "EMPTY_SET", type := (.object "java/util/ImmutableCollections$SetN"), accessFlags := 24, slot := 6, constantValue := 0 }, { name := "EMPTY_MAP", type := (.object "java/util/ImmutableCollections$MapN"), accessFlags := 24, slot := 7, constantValue := 0 }, { name := "EXPAND_FACTOR", type := .int, accessFlags := 24, slot := 8, constantValue := 0 }, { name := "$assertionsDisabled", type := .boolean, accessFlags := 4120, slot := 9, constantValue := 0 }]
  methods := #[k13m0, k13m1, k13m2]
  instanceTypes := #[]
  staticTypes := #[.long, .boolean, (.array (.object "java/lang/Object")), (.object "java/lang/Object"), (.object "java/util/ImmutableCollections$ListN"), (.object "java/util/ImmutableCollections$ListN"), (.object "java/util/ImmutableCollections$SetN"), (.object "java/util/ImmutableCollections$MapN"), .int, .boolean]
  resolved := Array.replicate 213 none
  statics := some 1 }

def pool14 : Array CpInfo := pool [(1, .methodref 2 3), (0, .class_ 4), (0, .nameAndType 5 6), (0, u "java/util/AbstractCollection"), (0, u "<init>"), (0, u "()V"), (1, .class_ 10), (1, u "java/util/ImmutableCollections"), (2, .class_ 14), (0, u "java/util/ImmutableCollections$AbstractImmutableCollection")] 41

def k14c0 : Code := { maxStack := 1, maxLocals := 1, code := jdk_47_method_1_code, exceptionTable := #[], attributes := #[] }
def k14m0 : Method := { name := "<init>", desc := "()V", sig := { parameters := [], returnType := none }, accessFlags := 0, code := some k14c0 }
/-- java/util/ImmutableCollections$AbstractImmutableCollection -/
def k14 : Class := { plain "java/util/ImmutableCollections$AbstractImmutableCollection" (some 4) with
  accessFlags := 1056
  interfaces := #[]
  cf := some (fileOf pool14 13 #[.nestHost 8] #[{ accessFlags := 0, nameIndex := 5, descriptorIndex := 6, attributes := #[] }] 1056 2 #[] #[])
  fields := #[]
  methods := #[k14m0]
  instanceTypes := #[]
  staticTypes := #[]
  resolved := Array.replicate 56 none
  statics := none }

def pool15 : Array CpInfo := pool [(1, .methodref 2 3), (0, .class_ 4), (0, .nameAndType 5 6), (0, u "java/util/ImmutableCollections$AbstractImmutableCollection"), (0, u "<init>"), (0, u "()V"), (1, .class_ 10), (1, u "java/util/ImmutableCollections"), (3, .class_ 16), (1, u "java/util/ImmutableCollections$AbstractImmutableList"), (60, .class_ 78), (0, u "java/util/List"), (45, .class_ 125), (0, u "java/util/RandomAccess")] 70

def k15c0 : Code := { maxStack := 1, maxLocals := 1, code := jdk_46_method_1_code, exceptionTable := #[], attributes := #[] }
def k15m0 : Method := { name := "<init>", desc := "()V", sig := { parameters := [], returnType := none }, accessFlags := 0, code := some k15c0 }
/-- java/util/ImmutableCollections$AbstractImmutableList -/
def k15 : Class := { plain "java/util/ImmutableCollections$AbstractImmutableList" (some 14) with
  accessFlags := 1056
  interfaces := #[6, 8]
  cf := some (fileOf pool15 14 #[.nestHost 8] #[{ accessFlags := 0, nameIndex := 5, descriptorIndex := 6, attributes := #[] }] 1056 2 #[77, 124] #[])
  fields := #[]
  methods := #[k15m0]
  instanceTypes := #[]
  staticTypes := #[]
  resolved := Array.replicate 196 none
  statics := none }

def pool16 : Array CpInfo := pool [(1, .methodref 2 3), (0, .class_ 4), (0, .nameAndType 5 6), (0, u "java/util/ImmutableCollections$AbstractImmutableList"), (0, u "<init>"), (0, u "()V"), (0, .methodref 8 9), (0, .class_ 10), (0, .nameAndType 11 12), (0, u "java/util/Objects"), (0, u "requireNonNull"), (0, u "(Ljava/lang/Object;)Ljava/lang/Object;"), (0, .fieldref 14 15), (0, .class_ 16), (0, .nameAndType 17 18), (0, u "java/util/ImmutableCollections$List12"), (0, u "e0"), (0, u "Ljava/lang/Object;"), (1, .class_ 22), (1, u "java/util/ImmutableCollections"), (1, .fieldref 14 25), (0, .nameAndType 26 18), (0, u "e1"), (43, .class_ 71), (0, u "java/io/Serializable"), (13, u "(Ljava/lang/Object;Ljava/lang/Object;)V")] 39

def k16c0 : Code := { maxStack := 2, maxLocals := 3, code := jdk_44_method_2_code, exceptionTable := #[], attributes := #[] }
def k16m0 : Method := { name := "<init>", desc := "(Ljava/lang/Object;Ljava/lang/Object;)V", sig := { parameters := [(.object "java/lang/Object"), (.object "java/lang/Object")], returnType := none }, accessFlags := 0, code := some k16c0 }
/-- java/util/ImmutableCollections$List12 -/
def k16 : Class := { plain "java/util/ImmutableCollections$List12" (some 15) with
  accessFlags := 48
  interfaces := #[10]
  cf := some (fileOf pool16 14 #[.nestHost 20] #[{ accessFlags := 0, nameIndex := 5, descriptorIndex := 85, attributes := #[] }] 48 2 #[70] #[{ accessFlags := 18, nameIndex := 17, descriptorIndex := 18, attributes := #[] }, { accessFlags := 18, nameIndex := 26, descriptorIndex := 18, attributes := #[] }])
  fields := #[{ name := "e0", type := (.object "java/lang/Object"), accessFlags := 18, slot := 0, constantValue := 0 }, { name := "e1", type := (.object "java/lang/Object"), accessFlags := 18, slot := 1, constantValue := 0 }]
  methods := #[k16m0]
  instanceTypes := #[(.object "java/lang/Object"), (.object "java/lang/Object")]
  staticTypes := #[]
  resolved := Array.replicate 125 none
  statics := none }

def pool17 : Array CpInfo := pool [(1, .methodref 2 3), (0, .class_ 4), (0, .nameAndType 5 6), (0, u "java/util/ImmutableCollections$AbstractImmutableList"), (0, u "<init>"), (0, u "()V"), (0, .fieldref 8 9), (0, .class_ 10), (0, .nameAndType 11 12), (0, u "java/util/ImmutableCollections$ListN"), (0, u "elements"), (0, u "[Ljava/lang/Object;"), (0, .fieldref 8 14), (0, .nameAndType 15 16), (0, u "allowNulls"), (0, u "Z"), (42, .class_ 60), (0, u "java/io/Serializable"), (4, u "([Ljava/lang/Object;Z)V"), (11, u "size"), (0, u "()I"), (35, .class_ 115), (0, u "java/util/ImmutableCollections")] 3

def k17c0 : Code := { maxStack := 2, maxLocals := 3, code := jdk_45_method_1_code, exceptionTable := #[], attributes := #[] }
def k17m0 : Method := { name := "<init>", desc := "([Ljava/lang/Object;Z)V", sig := { parameters := [(.array (.object "java/lang/Object")), .boolean], returnType := none }, accessFlags := 2, code := some k17c0 }
def k17c1 : Code := { maxStack := 1, maxLocals := 1, code := jdk_45_method_3_code, exceptionTable := #[], attributes := #[] }
def k17m1 : Method := { name := "size", desc := "()I", sig := { parameters := [], returnType := some .int }, accessFlags := 1, code := some k17c1 }
/-- java/util/ImmutableCollections$ListN -/
def k17 : Class := { plain "java/util/ImmutableCollections$ListN" (some 15) with
  accessFlags := 48
  interfaces := #[10]
  cf := some (fileOf pool17 8 #[.nestHost 114] #[{ accessFlags := 2, nameIndex := 5, descriptorIndex := 65, attributes := #[] }, { accessFlags := 1, nameIndex := 77, descriptorIndex := 78, attributes := #[] }] 48 2 #[59] #[{ accessFlags := 18, nameIndex := 11, descriptorIndex := 12, attributes := #[] }, { accessFlags := 18, nameIndex := 15, descriptorIndex := 16, attributes := #[] }])
  fields := #[{ name := "elements", type := (.array (.object "java/lang/Object")), accessFlags := 18, slot := 0, constantValue := 0 }, { name := "allowNulls", type := .boolean, accessFlags := 18, slot := 1, constantValue := 0 }]
  methods := #[k17m0, k17m1]
  instanceTypes := #[(.array (.object "java/lang/Object")), .boolean]
  staticTypes := #[]
  resolved := Array.replicate 119 none
  statics := none }

def pool18 : Array CpInfo := pool [(16, .class_ 18), (1, u "java/util/Iterator"), (0, u "hasNext"), (0, u "()Z"), (2, u "next"), (0, u "()Ljava/lang/Object;"), (6, .class_ 32), (0, u "java/lang/Object")] 20

def k18m0 : Method := { name := "hasNext", desc := "()Z", sig := { parameters := [], returnType := some .boolean }, accessFlags := 1025, code := none }
def k18m1 : Method := { name := "next", desc := "()Ljava/lang/Object;", sig := { parameters := [], returnType := some (.object "java/lang/Object") }, accessFlags := 1025, code := none }
/-- java/util/Iterator -/
def k18 : Class := { plain "java/util/Iterator" (some 0) with
  accessFlags := 1537
  interfaces := #[]
  cf := some (fileOf pool18 16 #[] #[{ accessFlags := 1025, nameIndex := 19, descriptorIndex := 20, attributes := #[] }, { accessFlags := 1025, nameIndex := 23, descriptorIndex := 24, attributes := #[] }] 1537 31 #[] #[])
  fields := #[]
  methods := #[k18m0, k18m1]
  instanceTypes := #[]
  staticTypes := #[]
  resolved := Array.replicate 53 none
  statics := none }

def pool19 : Array CpInfo := pool [(1, .fieldref 2 3), (0, .class_ 4), (0, .nameAndType 5 6), (0, u "java/util/ArrayList$Itr"), (0, u "this$0"), (0, u "Ljava/util/ArrayList;"), (0, .methodref 8 9), (0, .class_ 10), (0, .nameAndType 11 12), (0, u "java/lang/Object"), (0, u "<init>"), (0, u "()V"), (0, .fieldref 2 14), (0, .nameAndType 15 16), (0, u "lastRet"), (0, u "I"), (0, .fieldref 18 19), (0, .class_ 20), (0, .nameAndType 21 16), (0, u "java/util/ArrayList"), (0, u "modCount"), (0, .fieldref 2 23), (0, .nameAndType 24 16), (0, u "expectedModCount"), (0, .fieldref 2 26), (0, .nameAndType 27 16), (0, u "cursor"), (0, .fieldref 18 29), (0, .nameAndType 30 16), (0, u "size"), (0, .methodref 2 32), (0, .nameAndType 33 12), (0, u "checkForComodification"), (3, .fieldref 18 38), (0, .nameAndType 39 40), (0, u "elementData"), (0, u "[Ljava/lang/Object;"), (28, .class_ 70), (0, u "java/util/Iterator"), (0, u "(Ljava/util/ArrayList;)V"), (8, u "hasNext"), (0, u "()Z"), (1, u "next"), (0, u "()Ljava/lang/Object;")] 19

def k19c0 : Code := { maxStack := 2, maxLocals := 2, code := jdk_49_method_1_code, exceptionTable := #[], attributes := #[] }
def k19m0 : Method := { name := "<init>", desc := "(Ljava/util/ArrayList;)V", sig := { parameters := [(.object "java/util/ArrayList")], returnType := none }, accessFlags := 0, code := some k19c0 }
def k19c1 : Code := { maxStack := 2, maxLocals := 1, code := jdk_49_method_2_code, exceptionTable := #[], attributes := #[] }
def k19m1 : Method := { name := "hasNext", desc := "()Z", sig := { parameters := [], returnType := some .boolean }, accessFlags := 1, code := some k19c1 }
def k19c2 : Code := { maxStack := 4, maxLocals := 3, code := jdk_49_method_3_code, exceptionTable := #[], attributes := #[] }
def k19m2 : Method := { name := "next", desc := "()Ljava/lang/Object;", sig := { parameters := [], returnType := some (.object "java/lang/Object") }, accessFlags := 1, code := some k19c2 }
def k19c3 : Code := { maxStack := 2, maxLocals := 1, code := jdk_49_method_6_code, exceptionTable := #[], attributes := #[] }
def k19m3 : Method := { name := "checkForComodification", desc := "()V", sig := { parameters := [], returnType := none }, accessFlags := 16, code := some k19c3 }
/-- java/util/ArrayList$Itr -/
def k19 : Class := { plain "java/util/ArrayList$Itr" (some 0) with
  accessFlags := 32
  interfaces := #[18]
  cf := some (fileOf pool19 2 #[.nestHost 18] #[{ accessFlags := 0, nameIndex := 11, descriptorIndex := 71, attributes := #[] }, { accessFlags := 1, nameIndex := 80, descriptorIndex := 81, attributes := #[] }, { accessFlags := 1, nameIndex := 83, descriptorIndex := 84, attributes := #[] }, { accessFlags := 16, nameIndex := 33, descriptorIndex := 12, attributes := #[] }] 32 8 #[69] #[{ accessFlags := 0, nameIndex := 27, descriptorIndex := 16, attributes := #[] }, { accessFlags := 0, nameIndex := 15, descriptorIndex := 16, attributes := #[] }, { accessFlags := 0, nameIndex := 24, descriptorIndex := 16, attributes := #[] }, { accessFlags := 4112, nameIndex := 5, descriptorIndex := 6, attributes := #[] }])
  fields := #[{ name := "cursor", type := .int, accessFlags := 0, slot := 0, constantValue := 0 }, { name := "lastRet", type := .int, accessFlags := 0, slot := 1, constantValue := 0 }, { name := "expectedModCount", type := .int, accessFlags := 0, slot := 2, constantValue := 0 }, { name := "this$0", type := (.object "java/util/ArrayList"), accessFlags := 4112, slot := 3, constantValue := 0 }]
  methods := #[k19m0, k19m1, k19m2, k19m3]
  instanceTypes := #[.int, .int, .int, (.object "java/util/ArrayList")]
  staticTypes := #[]
  resolved := Array.replicate 104 none
  statics := none }

def pool20 : Array CpInfo := pool [(2, .class_ 4), (1, u "java/lang/Object"), (0, u "<init>"), (0, u "()V"), (7, .class_ 16), (1, u "java/util/Arrays"), (57, .class_ 76), (1, u "java/util/Arrays$NaturalOrder"), (9, .methodref 2 87), (0, .nameAndType 88 89), (0, u "getClass"), (0, u "()Ljava/lang/Class;"), (20, .class_ 111), (0, u "[Ljava/lang/Object;"), (1, .class_ 115), (1, u "java/util/Arrays$LegacyMergeSort"), (1, u "Z"), (32, .methodref 151 152), (0, .class_ 153), (0, .nameAndType 154 155), (0, u "java/lang/System"), (0, u "arraycopy"), (0, u "(Ljava/lang/Object;ILjava/lang/Object;II)V"), (144, .methodref 14 301), (0, .nameAndType 302 303), (0, u "copyOf"), (0, u "([Ljava/lang/Object;ILjava/lang/Class;)[Ljava/lang/Object;"), (0, .methodref 305 306), (0, .class_ 307), (0, .nameAndType 308 309), (0, u "java/lang/Math"), (0, u "min"), (0, u "(II)I"), (65, .class_ 376), (0, u "java/util/Arrays$ArrayList"), (68, u "$assertionsDisabled"), (269, u "MIN_ARRAY_SORT_GRAN"), (0, u "I"), (2, u "INSERTIONSORT_THRESHOLD"), (140, u "([Ljava/lang/Object;I)[Ljava/lang/Object;"), (114, .class_ 976), (0, u "java/util/Arrays$ArrayItr")] 52

def k20m0 : Method := { name := "<init>", desc := "()V", sig := { parameters := [], returnType := none }, accessFlags := 2, code := none }
def k20c1 : Code := { maxStack := 3, maxLocals := 2, code := jdk_65_method_119_code, exceptionTable := #[], attributes := #[] }
def k20m1 : Method := { name := "copyOf", desc := "([Ljava/lang/Object;I)[Ljava/lang/Object;", sig := { parameters := [(.array (.object "java/lang/Object")), .int], returnType := some (.array (.object "java/lang/Object")) }, accessFlags := 9, code := some k20c1 }
def k20c2 : Code := { maxStack := 6, maxLocals := 4, code := jdk_65_method_120_code, exceptionTable := #[], attributes := #[] }
def k20m2 : Method := { name := "copyOf", desc := "([Ljava/lang/Object;ILjava/lang/Class;)[Ljava/lang/Object;", sig := { parameters := [(.array (.object "java/lang/Object")), .int, (.object "java/lang/Class")], returnType := some (.array (.object "java/lang/Object")) }, accessFlags := 9, code := some k20c2 }
/-- java/util/Arrays -/
def k20 : Class := { plain "java/util/Arrays" (some 0) with
  accessFlags := 49
  interfaces := #[]
  cf := some (fileOf pool20 14 #[.nestMembers #[975, 375, 113, 74]] #[{ accessFlags := 2, nameIndex := 5, descriptorIndex := 6, attributes := #[] }, { accessFlags := 9, nameIndex := 302, descriptorIndex := 860, attributes := #[] }, { accessFlags := 9, nameIndex := 302, descriptorIndex := 303, attributes := #[] }] 49 2 #[] #[{ accessFlags := 26, nameIndex := 715, descriptorIndex := 716, attributes := #[] }, { accessFlags := 26, nameIndex := 719, descriptorIndex := 716, attributes := #[] }, { accessFlags := 4120, nameIndex := 445, descriptorIndex := 117, attributes := #[] }])
  fields := #[{ name := "MIN_ARRAY_SORT_GRAN", type := .int, accessFlags := 26, slot := 0, constantValue := 0 }, { name := "INSERTIONSORT_THRESHOLD", type := .int, accessFlags := 26, slot := 1, constantValue := 0 }, { name := "$assertionsDisabled", type := .boolean, accessFlags := 4120, slot := 2, constantValue := 0 }]
  methods := #[k20m0, k20m1, k20m2]
  instanceTypes := #[]
  staticTypes := #[.int, .int, .boolean]
  resolved := Array.replicate 1029 none
  statics := none }

def pool21 : Array CpInfo := pool [(1, .class_ 2), (0, u "java/lang/Math"), (1, .class_ 6), (1, u "java/lang/Object"), (0, u "<init>"), (0, u "()V"), (89, .class_ 100), (1, u "java/lang/Math$RandomNumberGeneratorHolder"), (71, u "negativeZeroFloatBits"), (0, u "J"), (2, u "negativeZeroDoubleBits"), (24, u "min"), (43, u "$assertionsDisabled"), (0, u "Z"), (88, u "(II)I"), (2, u "twoToTheDoubleScaleDown"), (0, u "D"), (4, u "twoToTheDoubleScaleUp"), (9, u "E"), (3, u "PI"), (2, u "TAU"), (2, u "DEGREES_TO_RADIANS"), (0, u "RADIANS_TO_DEGREES")] 94

def k21m0 : Method := { name := "<init>", desc := "()V", sig := { parameters := [], returnType := none }, accessFlags := 2, code := none }
def k21c1 : Code := { maxStack := 2, maxLocals := 2, code := jdk_29_method_69_code, exceptionTable := #[], attributes := #[] }
def k21m1 : Method := { name := "min", desc := "(II)I", sig := { parameters := [.int, .int], returnType := some .int }, accessFlags := 9, code := some k21c1 }
/-- java/lang/Math -/
def k21 : Class := { plain "java/lang/Math" (some 0) with
  accessFlags := 49
  interfaces := #[]
  cf := some (fileOf pool21 1 #[.nestMembers #[98]] #[{ accessFlags := 2, nameIndex := 7, descriptorIndex := 8, attributes := #[] }, { accessFlags := 9, nameIndex := 201, descriptorIndex := 335, attributes := #[] }] 49 4 #[] #[{ accessFlags := 25, nameIndex := 354, descriptorIndex := 339, attributes := #[] }, { accessFlags := 25, nameIndex := 358, descriptorIndex := 339, attributes := #[] }, { accessFlags := 25, nameIndex := 361, descriptorIndex := 339, attributes := #[] }, { accessFlags := 26, nameIndex := 364, descriptorIndex := 339, attributes := #[] }, { accessFlags := 26, nameIndex := 365, descriptorIndex := 339, attributes := #[] }, { accessFlags := 26, nameIndex := 172, descriptorIndex := 173, attributes := #[] }, { accessFlags := 26, nameIndex := 176, descriptorIndex := 173, attributes := #[] }, { accessFlags := 8, nameIndex := 344, descriptorIndex := 339, attributes := #[] }, { accessFlags := 8, nameIndex := 338, descriptorIndex := 339, attributes := #[] }, { accessFlags := 4120, nameIndex := 245, descriptorIndex := 246, attributes := #[] }])
  fields := #[{ name := "E", type := .double, accessFlags := 25, slot := 0, constantValue := 0 }, { name := "PI", type := .double, accessFlags := 25, slot := 1, constantValue := 0 }, { name := "TAU", type := .double, accessFlags := 25, slot := 2, constantValue := 0 }, { name := "DEGREES_TO_RADIANS", type := .double, accessFlags := 26, slot := 3, constantValue := 0 }, { name := "RADIANS_TO_DEGREES", type := .double, accessFlags := 26, slot := 4, constantValue := 0 }, { name := "negativeZeroFloatBits", type := .long, accessFlags := 26, slot := 5, constantValue := 0 }, { name := "negativeZeroDoubleBits", type := .long, accessFlags := 26, slot := 6, constantValue := 0 }, { name := "twoToTheDoubleScaleUp", type := .double, accessFlags := 8, slot := 7, constantValue := 0 }, { name := "twoToTheDoubleScaleDown", type := .double, accessFlags := 8, slot := 8, constantValue := 0 }, { name := "$assertionsDisabled", type := .boolean, accessFlags := 4120, slot := 9, constantValue := 0 }]
  methods := #[k21m0, k21m1]
  instanceTypes := #[]
  staticTypes := #[.double, .double, .double, .double, .double, .long, .long, .double, .double, .boolean]
  resolved := Array.replicate 460 none
  statics := none }

def pool22 : Array CpInfo := pool [(2, .class_ 4), (1, u "java/lang/Object"), (0, u "<init>"), (0, u "()V"), (1, .class_ 10), (1, u "java/lang/System"), (0, u "allowSecurityManager"), (0, u "I"), (16, u "cons"), (0, u "Ljava/io/Console;"), (77, .class_ 110), (1, u "java/lang/System$CallersHolder"), (43, u "initialErrStream"), (0, u "Ljava/io/PrintStream;"), (19, u "security"), (0, u "Ljava/lang/SecurityManager;"), (31, .class_ 209), (0, u "java/lang/System$1"), (7, u "props"), (0, u "Ljava/util/Properties;"), (2, u "lineSeparator"), (0, u "Ljava/lang/String;"), (96, .class_ 321), (1, u "java/lang/System$LoggerFinder"), (5, .class_ 328), (0, u "java/lang/System$Logger"), (67, u "err"), (2, u "out"), (91, u "notSupportedJnuEncoding"), (15, u "in"), (17, u "initialIn"), (0, u "Ljava/io/InputStream;"), (35, u "bootLayer"), (0, u "Ljava/lang/ModuleLayer;"), (99, .class_ 664), (0, u "java/lang/System$2"), (9, u "NEVER"), (2, u "MAYBE"), (49, u "arraycopy"), (0, u "(Ljava/lang/Object;ILjava/lang/Object;II)V"), (72, .class_ 802), (0, u "java/lang/System$Logger$Level")] 31

def k22m0 : Method := { name := "<init>", desc := "()V", sig := { parameters := [], returnType := none }, accessFlags := 2, code := none }
def k22m1 : Method := { name := "arraycopy", desc := "(Ljava/lang/Object;ILjava/lang/Object;II)V", sig := { parameters := [(.object "java/lang/Object"), .int, (.object "java/lang/Object"), .int, .int], returnType := none }, accessFlags := 265, code := none }
/-- java/lang/System -/
def k22 : Class := { plain "java/lang/System" (some 0) with
  accessFlags := 49
  interfaces := #[]
  cf := some (fileOf pool22 8 #[.nestMembers #[319, 327, 801, 108, 663, 208]] #[{ accessFlags := 2, nameIndex := 5, descriptorIndex := 6, attributes := #[] }, { accessFlags := 265, nameIndex := 727, descriptorIndex := 728, attributes := #[] }] 49 2 #[] #[{ accessFlags := 25, nameIndex := 507, descriptorIndex := 526, attributes := #[] }, { accessFlags := 25, nameIndex := 399, descriptorIndex := 155, attributes := #[] }, { accessFlags := 25, nameIndex := 396, descriptorIndex := 155, attributes := #[] }, { accessFlags := 10, nameIndex := 525, descriptorIndex := 526, attributes := #[] }, { accessFlags := 26, nameIndex := 674, descriptorIndex := 12, attributes := #[] }, { accessFlags := 26, nameIndex := 677, descriptorIndex := 12, attributes := #[] }, { accessFlags := 10, nameIndex := 11, descriptorIndex := 12, attributes := #[] }, { accessFlags := 74, nameIndex := 175, descriptorIndex := 176, attributes := #[] }, { accessFlags := 10, nameIndex := 491, descriptorIndex := 222, attributes := #[] }, { accessFlags := 74, nameIndex := 29, descriptorIndex := 30, attributes := #[] }, { accessFlags := 74, nameIndex := 154, descriptorIndex := 155, attributes := #[] }, { accessFlags := 10, nameIndex := 217, descriptorIndex := 218, attributes := #[] }, { accessFlags := 10, nameIndex := 221, descriptorIndex := 222, attributes := #[] }, { accessFlags := 8, nameIndex := 562, descriptorIndex := 563, attributes := #[] }])
  fields := #[{ name := "in", type := (.object "java/io/InputStream"), accessFlags := 25, slot := 0, constantValue := 0 }, { name := "out", type := (.object "java/io/PrintStream"), accessFlags := 25, slot := 1, constantValue := 0 }, { name := "err", type := (.object "java/io/PrintStream"), accessFlags := 25, slot := 2, constantValue := 0 }, { name := "initialIn", type := (.object "java/io/InputStream"), accessFlags := 10, slot := 3, constantValue := 0 }, { name := "NEVER", type := .int, accessFlags := 26, slot := 4, constantValue := 0 }, { name := "MAYBE", type := .int, accessFlags := 26, slot := 5, constantValue := 0 }, { name := "allowSecurityManager", type := .int, accessFlags := 10, slot := 6, constantValue := 0 }, { name := "security", type := (.object "java/lang/SecurityManager"), accessFlags := 74, slot := 7, constantValue := 0 }, { name := "notSupportedJnuEncoding", type := (.object "java/lang/String"), accessFlags := 10, slot := 8, constantValue := 0 }, { name := "cons", type := (.object "java/io/Console"), accessFlags := 74, slot := 9, constantValue := 0 }, { name := "initialErrStream", type := (.object "java/io/PrintStream"), accessFlags := 74, slot := 10, constantValue := 0 }, { name := "props", type := (.object "java/util/Properties"), accessFlags := 10, slot := 11, constantValue := 0 }, { name := "lineSeparator", type := (.object "java/lang/String"), accessFlags := 10, slot := 12, constantValue := 0 }, { name := "bootLayer", type := (.object "java/lang/ModuleLayer"), accessFlags := 8, slot := 13, constantValue := 0 }]
  methods := #[k22m0, k22m1]
  instanceTypes := #[]
  staticTypes := #[(.object "java/io/InputStream"), (.object "java/io/PrintStream"), (.object "java/io/PrintStream"), (.object "java/io/InputStream"), .int, .int, .int, (.object "java/lang/SecurityManager"), (.object "java/lang/String"), (.object "java/io/Console"), (.object "java/io/PrintStream"), (.object "java/util/Properties"), (.object "java/lang/String"), (.object "java/lang/ModuleLayer")]
  resolved := Array.replicate 834 none
  statics := none }

def pool23 : Array CpInfo := pool [(2, .class_ 4), (1, u "java/lang/Object"), (0, u "<init>"), (0, u "()V"), (35, .class_ 44), (1, u "java/util/Objects"), (0, u "requireNonNull"), (0, u "(Ljava/lang/Object;)Ljava/lang/Object;")] 137

def k23m0 : Method := { name := "<init>", desc := "()V", sig := { parameters := [], returnType := none }, accessFlags := 2, code := none }
def k23c1 : Code := { maxStack := 2, maxLocals := 1, code := jdk_31_method_10_code, exceptionTable := #[], attributes := #[] }
def k23m1 : Method := { name := "requireNonNull", desc := "(Ljava/lang/Object;)Ljava/lang/Object;", sig := { parameters := [(.object "java/lang/Object")], returnType := some (.object "java/lang/Object") }, accessFlags := 9, code := some k23c1 }
/-- java/util/Objects -/
def k23 : Class := { plain "java/util/Objects" (some 0) with
  accessFlags := 49
  interfaces := #[]
  cf := some (fileOf pool23 42 #[] #[{ accessFlags := 2, nameIndex := 5, descriptorIndex := 6, attributes := #[] }, { accessFlags := 9, nameIndex := 45, descriptorIndex := 46, attributes := #[] }] 49 2 #[] #[])
  fields := #[]
  methods := #[k23m0, k23m1]
  instanceTypes := #[]
  staticTypes := #[]
  resolved := Array.replicate 184 none
  statics := none }

def pool24 : Array CpInfo := pool [(1, u "java/lang/Class"), (0, .class_ 1), (0, u "java/lang/Object"), (0, .class_ 3)] 3

/-- java/lang/Class -/
def k24 : Class := { plain "java/lang/Class" (some 0) with
  accessFlags := 49
  interfaces := #[]
  cf := some (fileOf pool24 2 #[] #[] 49 4 #[] #[])
  fields := #[]
  methods := #[]
  instanceTypes := #[]
  staticTypes := #[]
  resolved := Array.replicate 8 none
  statics := none }

/-- the primitive byte -/
def k25 : Class := { plain "byte" none with kind := .primitive 'B', accessFlags := 0x411 }
/-- [B -/
def k26 : Class := { plain "[B" (some 0) with kind := .array 25 .byte, interfaces := #[9, 10], accessFlags := 1041 }

/-- the primitive int -/
def k27 : Class := { plain "int" none with kind := .primitive 'I', accessFlags := 0x411 }
/-- [I -/
def k28 : Class := { plain "[I" (some 0) with kind := .array 27 .int, interfaces := #[9, 10], accessFlags := 1041 }

/-- [Ljava/lang/Object; -/
def k29 : Class := { plain "[Ljava/lang/Object;" (some 0) with kind := .array 0 (.object "java/lang/Object"), interfaces := #[9, 10], accessFlags := 1041, mirror := some 2 }

def heap : Heap := #[{ cls := 11, slots := #[.long 0, .int 0, .ref 5, .ref 6], vm := .statics 11 },
  { cls := 13, slots := #[.long 0, .int 0, .null, .null, .ref 4, .null, .null, .null, .int 0, .int 0], vm := .statics 13 },
  { cls := 24, slots := #[], vm := .mirror 29 },
  { cls := 29, slots := #[], vm := .none },
  { cls := 17, slots := #[.ref 3, .int 0], vm := .none },
  { cls := 29, slots := #[], vm := .none },
  { cls := 29, slots := #[], vm := .none }]
def classes : Array Class := #[k0, k1, k2, k3, k4, k5, k6, k7, k8, k9, k10, k11, k12, k13, k14, k15, k16, k17, k18, k19, k20, k21, k22, k23, k24, k25, k26, k27, k28, k29]
def interned : List (Array UInt16 × Addr) := []
def slotsUsed : Nat := 16
def theMethod : MethodId := ⟨1, 1⟩
def args0 : Array Value := #[.int 3, .int 2, .int 7, .int 4]
def aboutOver (below : List Frame) : State where
  vm := { classes := classes, interned := interned.toArray }
  heap := heap
  slotsUsed := slotsUsed
  threads := #[{ frames := .invoking theMethod args0 :: below }]
def below0 : List Frame := [.native { method := ⟨0, 0⟩, args := #[] }]
def about1 : State := aboutOver below0
def p0 : Program := .bare "" "" ""
def e0 : Env := launch0.env 0 0 0
theorem w_frames : about1.frames = Frame.invoking theMethod args0 :: below0 := rfl
set_option maxRecDepth 65536 in
theorem w_args : argsFit about1.vm theMethod args0 = true := by decide +kernel
set_option maxRecDepth 65536 in
theorem w_heap : heapFits about1 = true := by decide +kernel
set_option maxRecDepth 65536 in
theorem w_runnable : about1.curStatus? = some .runnable := by decide +kernel
set_option maxRecDepth 65536 in
theorem w_alone : about1.alone = true := by decide +kernel
set_option maxRecDepth 65536 in
theorem w_named : about1.methodNamed? x = some theMethod := by decide +kernel
set_option maxRecDepth 65536 in
theorem w_hears : about1.hears theMethod below0 = true := by decide +kernel
set_option maxRecDepth 65536 in
theorem w_ripe : about1.ripe theMethod args0 below0 = true := by decide +kernel
theorem w_running : about1.status = .running := rfl
set_option maxRecDepth 65536 in
theorem w_room : about1.hasRoom e0.platform room_1 = true :=
  launch0.hasRoom_least _ room_1 (by decide +kernel) (by decide +kernel) (by decide +kernel) (by decide +kernel) (by decide +kernel) (by decide +kernel)
theorem allAtoms_all (ts : List Jvm.Cond) (a : Array Jvm.Value) (st : Jvm.State) : (allAtoms ts).before a st = ts.all (fun c => c.before a st) := by
  induction ts with
  | nil => rfl
  | cons c t ih =>
    show (Jvm.Cond.and c (allAtoms t)).before a st = _
    rw [Jvm.Cond.before_and, ih, List.all_cons]
def words1 : List Jvm.Cond := Jvm.Cond.code x code maxLocals ret :: tables_1
/-- a 'code' word, met by the world's own term for the bytes: nothing is compared byte by byte -/
theorem code_word {y : MethodName} {bytes : ByteArray} {mx : Nat} {rt : Option FieldType} {a : Array Value} {s : State} {m : MethodId} {meth : Method} {c : Code} (h1 : s.methodNamed? y = some m) (h2 : s.vm.method? m = some meth) (h3 : meth.code = some c) (h4 : c.code = bytes)
    (h5 : (c.maxLocals == mx && c.exceptionTable.isEmpty && decide (c.maxStack ≤ mostOperands) && decide (meth.sig.returnType = rt) && !meth.locks && decide (parseMethodDescriptor y.desc = some meth.sig)) = true) : (Jvm.Cond.code y bytes mx rt).before a s = true := by
  simp only [Bool.and_eq_true, beq_iff_eq, Bool.not_eq_true', decide_eq_true_eq] at h5
  obtain ⟨⟨⟨⟨⟨g1, g2⟩, g3⟩, g4⟩, g5⟩, g6⟩ := h5
  simp [Cond.before, Cond.holds, Cond.value, h1, h2, h3, h4, g1, g2, g3, g4, g5, g6]
def isCode : Jvm.Cond → Bool
  | .code _ _ _ _ => true
  | _ => false
theorem all_split {L : List Jvm.Cond} {P : Jvm.Cond → Bool} (h1 : L.all (fun c => isCode c || P c) = true) (h2 : ∀ c ∈ L.filter isCode, P c = true) : L.all P = true := by
  refine List.all_eq_true.mpr fun c hc => ?_
  have h := List.all_eq_true.mp h1 c hc
  rcases Bool.eq_false_or_eq_true (isCode c) with hi | hi
  · exact h2 c (List.mem_filter.mpr ⟨hc, hi⟩)
  · simpa [hi] using h
set_option maxRecDepth 65536 in
theorem w_c0 : (Jvm.Cond.code x code maxLocals ret).before args0 about1 = true := code_word (m := ⟨1, 1⟩) (meth := k1m1) (c := k1c1) (by decide +kernel) rfl rfl rfl (by decide +kernel)
set_option maxRecDepth 65536 in
theorem w_c1 : (Jvm.Cond.code ({ cls := "java/util/ArrayList", name := "<init>", desc := "()V" } : Jvm.MethodName) jdk_38_method_2_code (1 : Nat) (Option.none : Option Jvm.ClassFile.FieldType)).before args0 about1 = true := code_word (m := ⟨11, 1⟩) (meth := k11m1) (c := k11c1) (by decide +kernel) rfl rfl rfl (by decide +kernel)
set_option maxRecDepth 65536 in
theorem w_c2 : (Jvm.Cond.code ({ cls := "java/util/AbstractList", name := "<init>", desc := "()V" } : Jvm.MethodName) jdk_39_method_1_code (1 : Nat) (Option.none : Option Jvm.ClassFile.FieldType)).before args0 about1 = true := code_word (m := ⟨7, 0⟩) (meth := k7m0) (c := k7c0) (by decide +kernel) rfl rfl rfl (by decide +kernel)
set_option maxRecDepth 65536 in
theorem w_c3 : (Jvm.Cond.code ({ cls := "java/util/AbstractCollection", name := "<init>", desc := "()V" } : Jvm.MethodName) jdk_22_method_1_code (1 : Nat) (Option.none : Option Jvm.ClassFile.FieldType)).before args0 about1 = true := code_word (m := ⟨4, 0⟩) (meth := k4m0) (c := k4c0) (by decide +kernel) rfl rfl rfl (by decide +kernel)
set_option maxRecDepth 65536 in
theorem w_c4 : (Jvm.Cond.code ({ cls := "java/lang/Object", name := "<init>", desc := "()V" } : Jvm.MethodName) object_method_1_code (1 : Nat) (Option.none : Option Jvm.ClassFile.FieldType)).before args0 about1 = true := code_word (m := ⟨0, 0⟩) (meth := k0m0) (c := k0c0) (by decide +kernel) rfl rfl rfl (by decide +kernel)
set_option maxRecDepth 65536 in
theorem w_c5 : (Jvm.Cond.code ({ cls := "com/example/trips_into_trajectories/tripsintotrajectories/network/Network", name := "<init>", desc := "(IIILjava/util/List;)V" } : Jvm.MethodName) prog_38_method_1_code (9 : Nat) (Option.none : Option Jvm.ClassFile.FieldType)).before args0 about1 = true := code_word (m := ⟨12, 0⟩) (meth := k12m0) (c := k12c0) (by decide +kernel) rfl rfl rfl (by decide +kernel)
set_option maxRecDepth 65536 in
theorem w_c6 : (Jvm.Cond.code ({ cls := "java/util/List", name := "copyOf", desc := "(Ljava/util/Collection;)Ljava/util/List;" } : Jvm.MethodName) jdk_40_method_48_code (1 : Nat) (Option.some (Jvm.ClassFile.FieldType.object "java/util/List"))).before args0 about1 = true := code_word (m := ⟨6, 5⟩) (meth := k6m5) (c := k6c5) (by decide +kernel) rfl rfl rfl (by decide +kernel)
set_option maxRecDepth 65536 in
theorem w_c7 : (Jvm.Cond.code ({ cls := "java/util/ImmutableCollections", name := "listCopy", desc := "(Ljava/util/Collection;)Ljava/util/List;" } : Jvm.MethodName) jdk_56_method_3_code (2 : Nat) (Option.some (Jvm.ClassFile.FieldType.object "java/util/List"))).before args0 about1 = true := code_word (m := ⟨13, 1⟩) (meth := k13m1) (c := k13c1) (by decide +kernel) rfl rfl rfl (by decide +kernel)
set_option maxRecDepth 65536 in
theorem w_c8 : (Jvm.Cond.code ({ cls := "java/util/ArrayList", name := "isEmpty", desc := "()Z" } : Jvm.MethodName) jdk_38_method_9_code (1 : Nat) (Option.some Jvm.ClassFile.FieldType.boolean)).before args0 about1 = true := code_word (m := ⟨11, 3⟩) (meth := k11m3) (c := k11c3) (by decide +kernel) rfl rfl rfl (by decide +kernel)
set_option maxRecDepth 65536 in
theorem w_c9 : (Jvm.Cond.code ({ cls := "java/util/List", name := "of", desc := "()Ljava/util/List;" } : Jvm.MethodName) jdk_40_method_36_code (0 : Nat) (Option.some (Jvm.ClassFile.FieldType.object "java/util/List"))).before args0 about1 = true := code_word (m := ⟨6, 3⟩) (meth := k6m3) (c := k6c3) (by decide +kernel) rfl rfl rfl (by decide +kernel)
set_option maxRecDepth 65536 in
theorem w_c10 : (Jvm.Cond.code ({ cls := "com/example/trips_into_trajectories/tripsintotrajectories/network/Network", name := "emptyLists", desc := "(I)Ljava/util/List;" } : Jvm.MethodName) prog_38_method_11_code (3 : Nat) (Option.some (Jvm.ClassFile.FieldType.object "java/util/List"))).before args0 about1 = true := code_word (m := ⟨12, 2⟩) (meth := k12m2) (c := k12c2) (by decide +kernel) rfl rfl rfl (by decide +kernel)
set_option maxRecDepth 65536 in
theorem w_c11 : (Jvm.Cond.code ({ cls := "java/util/ArrayList", name := "<init>", desc := "(I)V" } : Jvm.MethodName) jdk_38_method_1_code (2 : Nat) (Option.none : Option Jvm.ClassFile.FieldType)).before args0 about1 = true := code_word (m := ⟨11, 0⟩) (meth := k11m0) (c := k11c0) (by decide +kernel) rfl rfl rfl (by decide +kernel)
set_option maxRecDepth 65536 in
theorem w_c12 : (Jvm.Cond.code ({ cls := "java/util/ArrayList", name := "add", desc := "(Ljava/lang/Object;)Z" } : Jvm.MethodName) jdk_38_method_25_code (2 : Nat) (Option.some Jvm.ClassFile.FieldType.boolean)).before args0 about1 = true := code_word (m := ⟨11, 6⟩) (meth := k11m6) (c := k11c6) (by decide +kernel) rfl rfl rfl (by decide +kernel)
set_option maxRecDepth 65536 in
theorem w_c13 : (Jvm.Cond.code ({ cls := "java/util/ArrayList", name := "add", desc := "(Ljava/lang/Object;[Ljava/lang/Object;I)V" } : Jvm.MethodName) jdk_38_method_24_code (4 : Nat) (Option.none : Option Jvm.ClassFile.FieldType)).before args0 about1 = true := code_word (m := ⟨11, 5⟩) (meth := k11m5) (c := k11c5) (by decide +kernel) rfl rfl rfl (by decide +kernel)
set_option maxRecDepth 65536 in
theorem w_c14 : (Jvm.Cond.code ({ cls := "java/util/ImmutableCollections$ListN", name := "size", desc := "()I" } : Jvm.MethodName) jdk_45_method_3_code (1 : Nat) (Option.some Jvm.ClassFile.FieldType.int)).before args0 about1 = true := code_word (m := ⟨17, 1⟩) (meth := k17m1) (c := k17c1) (by decide +kernel) rfl rfl rfl (by decide +kernel)
set_option maxRecDepth 65536 in
theorem w_c15 : (Jvm.Cond.code ({ cls := "com/example/trips_into_trajectories/tripsintotrajectories/network/Network", name := "frozen", desc := "(Ljava/util/List;)Ljava/util/List;" } : Jvm.MethodName) prog_38_method_12_code (4 : Nat) (Option.some (Jvm.ClassFile.FieldType.object "java/util/List"))).before args0 about1 = true := code_word (m := ⟨12, 3⟩) (meth := k12m3) (c := k12c3) (by decide +kernel) rfl rfl rfl (by decide +kernel)
set_option maxRecDepth 65536 in
theorem w_c16 : (Jvm.Cond.code ({ cls := "java/util/ArrayList", name := "size", desc := "()I" } : Jvm.MethodName) jdk_38_method_8_code (1 : Nat) (Option.some Jvm.ClassFile.FieldType.int)).before args0 about1 = true := code_word (m := ⟨11, 2⟩) (meth := k11m2) (c := k11c2) (by decide +kernel) rfl rfl rfl (by decide +kernel)
set_option maxRecDepth 65536 in
theorem w_c17 : (Jvm.Cond.code ({ cls := "java/util/ArrayList", name := "iterator", desc := "()Ljava/util/Iterator;" } : Jvm.MethodName) jdk_38_method_55_code (1 : Nat) (Option.some (Jvm.ClassFile.FieldType.object "java/util/Iterator"))).before args0 about1 = true := code_word (m := ⟨11, 7⟩) (meth := k11m7) (c := k11c7) (by decide +kernel) rfl rfl rfl (by decide +kernel)
set_option maxRecDepth 65536 in
theorem w_c18 : (Jvm.Cond.code ({ cls := "java/util/ArrayList$Itr", name := "<init>", desc := "(Ljava/util/ArrayList;)V" } : Jvm.MethodName) jdk_49_method_1_code (2 : Nat) (Option.none : Option Jvm.ClassFile.FieldType)).before args0 about1 = true := code_word (m := ⟨19, 0⟩) (meth := k19m0) (c := k19c0) (by decide +kernel) rfl rfl rfl (by decide +kernel)
set_option maxRecDepth 65536 in
theorem w_c19 : (Jvm.Cond.code ({ cls := "java/util/ArrayList$Itr", name := "hasNext", desc := "()Z" } : Jvm.MethodName) jdk_49_method_2_code (1 : Nat) (Option.some Jvm.ClassFile.FieldType.boolean)).before args0 about1 = true := code_word (m := ⟨19, 1⟩) (meth := k19m1) (c := k19c1) (by decide +kernel) rfl rfl rfl (by decide +kernel)
set_option maxRecDepth 65536 in
theorem w_c20 : (Jvm.Cond.code ({ cls := "java/util/ArrayList$Itr", name := "next", desc := "()Ljava/lang/Object;" } : Jvm.MethodName) jdk_49_method_3_code (3 : Nat) (Option.some (Jvm.ClassFile.FieldType.object "java/lang/Object"))).before args0 about1 = true := code_word (m := ⟨19, 2⟩) (meth := k19m2) (c := k19c2) (by decide +kernel) rfl rfl rfl (by decide +kernel)
set_option maxRecDepth 65536 in
theorem w_c21 : (Jvm.Cond.code ({ cls := "java/util/ArrayList$Itr", name := "checkForComodification", desc := "()V" } : Jvm.MethodName) jdk_49_method_6_code (1 : Nat) (Option.none : Option Jvm.ClassFile.FieldType)).before args0 about1 = true := code_word (m := ⟨19, 3⟩) (meth := k19m3) (c := k19c3) (by decide +kernel) rfl rfl rfl (by decide +kernel)
set_option maxRecDepth 65536 in
theorem w_c22 : (Jvm.Cond.code ({ cls := "java/util/ArrayList", name := "toArray", desc := "()[Ljava/lang/Object;" } : Jvm.MethodName) jdk_38_method_16_code (1 : Nat) (Option.some (Jvm.ClassFile.FieldType.array (Jvm.ClassFile.FieldType.object "java/lang/Object")))).before args0 about1 = true := code_word (m := ⟨11, 4⟩) (meth := k11m4) (c := k11c4) (by decide +kernel) rfl rfl rfl (by decide +kernel)
set_option maxRecDepth 65536 in
theorem w_c23 : (Jvm.Cond.code ({ cls := "java/util/Arrays", name := "copyOf", desc := "([Ljava/lang/Object;I)[Ljava/lang/Object;" } : Jvm.MethodName) jdk_65_method_119_code (2 : Nat) (Option.some (Jvm.ClassFile.FieldType.array (Jvm.ClassFile.FieldType.object "java/lang/Object")))).before args0 about1 = true := code_word (m := ⟨20, 1⟩) (meth := k20m1) (c := k20c1) (by decide +kernel) rfl rfl rfl (by decide +kernel)
set_option maxRecDepth 65536 in
theorem w_c24 : (Jvm.Cond.code ({ cls := "java/util/Arrays", name := "copyOf", desc := "([Ljava/lang/Object;ILjava/lang/Class;)[Ljava/lang/Object;" } : Jvm.MethodName) jdk_65_method_120_code (4 : Nat) (Option.some (Jvm.ClassFile.FieldType.array (Jvm.ClassFile.FieldType.object "java/lang/Object")))).before args0 about1 = true := code_word (m := ⟨20, 2⟩) (meth := k20m2) (c := k20c2) (by decide +kernel) rfl rfl rfl (by decide +kernel)
set_option maxRecDepth 65536 in
theorem w_c25 : (Jvm.Cond.code ({ cls := "java/lang/Math", name := "min", desc := "(II)I" } : Jvm.MethodName) jdk_29_method_69_code (2 : Nat) (Option.some Jvm.ClassFile.FieldType.int)).before args0 about1 = true := code_word (m := ⟨21, 1⟩) (meth := k21m1) (c := k21c1) (by decide +kernel) rfl rfl rfl (by decide +kernel)
set_option maxRecDepth 65536 in
theorem w_c26 : (Jvm.Cond.code ({ cls := "java/util/List", name := "of", desc := "([Ljava/lang/Object;)Ljava/util/List;" } : Jvm.MethodName) jdk_40_method_47_code (2 : Nat) (Option.some (Jvm.ClassFile.FieldType.object "java/util/List"))).before args0 about1 = true := code_word (m := ⟨6, 4⟩) (meth := k6m4) (c := k6c4) (by decide +kernel) rfl rfl rfl (by decide +kernel)
set_option maxRecDepth 65536 in
theorem w_c27 : (Jvm.Cond.code ({ cls := "java/util/ImmutableCollections$List12", name := "<init>", desc := "(Ljava/lang/Object;Ljava/lang/Object;)V" } : Jvm.MethodName) jdk_44_method_2_code (3 : Nat) (Option.none : Option Jvm.ClassFile.FieldType)).before args0 about1 = true := code_word (m := ⟨16, 0⟩) (meth := k16m0) (c := k16c0) (by decide +kernel) rfl rfl rfl (by decide +kernel)
set_option maxRecDepth 65536 in
theorem w_c28 : (Jvm.Cond.code ({ cls := "java/util/ImmutableCollections$AbstractImmutableList", name := "<init>", desc := "()V" } : Jvm.MethodName) jdk_46_method_1_code (1 : Nat) (Option.none : Option Jvm.ClassFile.FieldType)).before args0 about1 = true := code_word (m := ⟨15, 0⟩) (meth := k15m0) (c := k15c0) (by decide +kernel) rfl rfl rfl (by decide +kernel)
set_option maxRecDepth 65536 in
theorem w_c29 : (Jvm.Cond.code ({ cls := "java/util/ImmutableCollections$AbstractImmutableCollection", name := "<init>", desc := "()V" } : Jvm.MethodName) jdk_47_method_1_code (1 : Nat) (Option.none : Option Jvm.ClassFile.FieldType)).before args0 about1 = true := code_word (m := ⟨14, 0⟩) (meth := k14m0) (c := k14c0) (by decide +kernel) rfl rfl rfl (by decide +kernel)
set_option maxRecDepth 65536 in
theorem w_c30 : (Jvm.Cond.code ({ cls := "java/util/Objects", name := "requireNonNull", desc := "(Ljava/lang/Object;)Ljava/lang/Object;" } : Jvm.MethodName) jdk_31_method_10_code (1 : Nat) (Option.some (Jvm.ClassFile.FieldType.object "java/lang/Object"))).before args0 about1 = true := code_word (m := ⟨23, 1⟩) (meth := k23m1) (c := k23c1) (by decide +kernel) rfl rfl rfl (by decide +kernel)
set_option maxRecDepth 65536 in
theorem w_c31 : (Jvm.Cond.code ({ cls := "com/example/trips_into_trajectories/tripsintotrajectories/network/Network", name := "isNode", desc := "(I)Z" } : Jvm.MethodName) prog_38_method_9_code (2 : Nat) (Option.some Jvm.ClassFile.FieldType.boolean)).before args0 about1 = true := code_word (m := ⟨12, 1⟩) (meth := k12m1) (c := k12c1) (by decide +kernel) rfl rfl rfl (by decide +kernel)
set_option maxRecDepth 65536 in
theorem w_c32 : (Jvm.Cond.code ({ cls := "com/example/trips_into_trajectories/tripsintotrajectories/network/NetworkIsNodePinLaw", name := "inRange", desc := "(II)Z" } : Jvm.MethodName) method_3_code (4 : Nat) (Option.some Jvm.ClassFile.FieldType.boolean)).before args0 about1 = true := code_word (m := ⟨1, 2⟩) (meth := k1m2) (c := k1c2) (by decide +kernel) rfl rfl rfl (by decide +kernel)
set_option maxRecDepth 65536 in
theorem w_c33 : (Jvm.Cond.code ({ cls := "java/util/ImmutableCollections", name := "listFromArray", desc := "([Ljava/lang/Object;)Ljava/util/List;" } : Jvm.MethodName) jdk_56_method_4_code (3 : Nat) (Option.some (Jvm.ClassFile.FieldType.object "java/util/List"))).before args0 about1 = true := code_word (m := ⟨13, 2⟩) (meth := k13m2) (c := k13c2) (by decide +kernel) rfl rfl rfl (by decide +kernel)
set_option maxRecDepth 65536 in
theorem w_c34 : (Jvm.Cond.code ({ cls := "java/util/ImmutableCollections$ListN", name := "<init>", desc := "([Ljava/lang/Object;Z)V" } : Jvm.MethodName) jdk_45_method_1_code (3 : Nat) (Option.none : Option Jvm.ClassFile.FieldType)).before args0 about1 = true := code_word (m := ⟨17, 0⟩) (meth := k17m0) (c := k17c0) (by decide +kernel) rfl rfl rfl (by decide +kernel)
def codes1 : List Jvm.Cond := [Jvm.Cond.code x code maxLocals ret, Jvm.Cond.code ({ cls := "java/util/ArrayList", name := "<init>", desc := "()V" } : Jvm.MethodName) jdk_38_method_2_code (1 : Nat) (Option.none : Option Jvm.ClassFile.FieldType), Jvm.Cond.code ({ cls := "java/util/AbstractList", name := "<init>", desc := "()V" } : Jvm.MethodName) jdk_39_method_1_code (1 : Nat) (Option.none : Option Jvm.ClassFile.FieldType), Jvm.Cond.code ({ cls := "java/util/AbstractCollection", name := "<init>", desc := "()V" } : Jvm.MethodName) jdk_22_method_1_code (1 : Nat) (Option.none : Option Jvm.ClassFile.FieldType), Jvm.Cond.code ({ cls := "java/lang/Object", name := "<init>", desc := "()V" } : Jvm.MethodName) object_method_1_code (1 : Nat) (Option.none : Option Jvm.ClassFile.FieldType), Jvm.Cond.code ({ cls := "com/example/trips_into_trajectories/tripsintotrajectories/network/Network", name := "<init>", desc := "(IIILjava/util/List;)V" } : Jvm.MethodName) prog_38_method_1_code (9 : Nat) (Option.none : Option Jvm.ClassFile.FieldType), Jvm.Cond.code ({ cls := "java/util/List", name := "copyOf", desc := "(Ljava/util/Collection;)Ljava/util/List;" } : Jvm.MethodName) jdk_40_method_48_code (1 : Nat) (Option.some (Jvm.ClassFile.FieldType.object "java/util/List")), Jvm.Cond.code ({ cls := "java/util/ImmutableCollections", name := "listCopy", desc := "(Ljava/util/Collection;)Ljava/util/List;" } : Jvm.MethodName) jdk_56_method_3_code (2 : Nat) (Option.some (Jvm.ClassFile.FieldType.object "java/util/List")), Jvm.Cond.code ({ cls := "java/util/ArrayList", name := "isEmpty", desc := "()Z" } : Jvm.MethodName) jdk_38_method_9_code (1 : Nat) (Option.some Jvm.ClassFile.FieldType.boolean), Jvm.Cond.code ({ cls := "java/util/List", name := "of", desc := "()Ljava/util/List;" } : Jvm.MethodName) jdk_40_method_36_code (0 : Nat) (Option.some (Jvm.ClassFile.FieldType.object "java/util/List")), Jvm.Cond.code ({ cls := "com/example/trips_into_trajectories/tripsintotrajectories/network/Network", name := "emptyLists", desc := "(I)Ljava/util/List;" } : Jvm.MethodName) prog_38_method_11_code (3 : Nat) (Option.some (Jvm.ClassFile.FieldType.object "java/util/List")), Jvm.Cond.code ({ cls := "java/util/ArrayList", name := "<init>", desc := "(I)V" } : Jvm.MethodName) jdk_38_method_1_code (2 : Nat) (Option.none : Option Jvm.ClassFile.FieldType), Jvm.Cond.code ({ cls := "java/util/ArrayList", name := "add", desc := "(Ljava/lang/Object;)Z" } : Jvm.MethodName) jdk_38_method_25_code (2 : Nat) (Option.some Jvm.ClassFile.FieldType.boolean), Jvm.Cond.code ({ cls := "java/util/ArrayList", name := "add", desc := "(Ljava/lang/Object;[Ljava/lang/Object;I)V" } : Jvm.MethodName) jdk_38_method_24_code (4 : Nat) (Option.none : Option Jvm.ClassFile.FieldType), Jvm.Cond.code ({ cls := "java/util/ImmutableCollections$ListN", name := "size", desc := "()I" } : Jvm.MethodName) jdk_45_method_3_code (1 : Nat) (Option.some Jvm.ClassFile.FieldType.int), Jvm.Cond.code ({ cls := "com/example/trips_into_trajectories/tripsintotrajectories/network/Network", name := "frozen", desc := "(Ljava/util/List;)Ljava/util/List;" } : Jvm.MethodName) prog_38_method_12_code (4 : Nat) (Option.some (Jvm.ClassFile.FieldType.object "java/util/List")), Jvm.Cond.code ({ cls := "java/util/ArrayList", name := "size", desc := "()I" } : Jvm.MethodName) jdk_38_method_8_code (1 : Nat) (Option.some Jvm.ClassFile.FieldType.int), Jvm.Cond.code ({ cls := "java/util/ArrayList", name := "iterator", desc := "()Ljava/util/Iterator;" } : Jvm.MethodName) jdk_38_method_55_code (1 : Nat) (Option.some (Jvm.ClassFile.FieldType.object "java/util/Iterator")), Jvm.Cond.code ({ cls := "java/util/ArrayList$Itr", name := "<init>", desc := "(Ljava/util/ArrayList;)V" } : Jvm.MethodName) jdk_49_method_1_code (2 : Nat) (Option.none : Option Jvm.ClassFile.FieldType), Jvm.Cond.code ({ cls := "java/util/ArrayList$Itr", name := "hasNext", desc := "()Z" } : Jvm.MethodName) jdk_49_method_2_code (1 : Nat) (Option.some Jvm.ClassFile.FieldType.boolean), Jvm.Cond.code ({ cls := "java/util/ArrayList$Itr", name := "next", desc := "()Ljava/lang/Object;" } : Jvm.MethodName) jdk_49_method_3_code (3 : Nat) (Option.some (Jvm.ClassFile.FieldType.object "java/lang/Object")), Jvm.Cond.code ({ cls := "java/util/ArrayList$Itr", name := "checkForComodification", desc := "()V" } : Jvm.MethodName) jdk_49_method_6_code (1 : Nat) (Option.none : Option Jvm.ClassFile.FieldType), Jvm.Cond.code ({ cls := "java/util/ArrayList", name := "toArray", desc := "()[Ljava/lang/Object;" } : Jvm.MethodName) jdk_38_method_16_code (1 : Nat) (Option.some (Jvm.ClassFile.FieldType.array (Jvm.ClassFile.FieldType.object "java/lang/Object"))), Jvm.Cond.code ({ cls := "java/util/Arrays", name := "copyOf", desc := "([Ljava/lang/Object;I)[Ljava/lang/Object;" } : Jvm.MethodName) jdk_65_method_119_code (2 : Nat) (Option.some (Jvm.ClassFile.FieldType.array (Jvm.ClassFile.FieldType.object "java/lang/Object"))), Jvm.Cond.code ({ cls := "java/util/Arrays", name := "copyOf", desc := "([Ljava/lang/Object;ILjava/lang/Class;)[Ljava/lang/Object;" } : Jvm.MethodName) jdk_65_method_120_code (4 : Nat) (Option.some (Jvm.ClassFile.FieldType.array (Jvm.ClassFile.FieldType.object "java/lang/Object"))), Jvm.Cond.code ({ cls := "java/lang/Math", name := "min", desc := "(II)I" } : Jvm.MethodName) jdk_29_method_69_code (2 : Nat) (Option.some Jvm.ClassFile.FieldType.int), Jvm.Cond.code ({ cls := "java/util/List", name := "of", desc := "([Ljava/lang/Object;)Ljava/util/List;" } : Jvm.MethodName) jdk_40_method_47_code (2 : Nat) (Option.some (Jvm.ClassFile.FieldType.object "java/util/List")), Jvm.Cond.code ({ cls := "java/util/ImmutableCollections$List12", name := "<init>", desc := "(Ljava/lang/Object;Ljava/lang/Object;)V" } : Jvm.MethodName) jdk_44_method_2_code (3 : Nat) (Option.none : Option Jvm.ClassFile.FieldType), Jvm.Cond.code ({ cls := "java/util/ImmutableCollections$AbstractImmutableList", name := "<init>", desc := "()V" } : Jvm.MethodName) jdk_46_method_1_code (1 : Nat) (Option.none : Option Jvm.ClassFile.FieldType), Jvm.Cond.code ({ cls := "java/util/ImmutableCollections$AbstractImmutableCollection", name := "<init>", desc := "()V" } : Jvm.MethodName) jdk_47_method_1_code (1 : Nat) (Option.none : Option Jvm.ClassFile.FieldType), Jvm.Cond.code ({ cls := "java/util/Objects", name := "requireNonNull", desc := "(Ljava/lang/Object;)Ljava/lang/Object;" } : Jvm.MethodName) jdk_31_method_10_code (1 : Nat) (Option.some (Jvm.ClassFile.FieldType.object "java/lang/Object")), Jvm.Cond.code ({ cls := "com/example/trips_into_trajectories/tripsintotrajectories/network/Network", name := "isNode", desc := "(I)Z" } : Jvm.MethodName) prog_38_method_9_code (2 : Nat) (Option.some Jvm.ClassFile.FieldType.boolean), Jvm.Cond.code ({ cls := "com/example/trips_into_trajectories/tripsintotrajectories/network/NetworkIsNodePinLaw", name := "inRange", desc := "(II)Z" } : Jvm.MethodName) method_3_code (4 : Nat) (Option.some Jvm.ClassFile.FieldType.boolean), Jvm.Cond.code ({ cls := "java/util/ImmutableCollections", name := "listFromArray", desc := "([Ljava/lang/Object;)Ljava/util/List;" } : Jvm.MethodName) jdk_56_method_4_code (3 : Nat) (Option.some (Jvm.ClassFile.FieldType.object "java/util/List")), Jvm.Cond.code ({ cls := "java/util/ImmutableCollections$ListN", name := "<init>", desc := "([Ljava/lang/Object;Z)V" } : Jvm.MethodName) jdk_45_method_1_code (3 : Nat) (Option.none : Option Jvm.ClassFile.FieldType)]
set_option maxRecDepth 65536 in
theorem codes_eq : words1.filter isCode = codes1 := rfl
theorem w_codes : ∀ c ∈ words1.filter isCode, c.before args0 about1 = true := by
  rw [codes_eq]
  intro c hc
  simp only [codes1, List.mem_cons, List.not_mem_nil, or_false] at hc
  rcases hc with rfl | rfl | rfl | rfl | rfl | rfl | rfl | rfl | rfl | rfl | rfl | rfl | rfl | rfl | rfl | rfl | rfl | rfl | rfl | rfl | rfl | rfl | rfl | rfl | rfl | rfl | rfl | rfl | rfl | rfl | rfl | rfl | rfl | rfl | rfl
  · exact w_c0
  · exact w_c1
  · exact w_c2
  · exact w_c3
  · exact w_c4
  · exact w_c5
  · exact w_c6
  · exact w_c7
  · exact w_c8
  · exact w_c9
  · exact w_c10
  · exact w_c11
  · exact w_c12
  · exact w_c13
  · exact w_c14
  · exact w_c15
  · exact w_c16
  · exact w_c17
  · exact w_c18
  · exact w_c19
  · exact w_c20
  · exact w_c21
  · exact w_c22
  · exact w_c23
  · exact w_c24
  · exact w_c25
  · exact w_c26
  · exact w_c27
  · exact w_c28
  · exact w_c29
  · exact w_c30
  · exact w_c31
  · exact w_c32
  · exact w_c33
  · exact w_c34
set_option maxRecDepth 65536 in
theorem w_t1 : (words1.take 24).all (fun c => isCode c || c.before args0 about1) = true := by decide +kernel
set_option maxRecDepth 65536 in
theorem w_t2 : ((words1.drop 24).take 24).all (fun c => isCode c || c.before args0 about1) = true := by decide +kernel
set_option maxRecDepth 65536 in
theorem w_t3 : (((words1.drop 24).drop 24).take 24).all (fun c => isCode c || c.before args0 about1) = true := by decide +kernel
set_option maxRecDepth 65536 in
theorem w_t4 : ((((words1.drop 24).drop 24).drop 24).take 24).all (fun c => isCode c || c.before args0 about1) = true := by decide +kernel
set_option maxRecDepth 65536 in
theorem w_t5 : (((((words1.drop 24).drop 24).drop 24).drop 24).take 24).all (fun c => isCode c || c.before args0 about1) = true := by decide +kernel
set_option maxRecDepth 65536 in
theorem w_t6 : ((((((words1.drop 24).drop 24).drop 24).drop 24).drop 24).take 24).all (fun c => isCode c || c.before args0 about1) = true := by decide +kernel
set_option maxRecDepth 65536 in
theorem w_t7 : (((((((words1.drop 24).drop 24).drop 24).drop 24).drop 24).drop 24).take 24).all (fun c => isCode c || c.before args0 about1) = true := by decide +kernel
set_option maxRecDepth 65536 in
theorem w_t8 : ((((((((words1.drop 24).drop 24).drop 24).drop 24).drop 24).drop 24).drop 24).take 24).all (fun c => isCode c || c.before args0 about1) = true := by decide +kernel
set_option maxRecDepth 65536 in
theorem w_t9 : (((((((((words1.drop 24).drop 24).drop 24).drop 24).drop 24).drop 24).drop 24).drop 24).take 24).all (fun c => isCode c || c.before args0 about1) = true := by decide +kernel
set_option maxRecDepth 65536 in
theorem w_t10 : ((((((((((words1.drop 24).drop 24).drop 24).drop 24).drop 24).drop 24).drop 24).drop 24).drop 24).take 24).all (fun c => isCode c || c.before args0 about1) = true := by decide +kernel
set_option maxRecDepth 65536 in
theorem w_t11 : (((((((((((words1.drop 24).drop 24).drop 24).drop 24).drop 24).drop 24).drop 24).drop 24).drop 24).drop 24).take 24).all (fun c => isCode c || c.before args0 about1) = true := by decide +kernel
set_option maxRecDepth 65536 in
theorem w_t12 : (((((((((((words1.drop 24).drop 24).drop 24).drop 24).drop 24).drop 24).drop 24).drop 24).drop 24).drop 24).drop 24).all (fun c => isCode c || c.before args0 about1) = true := by decide +kernel
theorem w_tables : (allAtoms (Jvm.Cond.code x code maxLocals ret :: tables_1)).before args0 about1 = true := by
  rw [allAtoms_all]
  show words1.all (fun c => c.before args0 about1) = true
  refine all_split ?_ w_codes
  rw [← List.take_append_drop 24 words1, List.all_append, w_t1, ← List.take_append_drop 24 (words1.drop 24), List.all_append, w_t2, ← List.take_append_drop 24 ((words1.drop 24).drop 24), List.all_append, w_t3, ← List.take_append_drop 24 (((words1.drop 24).drop 24).drop 24), List.all_append, w_t4, ← List.take_append_drop 24 ((((words1.drop 24).drop 24).drop 24).drop 24), List.all_append, w_t5, ← List.take_append_drop 24 (((((words1.drop 24).drop 24).drop 24).drop 24).drop 24), List.all_append, w_t6, ← List.take_append_drop 24 ((((((words1.drop 24).drop 24).drop 24).drop 24).drop 24).drop 24), List.all_append, w_t7, ← List.take_append_drop 24 (((((((words1.drop 24).drop 24).drop 24).drop 24).drop 24).drop 24).drop 24), List.all_append, w_t8, ← List.take_append_drop 24 ((((((((words1.drop 24).drop 24).drop 24).drop 24).drop 24).drop 24).drop 24).drop 24), List.all_append, w_t9, ← List.take_append_drop 24 (((((((((words1.drop 24).drop 24).drop 24).drop 24).drop 24).drop 24).drop 24).drop 24).drop 24), List.all_append, w_t10, ← List.take_append_drop 24 ((((((((((words1.drop 24).drop 24).drop 24).drop 24).drop 24).drop 24).drop 24).drop 24).drop 24).drop 24), List.all_append, w_t11, w_t12]
  rfl
set_option maxRecDepth 65536 in
theorem w_rest : rest_1_c.before args0 about1 = true := by decide +kernel
set_option maxRecDepth 65536 in
theorem w_case : (Jvm.Cond.and given_1 narrow_1).before args0 about1 = true := by decide +kernel
theorem w_applies : (headSpec (Jvm.Cond.code x code maxLocals ret :: tables_1) room_1).applies x e0.platform about1 = true :=
  (Spec.applies_iff w_frames).mpr ⟨w_running, w_runnable, w_alone, w_named, w_hears, w_ripe, w_room, w_tables⟩
theorem atStart : AtStart classFile x code maxLocals ret World_1 tables_1 room_1 Calls_1 rest_1 Pre_1 launch0 p0 e0 about1 theMethod args0 below0 :=
  ⟨lists_1, trivial, launch0.admits_env _ _ _, launch0.least_env, fairChoices_fair.cas, fairChoices_fair.clock, w_frames, w_args, w_heap, w_applies, ⟨⟨29, k29, 2, by decide +kernel, rfl, rfl, _, rfl, rfl⟩, trivial⟩, w_rest, w_case⟩
end start1
theorem witness_1 : WitnessClaimed_1 := ⟨start1.p0, start1.e0, start1.about1, start1.theMethod, start1.args0, start1.below0, start1.atStart⟩
end Jvm.Pilot.@@N@@
