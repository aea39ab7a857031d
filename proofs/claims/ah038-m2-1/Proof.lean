import JvmDerived
import JvmDerived.Pilot.@@N@@Statement
import JvmDerived.Pilot.@@N@@Code
set_option linter.unusedVariables false
set_option linter.unusedSimpArgs false

namespace Jvm.RoadKit
open Sem ClassFile Op Lib Jvm.Stand Jvm.Free Jvm.LawKit
section New
variable {p : Program} {l : Launch} {e : Env} {R : Room} {s : State} {m : MethodId} {args : Array Value} {below : List Frame} {meth : Method} {c : Code} {T : State} {locs : List Loc} {cells slots : Nat}
theorem retI (X : Stand p l e R s m args below meth c T locs cells slots) (hx : p.tables.exec = Jvm.exec) {pc : Nat} {Ls : Array Slot} {z : Int32} {rest : List Value} (hret : meth.sig.returnType = some .int) (hd : decode c.code pc = .ok (.ireturn, 1)) {fs : List Frame}
    (hl : ∀ (f : JFrame) (acts : List Action), f.method = m → f.locked = none → f.entered = [] → (doReturn e (T.setTop f) acts (some (.int z))).1 = T.setFrames fs) : Steps p.tables e below (T.setTop (mkF m pc Ls (.int z :: rest))) (T.setFrames fs) :=
  retOut X hx hret rfl (Or.inl ⟨rfl, Or.inl rfl, z, rfl⟩) hd hl
theorem own_retL (X : Stand p l e R s m args below meth c T locs cells slots) (hx : p.tables.exec = Jvm.exec) {pc : Nat} {Ls : Array Slot} {z : Int64} {rest : List Value} (hret : meth.sig.returnType = some .long) (hd : decode c.code pc = .ok (.lreturn, 1)) {fs : List Frame}
    (hl : ∀ (f : JFrame) (acts : List Action), f.method = m → f.locked = none → f.entered = [] → (doReturn e (T.setTop f) acts (some (.long z))).1 = T.setFrames fs) : Steps p.tables e below (T.setTop (mkF m pc Ls (.long z :: rest))) (T.setFrames fs) :=
  retOut X hx hret rfl (Or.inr (Or.inl ⟨rfl, rfl, z, rfl⟩)) hd hl
theorem own_retA (X : Stand p l e R s m args below meth c T locs cells slots) (hx : p.tables.exec = Jvm.exec) {pc : Nat} {Ls : Array Slot} {w : Value} {t : FieldType} {rest : List Value} (hret : meth.sig.returnType = some t) (ht : t.isReference = true) (hw : w.isRef = true) (hd : decode c.code pc = .ok (.areturn, 1)) {fs : List Frame}
    (hl : ∀ (f : JFrame) (acts : List Action), f.method = m → f.locked = none → f.entered = [] → (doReturn e (T.setTop f) acts (some w)).1 = T.setFrames fs) : Steps p.tables e below (T.setTop (mkF m pc Ls (w :: rest))) (T.setFrames fs) :=
  retOut X hx hret (by cases t <;> first | (cases ht; done) | (cases w <;> first | rfl | cases hw)) (Or.inr (Or.inr (Or.inr (Or.inr ⟨rfl, ht, hw⟩)))) hd hl
theorem own_back {tb : Tables} {e : Env} {below : List Frame} {a b : State} {P : State → Outcome → Prop} (h : ∀ t, Steps tb e below b t → Steps tb e below a t) (k : ∃ t o, Steps tb e below b t ∧ P t o) : ∃ t o, Steps tb e below a t ∧ P t o := by
  obtain ⟨t, o, k1, k2⟩ := k
  exact ⟨t, o, h t k1, k2⟩
theorem own_sta_keep {Z : State} {h h' : Heap} {C n d : String} {v : Value} (F : Sta Z h C n d v) (K : Keep h h' []) : Sta Z h' C n d v := by
  obtain ⟨cf, i, k, f, st, cell, h1, h2, h3, h4, h5, r⟩ := F
  exact ⟨cf, i, k, f, st, cell, h1, h2, h3, h4, K.2.1 _ _ h5 nin0, r⟩
def ElA (Z : State) (h : Heap) (a : Addr) (ty : FieldType) (j : Int32) (v : Value) : Prop := ∃ c : Cell, Arr Z h a c ty ∧ ¬ (j < 0 ∨ c.slots.size ≤ j.toNatClampNeg) ∧ c.slots[j.toNatClampNeg]? = some v
theorem ElA.lt {Z : State} {h : Heap} {a : Addr} {ty : FieldType} {j : Int32} {v : Value} (F : ElA Z h a ty j v) : a < h.size := by obtain ⟨c, A, -⟩ := F; exact A.lt
theorem ElA.ext {Z : State} {h h' : Heap} {a : Addr} {ty : FieldType} {j : Int32} {v : Value} (F : ElA Z h a ty j v) (E : Ext h h') : ElA Z h' a ty j v := by obtain ⟨c, A, r⟩ := F; exact ⟨c, A.ext E, r⟩
theorem ElA.other {Z : State} {h h' : Heap} {a b : Addr} {ty : FieldType} {j : Int32} {v w : Value} {sl : Nat} (F : ElA Z h b ty j v) (W : Wr h h' a sl w) (q : b ≠ a) : ElA Z h' b ty j v := by obtain ⟨c, A, r⟩ := F; exact ⟨c, A.other W q, r⟩
theorem ElA.keep {Z : State} {h h' : Heap} {a : Addr} {ty : FieldType} {j : Int32} {v : Value} {ws : List Addr} (F : ElA Z h a ty j v) (K : Keep h h' ws) (q : a ∉ ws) : ElA Z h' a ty j v := by obtain ⟨c, A, r⟩ := F; exact ⟨c, ⟨K.2.1 a c A.1 q, A.2⟩, r⟩
theorem ElA.store {Z : State} {h h' : Heap} {a : Addr} {ty : FieldType} {j : Int32} {v : Value} {c : Cell} (A : Arr Z h a c ty) (hj : ¬ (j < 0 ∨ c.slots.size ≤ j.toNatClampNeg)) (W : Wr h h' a j.toNatClampNeg v) : ElA Z h' a ty j v :=
  ⟨_, A.same W, by rw [sz_set]; exact hj, get_hit hj rfl⟩
theorem own_irr (x : Int32) : ¬ x < x := by rw [Int32.lt_iff_toInt_lt]; omega
theorem own_irrL (x : Int64) : ¬ x < x := by rw [Int64.lt_iff_toInt_lt]; omega
end New
end Jvm.RoadKit
namespace Jvm.Pilot.@@N@@
open Jvm Jvm.ClassFile Sem Op Lib Jvm.Free Jvm.Stand Jvm.LawKit Jvm.RoadKit Bundle Jvm.Pilot.@@N@@.Jvm.D

theorem d2_0 : decode jdk_30_method_1_code 0 = .ok (.aload_n 0, 1) := by decide +kernel
theorem d2_1 : decode jdk_30_method_1_code 1 = .ok (.invokespecial 1, 3) := by decide +kernel
theorem d2_4 : decode jdk_30_method_1_code 4 = .ok (.return_, 1) := by decide +kernel
theorem pn_2 : plainName "java/lang/Record" = true := by first | (simp [plainName, overriddenIn]; done) | decide +kernel
theorem ef_2 (m : MethodId) (x0 : Addr) : entryFrame m #[(.ref x0)] 1 = mkF m 0 #[.val (.ref x0)] [] := by first | (simp [entryFrame, mkF, argsToLocals, Value.category]; done) | rfl
def Q2 (Z : State) (a0 : Addr) (h0 : Heap) (n0 : Nat) (v : Option Value) (h : Heap) (L : List Loc) : Prop := v = none ∧ Fr n0 L ∧ h = h0
set_option maxRecDepth 65536 in
set_option maxHeartbeats 40000000 in
theorem rm2 (l : Launch) (Z : State) (aw : Array Value) (hw : ∀ d ∈ tables_1, d.before aw Z = true) (ws : List Jvm.Cond) (a0 : Addr) (h0 : Heap) (n0 : Nat) (Z0 : n0 ≤ h0.size) :
    MetFree l (⟨"java/lang/Record", "<init>", "()V"⟩ : MethodName) (head1 (Jvm.Cond.code (⟨"java/lang/Record", "<init>", "()V"⟩ : MethodName) jdk_30_method_1_code 1 none :: ws) ({ frames := 1, cells := 0, slots := 0, locals := 12 } : Room)) (fun a U => a = #[(.ref a0)] ∧ Z.Warmed39 U.vm ∧ U.heap = h0) (fun _ _ _ _ _ => True) (fun _ U o U' => ∃ v L, o = .returned v ∧ Q2 Z a0 h0 n0 v U'.heap L ∧ FrameEnd U o U' L ({ frames := 1, cells := 0, slots := 0, locals := 12 } : Room).cells ({ frames := 1, cells := 0, slots := 0, locals := 12 } : Room).slots) := by
  refine MetFree.of_bodySF (plainFor_of_name pn_2) hisR ?_
  intro p e s m args below meth c s₁ Bd hml0 hP hK
  obtain ⟨rfl, hZ, hh⟩ := hP
  have hx := Bd.exec
  have hby := Bd.bytes
  have hml : c.maxLocals = 1 := hml0
  have hown : s.vm.findClass "java/lang/Record" = some m.cls := findClass_of_methodNamed Bd.named
  have hnm := (name_of_methodNamed Bd.named Bd.method).1
  have X0 : Stand p l e ({ frames := 1, cells := 0, slots := 0, locals := 12 } : Room) s m #[(.ref a0)] below meth c s₁ [] 0 0 := Stand.of_body Bd
  have e0 : s₁.heap = h0 := by rw [← hh, Bd.state]; rfl
  have N0 := Fr.nil n0
  refine own_back (b := s₁.setTop (mkF m 0 #[.val (.ref a0)] [])) (fun t kt => castTop (ef_2 m a0) kt) ?_
  obtain ⟨T1, X1, e1, st1⟩ := initO X0 hx hZ hown (hw _ (List.mem_of_getElem? (i := 11) rfl)) (hw _ (List.mem_of_getElem? (i := 12) rfl)) (hw _ (List.mem_of_getElem? (i := 13) rfl)) e0 (g := (mkF m 1 #[.val (.ref a0)] [(.ref a0)])) rfl (by rw [hml]; rfl) rfl (hb hby d2_1) (by decide) (W := 0) (by show 2 * 0 + _ ≤ _; exact Nat.le_of_eq rfl) (by decide)
  refine own_back (b := T1.setTop (mkF m 4 #[.val (.ref a0)] [])) (fun t kt => ?_) ?_
  · show Steps p.tables e below (s₁.setTop (mkF m 0 #[.val (.ref a0)] [])) _
    refine XS.aloadN X0.here hx rfl (hb hby d2_0) rfl rfl ?_
    show Steps p.tables e below (s₁.setTop (mkF m 1 #[.val (.ref a0)] [(.ref a0)])) _
    refine st1 _ ?_
    exact kt
  obtain ⟨fs, hr, hrun, hended, hW, hsame⟩ := X1.leave (v := none) (fun _ => rfl)
  refine ⟨_, _, ?_, hrun, hended, _, _, rfl, ?_, ⟨_, rfl⟩, hW, hsame.mono (by decide) (by decide)⟩
  · show Steps p.tables e below (T1.setTop (mkF m 4 #[.val (.ref a0)] [])) _
    exact X1.returnOut hx Bd.returns (hb hby d2_4) hr
  · show Q2 Z a0 h0 n0 _ T1.heap _
    rw [e1]
    exact ⟨rfl, N0, rfl⟩
theorem d1_0 : decode prog_125_method_1_code 0 = .ok (.aload_n 0, 1) := by decide +kernel
theorem d1_1 : decode prog_125_method_1_code 1 = .ok (.invokespecial 1, 3) := by decide +kernel
theorem d1_4 : decode prog_125_method_1_code 4 = .ok (.aload_n 0, 1) := by decide +kernel
theorem d1_5 : decode prog_125_method_1_code 5 = .ok (.iload_n 1, 1) := by decide +kernel
theorem d1_6 : decode prog_125_method_1_code 6 = .ok (.putfield 7, 3) := by decide +kernel
theorem d1_9 : decode prog_125_method_1_code 9 = .ok (.aload_n 0, 1) := by decide +kernel
theorem d1_10 : decode prog_125_method_1_code 10 = .ok (.iload_n 2, 1) := by decide +kernel
theorem d1_11 : decode prog_125_method_1_code 11 = .ok (.putfield 13, 3) := by decide +kernel
theorem d1_14 : decode prog_125_method_1_code 14 = .ok (.aload_n 0, 1) := by decide +kernel
theorem d1_15 : decode prog_125_method_1_code 15 = .ok (.iload_n 3, 1) := by decide +kernel
theorem d1_16 : decode prog_125_method_1_code 16 = .ok (.putfield 16, 3) := by decide +kernel
theorem d1_19 : decode prog_125_method_1_code 19 = .ok (.aload_n 0, 1) := by decide +kernel
theorem d1_20 : decode prog_125_method_1_code 20 = .ok (.iload 4, 2) := by decide +kernel
theorem d1_22 : decode prog_125_method_1_code 22 = .ok (.putfield 19, 3) := by decide +kernel
theorem d1_25 : decode prog_125_method_1_code 25 = .ok (.return_, 1) := by decide +kernel
theorem pn_1 : plainName "com/example/keptlog/keptlog/server/GroupPolicy" = true := by first | (simp [plainName, overriddenIn]; done) | decide +kernel
theorem pd_1_0 : parseMethodDescriptor "()V" = some ⟨[], none⟩ := by decide +kernel
theorem ef_1 (m : MethodId) (x0 : Addr) (x1 : Int32) (x2 : Int32) (x3 : Int32) (x4 : Int32) : entryFrame m #[(.ref x0), (.int x1), (.int x2), (.int x3), (.int x4)] 5 = mkF m 0 #[.val (.ref x0), .val (.int x1), .val (.int x2), .val (.int x3), .val (.int x4)] [] := by first | (simp [entryFrame, mkF, argsToLocals, Value.category]; done) | rfl
def Q1 (Z : State) (a0 : Addr) (p1 : Int32) (p2 : Int32) (p3 : Int32) (p4 : Int32) (h0 : Heap) (n0 : Nat) (v : Option Value) (h : Heap) (L : List Loc) : Prop := v = none ∧ Fr n0 L ∧ Keep h0 h [a0] ∧ Exa Z h a0 "com/example/keptlog/keptlog/server/GroupPolicy" ∧ Fld Z h a0 "com/example/keptlog/keptlog/server/GroupPolicy" "minSessionTimeoutMs" "I" (.int p1) ∧ Fld Z h a0 "com/example/keptlog/keptlog/server/GroupPolicy" "maxSessionTimeoutMs" "I" (.int p2) ∧ Fld Z h a0 "com/example/keptlog/keptlog/server/GroupPolicy" "initialRebalanceDelayMs" "I" (.int p3) ∧ Fld Z h a0 "com/example/keptlog/keptlog/server/GroupPolicy" "offsetsTopicPartitions" "I" (.int p4)
set_option maxRecDepth 65536 in
set_option maxHeartbeats 40000000 in
theorem rm1 (l : Launch) (Z : State) (aw : Array Value) (hw : ∀ d ∈ tables_1, d.before aw Z = true) (ws : List Jvm.Cond) (a0 : Addr) (p1 : Int32) (p2 : Int32) (p3 : Int32) (p4 : Int32) (h0 : Heap) (n0 : Nat) (Z0 : n0 ≤ h0.size) (F_minSessionTimeoutMs_a0 : Fld Z h0 a0 "com/example/keptlog/keptlog/server/GroupPolicy" "minSessionTimeoutMs" "I" (.int (0 : Int32))) (F_maxSessionTimeoutMs_a0 : Fld Z h0 a0 "com/example/keptlog/keptlog/server/GroupPolicy" "maxSessionTimeoutMs" "I" (.int (0 : Int32))) (F_initialRebalanceDelayMs_a0 : Fld Z h0 a0 "com/example/keptlog/keptlog/server/GroupPolicy" "initialRebalanceDelayMs" "I" (.int (0 : Int32))) (F_offsetsTopicPartitions_a0 : Fld Z h0 a0 "com/example/keptlog/keptlog/server/GroupPolicy" "offsetsTopicPartitions" "I" (.int (0 : Int32))) (E_a0 : Exa Z h0 a0 "com/example/keptlog/keptlog/server/GroupPolicy") (g_a0 : n0 ≤ a0) :
    MetFree l (⟨"com/example/keptlog/keptlog/server/GroupPolicy", "<init>", "(IIII)V"⟩ : MethodName) (head1 (Jvm.Cond.code (⟨"com/example/keptlog/keptlog/server/GroupPolicy", "<init>", "(IIII)V"⟩ : MethodName) prog_125_method_1_code 5 none :: ws) ({ frames := 2, cells := 0, slots := 0, locals := 24 } : Room)) (fun a U => a = #[(.ref a0), (.int p1), (.int p2), (.int p3), (.int p4)] ∧ Z.Warmed39 U.vm ∧ U.heap = h0) (fun _ _ _ _ _ => True) (fun _ U o U' => ∃ v L, o = .returned v ∧ Q1 Z a0 p1 p2 p3 p4 h0 n0 v U'.heap L ∧ FrameEnd U o U' L ({ frames := 2, cells := 0, slots := 0, locals := 24 } : Room).cells ({ frames := 2, cells := 0, slots := 0, locals := 24 } : Room).slots) := by
  refine MetFree.of_bodySF (plainFor_of_name pn_1) hisR ?_
  intro p e s m args below meth c s₁ Bd hml0 hP hK
  obtain ⟨rfl, hZ, hh⟩ := hP
  have hx := Bd.exec
  have hby := Bd.bytes
  have hml : c.maxLocals = 5 := hml0
  have hown : s.vm.findClass "com/example/keptlog/keptlog/server/GroupPolicy" = some m.cls := findClass_of_methodNamed Bd.named
  have hnm := (name_of_methodNamed Bd.named Bd.method).1
  have X0 : Stand p l e ({ frames := 2, cells := 0, slots := 0, locals := 24 } : Room) s m #[(.ref a0), (.int p1), (.int p2), (.int p3), (.int p4)] below meth c s₁ [] 0 0 := Stand.of_body Bd
  have e0 : s₁.heap = h0 := by rw [← hh, Bd.state]; rfl
  have N0 := Fr.nil n0
  refine own_back (b := s₁.setTop (mkF m 0 #[.val (.ref a0), .val (.int p1), .val (.int p2), .val (.int p3), .val (.int p4)] [])) (fun t kt => castTop (ef_1 m a0 p1 p2 p3 p4) kt) ?_
  obtain ⟨_, _, ⟨T1, L1, k1, n1⟩, -, X1, ⟨Lc1, hQ1, l1, y1, z1⟩, st1⟩ := X0.specialBack hx (y := (⟨"java/lang/Record", "<init>", "()V"⟩ : MethodName)) rfl hown (mvT hZ (hw _ (List.mem_of_getElem? (i := 6) rfl))) (mvT hZ (hw _ (List.mem_of_getElem? (i := 7) rfl))) (mvT hZ (hw _ (List.mem_of_getElem? (i := 10) rfl))) (by decide) (backOf (W := 0) (rm2 l Z aw hw [] a0 h0 n0 Z0 ) hZ (hw _ (List.mem_of_getElem? (i := 10) rfl)) (hw _ (List.mem_of_getElem? (i := 9) rfl)) (by decide) (by decide)) (g := (mkF m 1 #[.val (.ref a0), .val (.int p1), .val (.int p2), .val (.int p3), .val (.int p4)] [(.ref a0)])) rfl (by rw [hml]; rfl) (Steps.refl _) (a := a0) (argsL := []) (rest := []) (lenOf pd_1_0 rfl) rfl (by show 2 * 0 + _ ≤ _; exact Nat.le_of_eq rfl) (hb hby d1_1) (fun _ _ => ⟨rfl, e0, (by decide : 0 + 0 ≤ _), (by decide : 0 + 0 ≤ _)⟩)
  dsimp only [Pt.U, Pt.locs, Pt.cells, Pt.slots] at X1 l1 y1 z1 st1 hQ1
  subst l1 y1 z1
  obtain ⟨rfl, Nq1, e1⟩ := hQ1
  have N1 := Fr.app N0 Nq1
  obtain ⟨T2, h2, X2, e2, W2, st2⟩ := putF X1 hx hZ hown (host := "") (Or.inl (hw _ (List.mem_of_getElem? (i := 14) rfl))) Via.refl e1 F_minSessionTimeoutMs_a0 E_a0 (Or.inr ⟨(hw _ (List.mem_of_getElem? (i := 15) rfl)), rfl, hnm⟩) (hw _ (List.mem_of_getElem? (i := 1) rfl)) (ty := .int) (by decide) rfl rfl (g := (mkF m 6 #[.val (.ref a0), .val (.int p1), .val (.int p2), .val (.int p3), .val (.int p4)] [(.int p1), (.ref a0)])) rfl rfl (hb hby d1_6)
  have Fw2 := F_minSessionTimeoutMs_a0.same W2
  have f2_0 := F_maxSessionTimeoutMs_a0.other W2 (Or.inr (slot_ne (Or.inr (hw _ (List.mem_of_getElem? (i := 17) rfl))) (Or.inr (hw _ (List.mem_of_getElem? (i := 15) rfl))) (by decide) (t := .int) (t' := .int) (by decide) (by decide)))
  have f2_1 := F_initialRebalanceDelayMs_a0.other W2 (Or.inr (slot_ne (Or.inr (hw _ (List.mem_of_getElem? (i := 19) rfl))) (Or.inr (hw _ (List.mem_of_getElem? (i := 15) rfl))) (by decide) (t := .int) (t' := .int) (by decide) (by decide)))
  have f2_2 := F_offsetsTopicPartitions_a0.other W2 (Or.inr (slot_ne (Or.inr (hw _ (List.mem_of_getElem? (i := 21) rfl))) (Or.inr (hw _ (List.mem_of_getElem? (i := 15) rfl))) (by decide) (t := .int) (t' := .int) (by decide) (by decide)))
  have f2_3 := E_a0.wr W2
  have K2 : Keep h0 h2 [a0] := (Keep.refl h0 _).wr W2 (Or.inl (List.mem_of_getElem? (i := 0) rfl))
  have Z2 : n0 ≤ h2.size := Nat.le_trans Z0 (Keep.of_wr W2).1
  have N2 := Fr.snoc X2 N1 g_a0
  obtain ⟨T3, h3, X3, e3, W3, st3⟩ := putF X2 hx hZ hown (host := "") (Or.inl (hw _ (List.mem_of_getElem? (i := 16) rfl))) Via.refl e2 f2_0 f2_3 (Or.inr ⟨(hw _ (List.mem_of_getElem? (i := 17) rfl)), rfl, hnm⟩) (hw _ (List.mem_of_getElem? (i := 1) rfl)) (ty := .int) (by decide) rfl rfl (g := (mkF m 11 #[.val (.ref a0), .val (.int p1), .val (.int p2), .val (.int p3), .val (.int p4)] [(.int p2), (.ref a0)])) rfl rfl (hb hby d1_11)
  have Fw3 := f2_0.same W3
  have f3_0 := f2_1.other W3 (Or.inr (slot_ne (Or.inr (hw _ (List.mem_of_getElem? (i := 19) rfl))) (Or.inr (hw _ (List.mem_of_getElem? (i := 17) rfl))) (by decide) (t := .int) (t' := .int) (by decide) (by decide)))
  have f3_1 := f2_2.other W3 (Or.inr (slot_ne (Or.inr (hw _ (List.mem_of_getElem? (i := 21) rfl))) (Or.inr (hw _ (List.mem_of_getElem? (i := 17) rfl))) (by decide) (t := .int) (t' := .int) (by decide) (by decide)))
  have f3_2 := f2_3.wr W3
  have f3_3 := Fw2.other W3 (Or.inr (slot_ne (Or.inr (hw _ (List.mem_of_getElem? (i := 15) rfl))) (Or.inr (hw _ (List.mem_of_getElem? (i := 17) rfl))) (by decide) (t := .int) (t' := .int) (by decide) (by decide)))
  have K3 : Keep h0 h3 [a0] := K2.wr W3 (Or.inl (List.mem_of_getElem? (i := 0) rfl))
  have Z3 : n0 ≤ h3.size := Nat.le_trans Z2 (Keep.of_wr W3).1
  have N3 := Fr.snoc X3 N2 g_a0
  obtain ⟨T4, h4, X4, e4, W4, st4⟩ := putF X3 hx hZ hown (host := "") (Or.inl (hw _ (List.mem_of_getElem? (i := 18) rfl))) Via.refl e3 f3_0 f3_2 (Or.inr ⟨(hw _ (List.mem_of_getElem? (i := 19) rfl)), rfl, hnm⟩) (hw _ (List.mem_of_getElem? (i := 1) rfl)) (ty := .int) (by decide) rfl rfl (g := (mkF m 16 #[.val (.ref a0), .val (.int p1), .val (.int p2), .val (.int p3), .val (.int p4)] [(.int p3), (.ref a0)])) rfl rfl (hb hby d1_16)
  have Fw4 := f3_0.same W4
  have f4_0 := f3_1.other W4 (Or.inr (slot_ne (Or.inr (hw _ (List.mem_of_getElem? (i := 21) rfl))) (Or.inr (hw _ (List.mem_of_getElem? (i := 19) rfl))) (by decide) (t := .int) (t' := .int) (by decide) (by decide)))
  have f4_1 := f3_2.wr W4
  have f4_2 := f3_3.other W4 (Or.inr (slot_ne (Or.inr (hw _ (List.mem_of_getElem? (i := 15) rfl))) (Or.inr (hw _ (List.mem_of_getElem? (i := 19) rfl))) (by decide) (t := .int) (t' := .int) (by decide) (by decide)))
  have f4_3 := Fw3.other W4 (Or.inr (slot_ne (Or.inr (hw _ (List.mem_of_getElem? (i := 17) rfl))) (Or.inr (hw _ (List.mem_of_getElem? (i := 19) rfl))) (by decide) (t := .int) (t' := .int) (by decide) (by decide)))
  have K4 : Keep h0 h4 [a0] := K3.wr W4 (Or.inl (List.mem_of_getElem? (i := 0) rfl))
  have Z4 : n0 ≤ h4.size := Nat.le_trans Z3 (Keep.of_wr W4).1
  have N4 := Fr.snoc X4 N3 g_a0
  obtain ⟨T5, h5, X5, e5, W5, st5⟩ := putF X4 hx hZ hown (host := "") (Or.inl (hw _ (List.mem_of_getElem? (i := 20) rfl))) Via.refl e4 f4_0 f4_1 (Or.inr ⟨(hw _ (List.mem_of_getElem? (i := 21) rfl)), rfl, hnm⟩) (hw _ (List.mem_of_getElem? (i := 1) rfl)) (ty := .int) (by decide) rfl rfl (g := (mkF m 22 #[.val (.ref a0), .val (.int p1), .val (.int p2), .val (.int p3), .val (.int p4)] [(.int p4), (.ref a0)])) rfl rfl (hb hby d1_22)
  have Fw5 := f4_0.same W5
  have f5_0 := f4_1.wr W5
  have f5_1 := f4_2.other W5 (Or.inr (slot_ne (Or.inr (hw _ (List.mem_of_getElem? (i := 15) rfl))) (Or.inr (hw _ (List.mem_of_getElem? (i := 21) rfl))) (by decide) (t := .int) (t' := .int) (by decide) (by decide)))
  have f5_2 := f4_3.other W5 (Or.inr (slot_ne (Or.inr (hw _ (List.mem_of_getElem? (i := 17) rfl))) (Or.inr (hw _ (List.mem_of_getElem? (i := 21) rfl))) (by decide) (t := .int) (t' := .int) (by decide) (by decide)))
  have f5_3 := Fw4.other W5 (Or.inr (slot_ne (Or.inr (hw _ (List.mem_of_getElem? (i := 19) rfl))) (Or.inr (hw _ (List.mem_of_getElem? (i := 21) rfl))) (by decide) (t := .int) (t' := .int) (by decide) (by decide)))
  have K5 : Keep h0 h5 [a0] := K4.wr W5 (Or.inl (List.mem_of_getElem? (i := 0) rfl))
  have Z5 : n0 ≤ h5.size := Nat.le_trans Z4 (Keep.of_wr W5).1
  have N5 := Fr.snoc X5 N4 g_a0
  refine own_back (b := T5.setTop (mkF m 25 #[.val (.ref a0), .val (.int p1), .val (.int p2), .val (.int p3), .val (.int p4)] [])) (fun t kt => ?_) ?_
  · show Steps p.tables e below (s₁.setTop (mkF m 0 #[.val (.ref a0), .val (.int p1), .val (.int p2), .val (.int p3), .val (.int p4)] [])) _
    refine XS.aloadN X0.here hx rfl (hb hby d1_0) rfl rfl ?_
    show Steps p.tables e below (s₁.setTop (mkF m 1 #[.val (.ref a0), .val (.int p1), .val (.int p2), .val (.int p3), .val (.int p4)] [(.ref a0)])) _
    refine st1.trans ?_
    show Steps p.tables e below (T1.setTop (mkF m 4 #[.val (.ref a0), .val (.int p1), .val (.int p2), .val (.int p3), .val (.int p4)] [])) _
    refine XS.aloadN X1.here hx rfl (hb hby d1_4) rfl rfl ?_
    show Steps p.tables e below (T1.setTop (mkF m 5 #[.val (.ref a0), .val (.int p1), .val (.int p2), .val (.int p3), .val (.int p4)] [(.ref a0)])) _
    refine XS.iloadN X1.here hx rfl (hb hby d1_5) rfl ?_
    show Steps p.tables e below (T1.setTop (mkF m 6 #[.val (.ref a0), .val (.int p1), .val (.int p2), .val (.int p3), .val (.int p4)] [(.int p1), (.ref a0)])) _
    refine st2 _ ?_
    show Steps p.tables e below (T2.setTop (mkF m 9 #[.val (.ref a0), .val (.int p1), .val (.int p2), .val (.int p3), .val (.int p4)] [])) _
    refine XS.aloadN X2.here hx rfl (hb hby d1_9) rfl rfl ?_
    show Steps p.tables e below (T2.setTop (mkF m 10 #[.val (.ref a0), .val (.int p1), .val (.int p2), .val (.int p3), .val (.int p4)] [(.ref a0)])) _
    refine XS.iloadN X2.here hx rfl (hb hby d1_10) rfl ?_
    show Steps p.tables e below (T2.setTop (mkF m 11 #[.val (.ref a0), .val (.int p1), .val (.int p2), .val (.int p3), .val (.int p4)] [(.int p2), (.ref a0)])) _
    refine st3 _ ?_
    show Steps p.tables e below (T3.setTop (mkF m 14 #[.val (.ref a0), .val (.int p1), .val (.int p2), .val (.int p3), .val (.int p4)] [])) _
    refine XS.aloadN X3.here hx rfl (hb hby d1_14) rfl rfl ?_
    show Steps p.tables e below (T3.setTop (mkF m 15 #[.val (.ref a0), .val (.int p1), .val (.int p2), .val (.int p3), .val (.int p4)] [(.ref a0)])) _
    refine XS.iloadN X3.here hx rfl (hb hby d1_15) rfl ?_
    show Steps p.tables e below (T3.setTop (mkF m 16 #[.val (.ref a0), .val (.int p1), .val (.int p2), .val (.int p3), .val (.int p4)] [(.int p3), (.ref a0)])) _
    refine st4 _ ?_
    show Steps p.tables e below (T4.setTop (mkF m 19 #[.val (.ref a0), .val (.int p1), .val (.int p2), .val (.int p3), .val (.int p4)] [])) _
    refine XS.aloadN X4.here hx rfl (hb hby d1_19) rfl rfl ?_
    show Steps p.tables e below (T4.setTop (mkF m 20 #[.val (.ref a0), .val (.int p1), .val (.int p2), .val (.int p3), .val (.int p4)] [(.ref a0)])) _
    refine XS.iload X4.here hx rfl (hb hby d1_20) rfl ?_
    show Steps p.tables e below (T4.setTop (mkF m 22 #[.val (.ref a0), .val (.int p1), .val (.int p2), .val (.int p3), .val (.int p4)] [(.int p4), (.ref a0)])) _
    refine st5 _ ?_
    exact kt
  obtain ⟨fs, hr, hrun, hended, hW, hsame⟩ := X5.leave (v := none) (fun _ => rfl)
  refine ⟨_, _, ?_, hrun, hended, _, _, rfl, ?_, ⟨_, rfl⟩, hW, hsame.mono (by decide) (by decide)⟩
  · show Steps p.tables e below (T5.setTop (mkF m 25 #[.val (.ref a0), .val (.int p1), .val (.int p2), .val (.int p3), .val (.int p4)] [])) _
    exact X5.returnOut hx Bd.returns (hb hby d1_25) hr
  · show Q1 Z a0 p1 p2 p3 p4 h0 n0 _ T5.heap _
    rw [e5]
    exact ⟨rfl, N5, K5, f5_0, f5_1, f5_2, f5_3, Fw5⟩
theorem d4_0 : decode prog_125_method_2_code 0 = .ok (.iload_n 1, 1) := by decide +kernel
theorem d4_1 : decode prog_125_method_2_code 1 = .ok (.aload_n 0, 1) := by decide +kernel
theorem d4_2 : decode prog_125_method_2_code 2 = .ok (.getfield 7, 3) := by decide +kernel
theorem d4_5 : decode prog_125_method_2_code 5 = .ok (.if_icmp .lt 15, 3) := by decide +kernel
theorem d4_8 : decode prog_125_method_2_code 8 = .ok (.iload_n 1, 1) := by decide +kernel
theorem d4_9 : decode prog_125_method_2_code 9 = .ok (.aload_n 0, 1) := by decide +kernel
theorem d4_10 : decode prog_125_method_2_code 10 = .ok (.getfield 13, 3) := by decide +kernel
theorem d4_13 : decode prog_125_method_2_code 13 = .ok (.if_icmp .gt 7, 3) := by decide +kernel
theorem d4_16 : decode prog_125_method_2_code 16 = .ok (.iconst 1, 1) := by decide +kernel
theorem d4_17 : decode prog_125_method_2_code 17 = .ok (.goto 4, 3) := by decide +kernel
theorem d4_20 : decode prog_125_method_2_code 20 = .ok (.iconst 0, 1) := by decide +kernel
theorem d4_21 : decode prog_125_method_2_code 21 = .ok (.ireturn, 1) := by decide +kernel
theorem pn_4 : plainName "com/example/keptlog/keptlog/server/GroupPolicy" = true := by first | (simp [plainName, overriddenIn]; done) | decide +kernel
theorem ef_4 (m : MethodId) (x0 : Addr) (x1 : Int32) : entryFrame m #[(.ref x0), (.int x1)] 2 = mkF m 0 #[.val (.ref x0), .val (.int x1)] [] := by first | (simp [entryFrame, mkF, argsToLocals, Value.category]; done) | rfl
def f4 (p1 : Int32) (w1 : Int32) (w2 : Int32) : Int32 := (if p1 < w1 then (0 : Int32) else (if w2 < p1 then (0 : Int32) else (1 : Int32)))
def Q4 (Z : State) (a0 : Addr) (p1 : Int32) (w1 : Int32) (w2 : Int32) (h0 : Heap) (n0 : Nat) (v : Option Value) (h : Heap) (L : List Loc) : Prop := v = some (.int (f4 p1 w1 w2)) ∧ Fr n0 L ∧ h = h0
set_option maxRecDepth 65536 in
set_option maxHeartbeats 40000000 in
theorem rm4 (l : Launch) (Z : State) (aw : Array Value) (hw : ∀ d ∈ tables_1, d.before aw Z = true) (ws : List Jvm.Cond) (a0 : Addr) (p1 : Int32) (w1 : Int32) (w2 : Int32) (h0 : Heap) (n0 : Nat) (Z0 : n0 ≤ h0.size) (F_minSessionTimeoutMs_a0 : Fld Z h0 a0 "com/example/keptlog/keptlog/server/GroupPolicy" "minSessionTimeoutMs" "I" (.int w1)) (F_maxSessionTimeoutMs_a0 : Fld Z h0 a0 "com/example/keptlog/keptlog/server/GroupPolicy" "maxSessionTimeoutMs" "I" (.int w2)) :
    MetFree l (⟨"com/example/keptlog/keptlog/server/GroupPolicy", "allowsSessionTimeout", "(I)Z"⟩ : MethodName) (head1 (Jvm.Cond.code (⟨"com/example/keptlog/keptlog/server/GroupPolicy", "allowsSessionTimeout", "(I)Z"⟩ : MethodName) prog_125_method_2_code 2 (some .boolean) :: ws) ({ frames := 0, cells := 0, slots := 0, locals := 0 } : Room)) (fun a U => a = #[(.ref a0), (.int p1)] ∧ Z.Warmed39 U.vm ∧ U.heap = h0) (fun _ _ _ _ _ => True) (fun _ U o U' => ∃ v L, o = .returned v ∧ Q4 Z a0 p1 w1 w2 h0 n0 v U'.heap L ∧ FrameEnd U o U' L ({ frames := 0, cells := 0, slots := 0, locals := 0 } : Room).cells ({ frames := 0, cells := 0, slots := 0, locals := 0 } : Room).slots) := by
  refine MetFree.of_bodySF (plainFor_of_name pn_4) hisR ?_
  intro p e s m args below meth c s₁ Bd hml0 hP hK
  obtain ⟨rfl, hZ, hh⟩ := hP
  have hx := Bd.exec
  have hby := Bd.bytes
  have hml : c.maxLocals = 2 := hml0
  have hown : s.vm.findClass "com/example/keptlog/keptlog/server/GroupPolicy" = some m.cls := findClass_of_methodNamed Bd.named
  have hnm := (name_of_methodNamed Bd.named Bd.method).1
  have X0 : Stand p l e ({ frames := 0, cells := 0, slots := 0, locals := 0 } : Room) s m #[(.ref a0), (.int p1)] below meth c s₁ [] 0 0 := Stand.of_body Bd
  have e0 : s₁.heap = h0 := by rw [← hh, Bd.state]; rfl
  have N0 := Fr.nil n0
  refine own_back (b := s₁.setTop (mkF m 0 #[.val (.ref a0), .val (.int p1)] [])) (fun t kt => castTop (ef_4 m a0 p1) kt) ?_
  obtain ⟨T1, X1, e1, st1⟩ := getF X0 hx hZ hown (host := "") (Or.inl (hw _ (List.mem_of_getElem? (i := 14) rfl))) Via.refl e0 F_minSessionTimeoutMs_a0 (g := (mkF m 2 #[.val (.ref a0), .val (.int p1)] [(.ref a0), (.int p1)])) rfl rfl (hb hby d4_2)
  refine own_back (b := T1.setTop (mkF m 5 #[.val (.ref a0), .val (.int p1)] [(.int w1), (.int p1)])) (fun t kt => ?_) ?_
  · show Steps p.tables e below (s₁.setTop (mkF m 0 #[.val (.ref a0), .val (.int p1)] [])) _
    refine XS.iloadN X0.here hx rfl (hb hby d4_0) rfl ?_
    show Steps p.tables e below (s₁.setTop (mkF m 1 #[.val (.ref a0), .val (.int p1)] [(.int p1)])) _
    refine XS.aloadN X0.here hx rfl (hb hby d4_1) rfl rfl ?_
    show Steps p.tables e below (s₁.setTop (mkF m 2 #[.val (.ref a0), .val (.int p1)] [(.ref a0), (.int p1)])) _
    refine st1 _ ?_
    exact kt
  by_cases hc5_2 : p1 < w1
  · refine own_back (b := T1.setTop (mkF m 21 #[.val (.ref a0), .val (.int p1)] [(.int (0 : Int32))])) (fun t kt => ?_) ?_
    · show Steps p.tables e below (T1.setTop (mkF m 5 #[.val (.ref a0), .val (.int p1)] [(.int w1), (.int p1)])) _
      refine XS.icmpYes X1.here hx rfl (pc0 := 5) (pc' := 20) rfl (hb hby d4_5) rfl (tlt hc5_2).1 (by decide) (by decide) ?_
      show Steps p.tables e below (T1.setTop (mkF m 20 #[.val (.ref a0), .val (.int p1)] [])) _
      refine XS.iconst X1.here hx rfl (hb hby d4_20) ?_
      exact kt
    obtain ⟨fs, hr, hrun, hended, hW, hsame⟩ := X1.leave (v := some (.int (0 : Int32))) (fun h => by rw [Bd.returns] at h; cases h)
    refine ⟨_, _, ?_, hrun, hended, _, _, rfl, ?_, ⟨_, rfl⟩, hW, hsame.mono (by decide) (by decide)⟩
    · show Steps p.tables e below (T1.setTop (mkF m 21 #[.val (.ref a0), .val (.int p1)] [(.int (0 : Int32))])) _
      exact retN X1 hx (t := .boolean) Bd.returns (by simp) (hb hby d4_21) hr
    · show Q4 Z a0 p1 w1 w2 h0 n0 _ T1.heap _
      rw [e1]
      exact ⟨by rw [show f4 p1 w1 w2 = (0 : Int32) from by unfold f4; rw [if_pos hc5_2]], N0, rfl⟩
  · obtain ⟨T3, X3, e3, st3⟩ := getF X1 hx hZ hown (host := "") (Or.inl (hw _ (List.mem_of_getElem? (i := 16) rfl))) Via.refl e1 F_maxSessionTimeoutMs_a0 (g := (mkF m 10 #[.val (.ref a0), .val (.int p1)] [(.ref a0), (.int p1)])) rfl rfl (hb hby d4_10)
    refine own_back (b := T3.setTop (mkF m 13 #[.val (.ref a0), .val (.int p1)] [(.int w2), (.int p1)])) (fun t kt => ?_) ?_
    · show Steps p.tables e below (T1.setTop (mkF m 5 #[.val (.ref a0), .val (.int p1)] [(.int w1), (.int p1)])) _
      refine XS.icmpNo X1.here hx rfl (hb hby d4_5) rfl (flt hc5_2).1 ?_
      show Steps p.tables e below (T1.setTop (mkF m 8 #[.val (.ref a0), .val (.int p1)] [])) _
      refine XS.iloadN X1.here hx rfl (hb hby d4_8) rfl ?_
      show Steps p.tables e below (T1.setTop (mkF m 9 #[.val (.ref a0), .val (.int p1)] [(.int p1)])) _
      refine XS.aloadN X1.here hx rfl (hb hby d4_9) rfl rfl ?_
      show Steps p.tables e below (T1.setTop (mkF m 10 #[.val (.ref a0), .val (.int p1)] [(.ref a0), (.int p1)])) _
      refine st3 _ ?_
      exact kt
    by_cases hc13_4 : w2 < p1
    · refine own_back (b := T3.setTop (mkF m 21 #[.val (.ref a0), .val (.int p1)] [(.int (0 : Int32))])) (fun t kt => ?_) ?_
      · show Steps p.tables e below (T3.setTop (mkF m 13 #[.val (.ref a0), .val (.int p1)] [(.int w2), (.int p1)])) _
        refine XS.icmpYes X3.here hx rfl (pc0 := 13) (pc' := 20) rfl (hb hby d4_13) rfl (tlt hc13_4).2.2.1 (by decide) (by decide) ?_
        show Steps p.tables e below (T3.setTop (mkF m 20 #[.val (.ref a0), .val (.int p1)] [])) _
        refine XS.iconst X3.here hx rfl (hb hby d4_20) ?_
        exact kt
      obtain ⟨fs, hr, hrun, hended, hW, hsame⟩ := X3.leave (v := some (.int (0 : Int32))) (fun h => by rw [Bd.returns] at h; cases h)
      refine ⟨_, _, ?_, hrun, hended, _, _, rfl, ?_, ⟨_, rfl⟩, hW, hsame.mono (by decide) (by decide)⟩
      · show Steps p.tables e below (T3.setTop (mkF m 21 #[.val (.ref a0), .val (.int p1)] [(.int (0 : Int32))])) _
        exact retN X3 hx (t := .boolean) Bd.returns (by simp) (hb hby d4_21) hr
      · show Q4 Z a0 p1 w1 w2 h0 n0 _ T3.heap _
        rw [e3]
        exact ⟨by rw [show f4 p1 w1 w2 = (0 : Int32) from by unfold f4; rw [if_neg hc5_2, if_pos hc13_4]], N0, rfl⟩
    · refine own_back (b := T3.setTop (mkF m 21 #[.val (.ref a0), .val (.int p1)] [(.int (1 : Int32))])) (fun t kt => ?_) ?_
      · show Steps p.tables e below (T3.setTop (mkF m 13 #[.val (.ref a0), .val (.int p1)] [(.int w2), (.int p1)])) _
        refine XS.icmpNo X3.here hx rfl (hb hby d4_13) rfl (flt hc13_4).2.2.1 ?_
        show Steps p.tables e below (T3.setTop (mkF m 16 #[.val (.ref a0), .val (.int p1)] [])) _
        refine XS.iconst X3.here hx rfl (hb hby d4_16) ?_
        show Steps p.tables e below (T3.setTop (mkF m 17 #[.val (.ref a0), .val (.int p1)] [(.int (1 : Int32))])) _
        refine XS.goto X3.here hx rfl (pc0 := 17) (pc' := 21) rfl (hb hby d4_17) (by decide) (by decide) ?_
        exact kt
      obtain ⟨fs, hr, hrun, hended, hW, hsame⟩ := X3.leave (v := some (.int (1 : Int32))) (fun h => by rw [Bd.returns] at h; cases h)
      refine ⟨_, _, ?_, hrun, hended, _, _, rfl, ?_, ⟨_, rfl⟩, hW, hsame.mono (by decide) (by decide)⟩
      · show Steps p.tables e below (T3.setTop (mkF m 21 #[.val (.ref a0), .val (.int p1)] [(.int (1 : Int32))])) _
        exact retN X3 hx (t := .boolean) Bd.returns (by simp) (hb hby d4_21) hr
      · show Q4 Z a0 p1 w1 w2 h0 n0 _ T3.heap _
        rw [e3]
        exact ⟨by rw [show f4 p1 w1 w2 = (1 : Int32) from by unfold f4; rw [if_neg hc5_2, if_neg hc13_4]], N0, rfl⟩
theorem d5_0 : decode jdk_29_method_65_code 0 = .ok (.iload_n 0, 1) := by decide +kernel
theorem d5_1 : decode jdk_29_method_65_code 1 = .ok (.iload_n 1, 1) := by decide +kernel
theorem d5_2 : decode jdk_29_method_65_code 2 = .ok (.if_icmp .lt 7, 3) := by decide +kernel
theorem d5_5 : decode jdk_29_method_65_code 5 = .ok (.iload_n 0, 1) := by decide +kernel
theorem d5_6 : decode jdk_29_method_65_code 6 = .ok (.goto 4, 3) := by decide +kernel
theorem d5_9 : decode jdk_29_method_65_code 9 = .ok (.iload_n 1, 1) := by decide +kernel
theorem d5_10 : decode jdk_29_method_65_code 10 = .ok (.ireturn, 1) := by decide +kernel
theorem ef_5 (m : MethodId) (x0 : Int32) (x1 : Int32) : entryFrame m #[(.int x0), (.int x1)] 2 = mkF m 0 #[.val (.int x0), .val (.int x1)] [] := by first | (simp [entryFrame, mkF, argsToLocals, Value.category]; done) | rfl
def f5 (p0 : Int32) (p1 : Int32) : Int32 := (if p0 < p1 then p1 else p0)
def Q5 (Z : State) (p0 : Int32) (p1 : Int32) (h0 : Heap) (n0 : Nat) (v : Option Value) (h : Heap) (L : List Loc) : Prop := v = some (.int (f5 p0 p1)) ∧ Fr n0 L ∧ h = h0
set_option maxRecDepth 65536 in
set_option maxHeartbeats 40000000 in
theorem rm5 (l : Launch) (Z : State) (aw : Array Value) (hw : ∀ d ∈ tables_1, d.before aw Z = true) (ws : List Jvm.Cond) (p0 : Int32) (p1 : Int32) (h0 : Heap) (n0 : Nat) (Z0 : n0 ≤ h0.size) :
    MetFree l (⟨"java/lang/Math", "max", "(II)I"⟩ : MethodName) (head1 (Jvm.Cond.code (⟨"java/lang/Math", "max", "(II)I"⟩ : MethodName) jdk_29_method_65_code 2 (some .int) :: ws) ({ frames := 0, cells := 0, slots := 0, locals := 0 } : Room)) (fun a U => a = #[(.int p0), (.int p1)] ∧ Z.Warmed39 U.vm ∧ U.heap = h0) (fun _ _ _ _ _ => True) (fun _ U o U' => ∃ v L, o = .returned v ∧ Q5 Z p0 p1 h0 n0 v U'.heap L ∧ FrameEnd U o U' L ({ frames := 0, cells := 0, slots := 0, locals := 0 } : Room).cells ({ frames := 0, cells := 0, slots := 0, locals := 0 } : Room).slots) := by
  refine MetFree.of_bodySF (Jvm.Free.JP.mathPlain rfl (by decide +kernel)) hisR ?_
  intro p e s m args below meth c s₁ Bd hml0 hP hK
  obtain ⟨rfl, hZ, hh⟩ := hP
  have hx := Bd.exec
  have hby := Bd.bytes
  have hml : c.maxLocals = 2 := hml0
  have hown : s.vm.findClass "java/lang/Math" = some m.cls := findClass_of_methodNamed Bd.named
  have hnm := (name_of_methodNamed Bd.named Bd.method).1
  have X0 : Stand p l e ({ frames := 0, cells := 0, slots := 0, locals := 0 } : Room) s m #[(.int p0), (.int p1)] below meth c s₁ [] 0 0 := Stand.of_body Bd
  have e0 : s₁.heap = h0 := by rw [← hh, Bd.state]; rfl
  have N0 := Fr.nil n0
  refine own_back (b := s₁.setTop (mkF m 0 #[.val (.int p0), .val (.int p1)] [])) (fun t kt => castTop (ef_5 m p0 p1) kt) ?_
  refine own_back (b := s₁.setTop (mkF m 2 #[.val (.int p0), .val (.int p1)] [(.int p1), (.int p0)])) (fun t kt => ?_) ?_
  · show Steps p.tables e below (s₁.setTop (mkF m 0 #[.val (.int p0), .val (.int p1)] [])) _
    refine XS.iloadN X0.here hx rfl (hb hby d5_0) rfl ?_
    show Steps p.tables e below (s₁.setTop (mkF m 1 #[.val (.int p0), .val (.int p1)] [(.int p0)])) _
    refine XS.iloadN X0.here hx rfl (hb hby d5_1) rfl ?_
    exact kt
  by_cases hc2_1 : p0 < p1
  · refine own_back (b := s₁.setTop (mkF m 10 #[.val (.int p0), .val (.int p1)] [(.int p1)])) (fun t kt => ?_) ?_
    · show Steps p.tables e below (s₁.setTop (mkF m 2 #[.val (.int p0), .val (.int p1)] [(.int p1), (.int p0)])) _
      refine XS.icmpYes X0.here hx rfl (pc0 := 2) (pc' := 9) rfl (hb hby d5_2) rfl (tlt hc2_1).1 (by decide) (by decide) ?_
      show Steps p.tables e below (s₁.setTop (mkF m 9 #[.val (.int p0), .val (.int p1)] [])) _
      refine XS.iloadN X0.here hx rfl (hb hby d5_9) rfl ?_
      exact kt
    obtain ⟨fs, hr, hrun, hended, hW, hsame⟩ := X0.leave (v := some (.int p1)) (fun h => by rw [Bd.returns] at h; cases h)
    refine ⟨_, _, ?_, hrun, hended, _, _, rfl, ?_, ⟨_, rfl⟩, hW, hsame.mono (by decide) (by decide)⟩
    · show Steps p.tables e below (s₁.setTop (mkF m 10 #[.val (.int p0), .val (.int p1)] [(.int p1)])) _
      exact retI X0 hx Bd.returns (hb hby d5_10) hr
    · show Q5 Z p0 p1 h0 n0 _ s₁.heap _
      rw [e0]
      exact ⟨by rw [show f5 p0 p1 = p1 from by unfold f5; rw [if_pos hc2_1]], N0, rfl⟩
  · refine own_back (b := s₁.setTop (mkF m 10 #[.val (.int p0), .val (.int p1)] [(.int p0)])) (fun t kt => ?_) ?_
    · show Steps p.tables e below (s₁.setTop (mkF m 2 #[.val (.int p0), .val (.int p1)] [(.int p1), (.int p0)])) _
      refine XS.icmpNo X0.here hx rfl (hb hby d5_2) rfl (flt hc2_1).1 ?_
      show Steps p.tables e below (s₁.setTop (mkF m 5 #[.val (.int p0), .val (.int p1)] [])) _
      refine XS.iloadN X0.here hx rfl (hb hby d5_5) rfl ?_
      show Steps p.tables e below (s₁.setTop (mkF m 6 #[.val (.int p0), .val (.int p1)] [(.int p0)])) _
      refine XS.goto X0.here hx rfl (pc0 := 6) (pc' := 10) rfl (hb hby d5_6) (by decide) (by decide) ?_
      exact kt
    obtain ⟨fs, hr, hrun, hended, hW, hsame⟩ := X0.leave (v := some (.int p0)) (fun h => by rw [Bd.returns] at h; cases h)
    refine ⟨_, _, ?_, hrun, hended, _, _, rfl, ?_, ⟨_, rfl⟩, hW, hsame.mono (by decide) (by decide)⟩
    · show Steps p.tables e below (s₁.setTop (mkF m 10 #[.val (.int p0), .val (.int p1)] [(.int p0)])) _
      exact retI X0 hx Bd.returns (hb hby d5_10) hr
    · show Q5 Z p0 p1 h0 n0 _ s₁.heap _
      rw [e0]
      exact ⟨by rw [show f5 p0 p1 = p0 from by unfold f5; rw [if_neg hc2_1]], N0, rfl⟩
theorem d6_0 : decode jdk_29_method_69_code 0 = .ok (.iload_n 0, 1) := by decide +kernel
theorem d6_1 : decode jdk_29_method_69_code 1 = .ok (.iload_n 1, 1) := by decide +kernel
theorem d6_2 : decode jdk_29_method_69_code 2 = .ok (.if_icmp .gt 7, 3) := by decide +kernel
theorem d6_5 : decode jdk_29_method_69_code 5 = .ok (.iload_n 0, 1) := by decide +kernel
theorem d6_6 : decode jdk_29_method_69_code 6 = .ok (.goto 4, 3) := by decide +kernel
theorem d6_9 : decode jdk_29_method_69_code 9 = .ok (.iload_n 1, 1) := by decide +kernel
theorem d6_10 : decode jdk_29_method_69_code 10 = .ok (.ireturn, 1) := by decide +kernel
theorem ef_6 (m : MethodId) (x0 : Int32) (x1 : Int32) : entryFrame m #[(.int x0), (.int x1)] 2 = mkF m 0 #[.val (.int x0), .val (.int x1)] [] := by first | (simp [entryFrame, mkF, argsToLocals, Value.category]; done) | rfl
def f6 (p0 : Int32) (p1 : Int32) : Int32 := (if p1 < p0 then p1 else p0)
def Q6 (Z : State) (p0 : Int32) (p1 : Int32) (h0 : Heap) (n0 : Nat) (v : Option Value) (h : Heap) (L : List Loc) : Prop := v = some (.int (f6 p0 p1)) ∧ Fr n0 L ∧ h = h0
set_option maxRecDepth 65536 in
set_option maxHeartbeats 40000000 in
theorem rm6 (l : Launch) (Z : State) (aw : Array Value) (hw : ∀ d ∈ tables_1, d.before aw Z = true) (ws : List Jvm.Cond) (p0 : Int32) (p1 : Int32) (h0 : Heap) (n0 : Nat) (Z0 : n0 ≤ h0.size) :
    MetFree l (⟨"java/lang/Math", "min", "(II)I"⟩ : MethodName) (head1 (Jvm.Cond.code (⟨"java/lang/Math", "min", "(II)I"⟩ : MethodName) jdk_29_method_69_code 2 (some .int) :: ws) ({ frames := 0, cells := 0, slots := 0, locals := 0 } : Room)) (fun a U => a = #[(.int p0), (.int p1)] ∧ Z.Warmed39 U.vm ∧ U.heap = h0) (fun _ _ _ _ _ => True) (fun _ U o U' => ∃ v L, o = .returned v ∧ Q6 Z p0 p1 h0 n0 v U'.heap L ∧ FrameEnd U o U' L ({ frames := 0, cells := 0, slots := 0, locals := 0 } : Room).cells ({ frames := 0, cells := 0, slots := 0, locals := 0 } : Room).slots) := by
  refine MetFree.of_bodySF (Jvm.Free.JP.mathPlain rfl (by decide +kernel)) hisR ?_
  intro p e s m args below meth c s₁ Bd hml0 hP hK
  obtain ⟨rfl, hZ, hh⟩ := hP
  have hx := Bd.exec
  have hby := Bd.bytes
  have hml : c.maxLocals = 2 := hml0
  have hown : s.vm.findClass "java/lang/Math" = some m.cls := findClass_of_methodNamed Bd.named
  have hnm := (name_of_methodNamed Bd.named Bd.method).1
  have X0 : Stand p l e ({ frames := 0, cells := 0, slots := 0, locals := 0 } : Room) s m #[(.int p0), (.int p1)] below meth c s₁ [] 0 0 := Stand.of_body Bd
  have e0 : s₁.heap = h0 := by rw [← hh, Bd.state]; rfl
  have N0 := Fr.nil n0
  refine own_back (b := s₁.setTop (mkF m 0 #[.val (.int p0), .val (.int p1)] [])) (fun t kt => castTop (ef_6 m p0 p1) kt) ?_
  refine own_back (b := s₁.setTop (mkF m 2 #[.val (.int p0), .val (.int p1)] [(.int p1), (.int p0)])) (fun t kt => ?_) ?_
  · show Steps p.tables e below (s₁.setTop (mkF m 0 #[.val (.int p0), .val (.int p1)] [])) _
    refine XS.iloadN X0.here hx rfl (hb hby d6_0) rfl ?_
    show Steps p.tables e below (s₁.setTop (mkF m 1 #[.val (.int p0), .val (.int p1)] [(.int p0)])) _
    refine XS.iloadN X0.here hx rfl (hb hby d6_1) rfl ?_
    exact kt
  by_cases hc2_1 : p1 < p0
  · refine own_back (b := s₁.setTop (mkF m 10 #[.val (.int p0), .val (.int p1)] [(.int p1)])) (fun t kt => ?_) ?_
    · show Steps p.tables e below (s₁.setTop (mkF m 2 #[.val (.int p0), .val (.int p1)] [(.int p1), (.int p0)])) _
      refine XS.icmpYes X0.here hx rfl (pc0 := 2) (pc' := 9) rfl (hb hby d6_2) rfl (tlt hc2_1).2.2.1 (by decide) (by decide) ?_
      show Steps p.tables e below (s₁.setTop (mkF m 9 #[.val (.int p0), .val (.int p1)] [])) _
      refine XS.iloadN X0.here hx rfl (hb hby d6_9) rfl ?_
      exact kt
    obtain ⟨fs, hr, hrun, hended, hW, hsame⟩ := X0.leave (v := some (.int p1)) (fun h => by rw [Bd.returns] at h; cases h)
    refine ⟨_, _, ?_, hrun, hended, _, _, rfl, ?_, ⟨_, rfl⟩, hW, hsame.mono (by decide) (by decide)⟩
    · show Steps p.tables e below (s₁.setTop (mkF m 10 #[.val (.int p0), .val (.int p1)] [(.int p1)])) _
      exact retI X0 hx Bd.returns (hb hby d6_10) hr
    · show Q6 Z p0 p1 h0 n0 _ s₁.heap _
      rw [e0]
      exact ⟨by rw [show f6 p0 p1 = p1 from by unfold f6; rw [if_pos hc2_1]], N0, rfl⟩
  · refine own_back (b := s₁.setTop (mkF m 10 #[.val (.int p0), .val (.int p1)] [(.int p0)])) (fun t kt => ?_) ?_
    · show Steps p.tables e below (s₁.setTop (mkF m 2 #[.val (.int p0), .val (.int p1)] [(.int p1), (.int p0)])) _
      refine XS.icmpNo X0.here hx rfl (hb hby d6_2) rfl (flt hc2_1).2.2.1 ?_
      show Steps p.tables e below (s₁.setTop (mkF m 5 #[.val (.int p0), .val (.int p1)] [])) _
      refine XS.iloadN X0.here hx rfl (hb hby d6_5) rfl ?_
      show Steps p.tables e below (s₁.setTop (mkF m 6 #[.val (.int p0), .val (.int p1)] [(.int p0)])) _
      refine XS.goto X0.here hx rfl (pc0 := 6) (pc' := 10) rfl (hb hby d6_6) (by decide) (by decide) ?_
      exact kt
    obtain ⟨fs, hr, hrun, hended, hW, hsame⟩ := X0.leave (v := some (.int p0)) (fun h => by rw [Bd.returns] at h; cases h)
    refine ⟨_, _, ?_, hrun, hended, _, _, rfl, ?_, ⟨_, rfl⟩, hW, hsame.mono (by decide) (by decide)⟩
    · show Steps p.tables e below (s₁.setTop (mkF m 10 #[.val (.int p0), .val (.int p1)] [(.int p0)])) _
      exact retI X0 hx Bd.returns (hb hby d6_10) hr
    · show Q6 Z p0 p1 h0 n0 _ s₁.heap _
      rw [e0]
      exact ⟨by rw [show f6 p0 p1 = p0 from by unfold f6; rw [if_neg hc2_1]], N0, rfl⟩
theorem pn_0 : plainName "com/example/keptlog/keptlog/server/GroupPolicyAllowsSessionTimeoutPinLaw" = true := by first | (simp [plainName, overriddenIn]; done) | decide +kernel
theorem pd_0_0 : parseMethodDescriptor "(IIII)V" = some ⟨[.int, .int, .int, .int], none⟩ := by decide +kernel
theorem pd_0_1 : parseMethodDescriptor "(I)Z" = some ⟨[.int], some .boolean⟩ := by decide +kernel
theorem pd_0_2 : parseMethodDescriptor "(II)I" = some ⟨[.int, .int], some .int⟩ := by decide +kernel
theorem ef_0 (m : MethodId) (x0 : Int32) (x1 : Int32) (x2 : Int32) : entryFrame m #[(.int x0), (.int x1), (.int x2)] maxLocals = mkF m 0 #[.val (.int x0), .val (.int x1), .val (.int x2), .unset, .unset, .unset, .unset] [] := by first | (simp [entryFrame, mkF, argsToLocals, Value.category, maxLocals]; done) | rfl
def f0 (p0 : Int32) (p1 : Int32) (p2 : Int32) : Int32 := (if p1 < p0 then (if (f4 p2 p0 p1) = (0 : Int32) then (if (f4 p0 p0 p1) = (0 : Int32) then (if (f4 p1 p0 p1) = (0 : Int32) then (if p0 = (-2147483648 : Int32) then (if p1 = (2147483647 : Int32) then (1 : Int32) else (if (f4 (p1 + (1 : Int32)) p0 p1) = (0 : Int32) then (1 : Int32) else (0 : Int32))) else (if (f4 (p0 - (1 : Int32)) p0 p1) = (0 : Int32) then (if p1 = (2147483647 : Int32) then (1 : Int32) else (if (f4 (p1 + (1 : Int32)) p0 p1) = (0 : Int32) then (1 : Int32) else (0 : Int32))) else (0 : Int32))) else (0 : Int32)) else (0 : Int32)) else (0 : Int32)) else (if (f6 (f5 p2 p0) p1) = p2 then (if (f4 p2 p0 p1) = (1 : Int32) then (if (f4 p0 p0 p1) = (1 : Int32) then (if (f4 p1 p0 p1) = (1 : Int32) then (if p0 = (-2147483648 : Int32) then (if p1 = (2147483647 : Int32) then (1 : Int32) else (if (f4 (p1 + (1 : Int32)) p0 p1) = (0 : Int32) then (1 : Int32) else (0 : Int32))) else (if (f4 (p0 - (1 : Int32)) p0 p1) = (0 : Int32) then (if p1 = (2147483647 : Int32) then (1 : Int32) else (if (f4 (p1 + (1 : Int32)) p0 p1) = (0 : Int32) then (1 : Int32) else (0 : Int32))) else (0 : Int32))) else (0 : Int32)) else (0 : Int32)) else (0 : Int32)) else (if (f4 p2 p0 p1) = (0 : Int32) then (if (f4 p0 p0 p1) = (1 : Int32) then (if (f4 p1 p0 p1) = (1 : Int32) then (if p0 = (-2147483648 : Int32) then (if p1 = (2147483647 : Int32) then (1 : Int32) else (if (f4 (p1 + (1 : Int32)) p0 p1) = (0 : Int32) then (1 : Int32) else (0 : Int32))) else (if (f4 (p0 - (1 : Int32)) p0 p1) = (0 : Int32) then (if p1 = (2147483647 : Int32) then (1 : Int32) else (if (f4 (p1 + (1 : Int32)) p0 p1) = (0 : Int32) then (1 : Int32) else (0 : Int32))) else (0 : Int32))) else (0 : Int32)) else (0 : Int32)) else (0 : Int32))))
def Q0 (Z : State) (p0 : Int32) (p1 : Int32) (p2 : Int32) (h0 : Heap) (n0 : Nat) (v : Option Value) (h : Heap) (L : List Loc) : Prop := v = some (.int (f0 p0 p1 p2)) ∧ Fr n0 L
set_option maxRecDepth 65536 in
set_option maxHeartbeats 40000000 in
theorem rm0 (l : Launch) (Z : State) (aw : Array Value) (hw : ∀ d ∈ tables_1, d.before aw Z = true) (ws : List Jvm.Cond) (p0 : Int32) (p1 : Int32) (p2 : Int32) (h0 : Heap) (n0 : Nat) (Z0 : n0 ≤ h0.size) :
    MetFree l x (head1 (Jvm.Cond.code x code maxLocals ret :: ws) room_1) (fun a U => a = #[(.int p0), (.int p1), (.int p2)] ∧ Z.Warmed39 U.vm ∧ U.heap = h0) (fun _ _ _ _ _ => True) (fun _ U o U' => ∃ v L, o = .returned v ∧ Q0 Z p0 p1 p2 h0 n0 v U'.heap L ∧ FrameEnd U o U' L room_1.cells room_1.slots) := by
  refine MetFree.of_bodySF (plainFor_of_name pn_0) hisR ?_
  intro p e s m args below meth c s₁ Bd hml0 hP hK
  obtain ⟨rfl, hZ, hh⟩ := hP
  have hx := Bd.exec
  have hby := Bd.bytes
  have hml : c.maxLocals = 7 := hml0
  have hown : s.vm.findClass "com/example/keptlog/keptlog/server/GroupPolicyAllowsSessionTimeoutPinLaw" = some m.cls := findClass_of_methodNamed Bd.named
  have hnm := (name_of_methodNamed Bd.named Bd.method).1
  have X0 : Stand p l e room_1 s m #[(.int p0), (.int p1), (.int p2)] below meth c s₁ [] 0 0 := Stand.of_body Bd
  have e0 : s₁.heap = h0 := by rw [← hh, Bd.state]; rfl
  have N0 := Fr.nil n0
  refine own_back (b := s₁.setTop (mkF m 0 #[.val (.int p0), .val (.int p1), .val (.int p2), .unset, .unset, .unset, .unset] [])) (fun t kt => castTop (ef_0 m p0 p1 p2) kt) ?_
  obtain ⟨T1, h1, X1, e1, E1, A1, D1, -, st1⟩ := newO X0 hx hZ hown (hw _ (List.mem_of_getElem? (i := 0) rfl)) (hw _ (List.mem_of_getElem? (i := 1) rfl)) (hw _ (List.mem_of_getElem? (i := 2) rfl)) e0 (g := (mkF m 0 #[.val (.int p0), .val (.int p1), .val (.int p2), .unset, .unset, .unset, .unset] [])) rfl (hb hby at_0) (by decide) (by decide)
  obtain ⟨b1, g1⟩ : ∃ z, z = h0.size := ⟨_, rfl⟩
  rw [← g1] at A1 D1 st1
  have lo1 : n0 ≤ b1 := Nat.le_trans Z0 (Nat.le_of_eq g1.symm)
  have sz1 : h0.size ≤ b1 := Nat.le_trans (Nat.le_refl _) (Nat.le_of_eq g1.symm)
  have K1 : Keep h0 h1 [] := (Keep.refl h0 _).ext E1
  have Z1 : n0 ≤ h1.size := Nat.le_trans Z0 E1.1
  have F1_minSessionTimeoutMs : Fld Z h1 b1 "com/example/keptlog/keptlog/server/GroupPolicy" "minSessionTimeoutMs" "I" (.int (0 : Int32)) := D1 (Or.inr (hw _ (List.mem_of_getElem? (i := 15) rfl))) (ty := .int) (by decide)
  have F1_maxSessionTimeoutMs : Fld Z h1 b1 "com/example/keptlog/keptlog/server/GroupPolicy" "maxSessionTimeoutMs" "I" (.int (0 : Int32)) := D1 (Or.inr (hw _ (List.mem_of_getElem? (i := 17) rfl))) (ty := .int) (by decide)
  have F1_initialRebalanceDelayMs : Fld Z h1 b1 "com/example/keptlog/keptlog/server/GroupPolicy" "initialRebalanceDelayMs" "I" (.int (0 : Int32)) := D1 (Or.inr (hw _ (List.mem_of_getElem? (i := 19) rfl))) (ty := .int) (by decide)
  have F1_offsetsTopicPartitions : Fld Z h1 b1 "com/example/keptlog/keptlog/server/GroupPolicy" "offsetsTopicPartitions" "I" (.int (0 : Int32)) := D1 (Or.inr (hw _ (List.mem_of_getElem? (i := 21) rfl))) (ty := .int) (by decide)
  obtain ⟨_, _, ⟨T2, L2, k2, n2⟩, -, X2, ⟨Lc2, hQ2, l2, y2, z2⟩, st2⟩ := X1.specialBack hx (y := (⟨"com/example/keptlog/keptlog/server/GroupPolicy", "<init>", "(IIII)V"⟩ : MethodName)) rfl hown (mvT hZ (hw _ (List.mem_of_getElem? (i := 3) rfl))) (mvT hZ (hw _ (List.mem_of_getElem? (i := 4) rfl))) (mvT hZ (hw _ (List.mem_of_getElem? (i := 5) rfl))) (by decide) (backOf (W := 1) (rm1 l Z aw hw [] b1 p0 p1 (0 : Int32) (1 : Int32) h1 n0 Z1 F1_minSessionTimeoutMs F1_maxSessionTimeoutMs F1_initialRebalanceDelayMs F1_offsetsTopicPartitions A1 lo1) hZ (hw _ (List.mem_of_getElem? (i := 5) rfl)) (hw _ (List.mem_of_getElem? (i := 2) rfl)) (by decide) (by decide)) (g := (mkF m 8 #[.val (.int p0), .val (.int p1), .val (.int p2), .unset, .unset, .unset, .unset] [(.int (1 : Int32)), (.int (0 : Int32)), (.int p1), (.int p0), (.ref b1), (.ref b1)])) rfl (by rw [hml]; rfl) (Steps.refl _) (a := b1) (argsL := [(.int p0), (.int p1), (.int (0 : Int32)), (.int (1 : Int32))]) (rest := [(.ref b1)]) (lenOf pd_0_0 rfl) rfl (by show 2 * 0 + _ ≤ _; exact Nat.le_of_eq rfl) (hb hby at_8) (fun _ _ => ⟨rfl, e1, (by decide : 1 + 0 ≤ _), (by decide : 4 + 0 ≤ _)⟩)
  dsimp only [Pt.U, Pt.locs, Pt.cells, Pt.slots] at X2 l2 y2 z2 st2 hQ2
  subst l2 y2 z2
  obtain ⟨rfl, Nq2, Kq2, P2_0, P2_1, P2_2, P2_3, P2_4⟩ := hQ2
  have N2 := Fr.app N0 Nq2
  have K2 : Keep h0 T2.heap [] := K1.trans Kq2 (allS (Or.inr sz1) all0)
  have Z2 : n0 ≤ T2.heap.size := Nat.le_trans Z1 Kq2.1
  obtain ⟨cq3, kq3, q3a, q3b, q3c⟩ := isOf hZ rfl P2_0
  obtain ⟨_, _, ⟨T3, L3, k3, n3⟩, -, X3, ⟨Lc3, hQ3, l3, y3, z3⟩, st3⟩ := X2.virtualBack hx (y := (⟨"com/example/keptlog/keptlog/server/GroupPolicy", "allowsSessionTimeout", "(I)Z"⟩ : MethodName)) (z := (⟨"com/example/keptlog/keptlog/server/GroupPolicy", "allowsSessionTimeout", "(I)Z"⟩ : MethodName)) hown (mvT hZ (hw _ (List.mem_of_getElem? (i := 22) rfl))) (mvT hZ (hw _ (List.mem_of_getElem? (i := 23) rfl))) (notFace_of_selects (args := #[]) (mvT hZ (hw _ (List.mem_of_getElem? (i := 25) rfl)))) (mvT hZ (hw _ (List.mem_of_getElem? (i := 25) rfl))) (mvT hZ (hw _ (List.mem_of_getElem? (i := 24) rfl))) (by decide) (backOf (W := 0) (rm4 l Z aw hw [] b1 p2 p0 p1 T2.heap n0 Z2 P2_1 P2_2) hZ (hw _ (List.mem_of_getElem? (i := 26) rfl)) (hw _ (List.mem_of_getElem? (i := 2) rfl)) (by decide) (by decide)) q3a q3c (g := (mkF m 14 #[.val (.int p0), .val (.int p1), .val (.int p2), .val (.ref b1), .unset, .unset, .unset] [(.int p2), (.ref b1)])) rfl (by rw [hml]; rfl) (Steps.refl _) (argsL := [(.int p2)]) (rest := []) (lenOf pd_0_1 rfl) rfl (by show 2 * 0 + _ ≤ _; exact Nat.le_of_eq rfl) (hb hby at_14) (fun _ _ => ⟨rfl, rfl, (by decide : 1 + 0 ≤ _), (by decide : 4 + 0 ≤ _)⟩)
  dsimp only [Pt.U, Pt.locs, Pt.cells, Pt.slots] at X3 l3 y3 z3 st3 hQ3
  subst l3 y3 z3
  obtain ⟨rfl, Nq3, e3⟩ := hQ3
  have N3 := Fr.app N2 Nq3
  refine own_back (b := T3.setTop (mkF m 21 #[.val (.int p0), .val (.int p1), .val (.int p2), .val (.ref b1), .val (.int (f4 p2 p0 p1)), .unset, .unset] [(.int p1), (.int p0)])) (fun t kt => ?_) ?_
  · show Steps p.tables e below (s₁.setTop (mkF m 0 #[.val (.int p0), .val (.int p1), .val (.int p2), .unset, .unset, .unset, .unset] [])) _
    refine st1 _ ?_
    show Steps p.tables e below (T1.setTop (mkF m 3 #[.val (.int p0), .val (.int p1), .val (.int p2), .unset, .unset, .unset, .unset] [(.ref b1)])) _
    refine XS.dup X1.here hx rfl (hb hby at_3) rfl rfl ?_
    show Steps p.tables e below (T1.setTop (mkF m 4 #[.val (.int p0), .val (.int p1), .val (.int p2), .unset, .unset, .unset, .unset] [(.ref b1), (.ref b1)])) _
    refine XS.iloadN X1.here hx rfl (hb hby at_4) rfl ?_
    show Steps p.tables e below (T1.setTop (mkF m 5 #[.val (.int p0), .val (.int p1), .val (.int p2), .unset, .unset, .unset, .unset] [(.int p0), (.ref b1), (.ref b1)])) _
    refine XS.iloadN X1.here hx rfl (hb hby at_5) rfl ?_
    show Steps p.tables e below (T1.setTop (mkF m 6 #[.val (.int p0), .val (.int p1), .val (.int p2), .unset, .unset, .unset, .unset] [(.int p1), (.int p0), (.ref b1), (.ref b1)])) _
    refine XS.iconst X1.here hx rfl (hb hby at_6) ?_
    show Steps p.tables e below (T1.setTop (mkF m 7 #[.val (.int p0), .val (.int p1), .val (.int p2), .unset, .unset, .unset, .unset] [(.int (0 : Int32)), (.int p1), (.int p0), (.ref b1), (.ref b1)])) _
    refine XS.iconst X1.here hx rfl (hb hby at_7) ?_
    show Steps p.tables e below (T1.setTop (mkF m 8 #[.val (.int p0), .val (.int p1), .val (.int p2), .unset, .unset, .unset, .unset] [(.int (1 : Int32)), (.int (0 : Int32)), (.int p1), (.int p0), (.ref b1), (.ref b1)])) _
    refine st2.trans ?_
    show Steps p.tables e below (T2.setTop (mkF m 11 #[.val (.int p0), .val (.int p1), .val (.int p2), .unset, .unset, .unset, .unset] [(.ref b1)])) _
    refine XS.astoreN X2.here hx rfl (hb hby at_11) rfl rfl (l' := #[.val (.int p0), .val (.int p1), .val (.int p2), .val (.ref b1), .unset, .unset, .unset]) rfl ?_
    show Steps p.tables e below (T2.setTop (mkF m 12 #[.val (.int p0), .val (.int p1), .val (.int p2), .val (.ref b1), .unset, .unset, .unset] [])) _
    refine XS.aloadN X2.here hx rfl (hb hby at_12) rfl rfl ?_
    show Steps p.tables e below (T2.setTop (mkF m 13 #[.val (.int p0), .val (.int p1), .val (.int p2), .val (.ref b1), .unset, .unset, .unset] [(.ref b1)])) _
    refine XS.iloadN X2.here hx rfl (hb hby at_13) rfl ?_
    show Steps p.tables e below (T2.setTop (mkF m 14 #[.val (.int p0), .val (.int p1), .val (.int p2), .val (.ref b1), .unset, .unset, .unset] [(.int p2), (.ref b1)])) _
    refine st3.trans ?_
    show Steps p.tables e below (T3.setTop (mkF m 17 #[.val (.int p0), .val (.int p1), .val (.int p2), .val (.ref b1), .unset, .unset, .unset] [(.int (f4 p2 p0 p1))])) _
    refine XS.istore X3.here hx rfl (hb hby at_17) rfl (l' := #[.val (.int p0), .val (.int p1), .val (.int p2), .val (.ref b1), .val (.int (f4 p2 p0 p1)), .unset, .unset]) rfl ?_
    show Steps p.tables e below (T3.setTop (mkF m 19 #[.val (.int p0), .val (.int p1), .val (.int p2), .val (.ref b1), .val (.int (f4 p2 p0 p1)), .unset, .unset] [])) _
    refine XS.iloadN X3.here hx rfl (hb hby at_19) rfl ?_
    show Steps p.tables e below (T3.setTop (mkF m 20 #[.val (.int p0), .val (.int p1), .val (.int p2), .val (.ref b1), .val (.int (f4 p2 p0 p1)), .unset, .unset] [(.int p0)])) _
    refine XS.iloadN X3.here hx rfl (hb hby at_20) rfl ?_
    exact kt
  by_cases hc21_4 : p1 < p0
  · refine own_back (b := T3.setTop (mkF m 66 #[.val (.int p0), .val (.int p1), .val (.int p2), .val (.ref b1), .val (.int (f4 p2 p0 p1)), .val (.int (0 : Int32)), .val (.int (0 : Int32))] [(.int (0 : Int32)), (.int (f4 p2 p0 p1))])) (fun t kt => ?_) ?_
    · show Steps p.tables e below (T3.setTop (mkF m 21 #[.val (.int p0), .val (.int p1), .val (.int p2), .val (.ref b1), .val (.int (f4 p2 p0 p1)), .unset, .unset] [(.int p1), (.int p0)])) _
      refine XS.icmpYes X3.here hx rfl (pc0 := 21) (pc' := 28) rfl (hb hby at_21) rfl (tlt hc21_4).2.2.1 (by decide) (by decide) ?_
      show Steps p.tables e below (T3.setTop (mkF m 28 #[.val (.int p0), .val (.int p1), .val (.int p2), .val (.ref b1), .val (.int (f4 p2 p0 p1)), .unset, .unset] [])) _
      refine XS.iconst X3.here hx rfl (hb hby at_28) ?_
      show Steps p.tables e below (T3.setTop (mkF m 29 #[.val (.int p0), .val (.int p1), .val (.int p2), .val (.ref b1), .val (.int (f4 p2 p0 p1)), .unset, .unset] [(.int (0 : Int32))])) _
      refine XS.istore X3.here hx rfl (hb hby at_29) rfl (l' := #[.val (.int p0), .val (.int p1), .val (.int p2), .val (.ref b1), .val (.int (f4 p2 p0 p1)), .val (.int (0 : Int32)), .unset]) rfl ?_
      show Steps p.tables e below (T3.setTop (mkF m 31 #[.val (.int p0), .val (.int p1), .val (.int p2), .val (.ref b1), .val (.int (f4 p2 p0 p1)), .val (.int (0 : Int32)), .unset] [])) _
      refine XS.iload X3.here hx rfl (hb hby at_31) rfl ?_
      show Steps p.tables e below (T3.setTop (mkF m 33 #[.val (.int p0), .val (.int p1), .val (.int p2), .val (.ref b1), .val (.int (f4 p2 p0 p1)), .val (.int (0 : Int32)), .unset] [(.int (0 : Int32))])) _
      refine XS.ifNo X3.here hx rfl (hb hby at_33) rfl ((if0 _ _).trans (teq (by decide : (0 : Int32) = (0 : Int32))).2) ?_
      show Steps p.tables e below (T3.setTop (mkF m 36 #[.val (.int p0), .val (.int p1), .val (.int p2), .val (.ref b1), .val (.int (f4 p2 p0 p1)), .val (.int (0 : Int32)), .unset] [])) _
      refine XS.iconst X3.here hx rfl (hb hby at_36) ?_
      show Steps p.tables e below (T3.setTop (mkF m 37 #[.val (.int p0), .val (.int p1), .val (.int p2), .val (.ref b1), .val (.int (f4 p2 p0 p1)), .val (.int (0 : Int32)), .unset] [(.int (0 : Int32))])) _
      refine XS.istore X3.here hx rfl (hb hby at_37) rfl (l' := #[.val (.int p0), .val (.int p1), .val (.int p2), .val (.ref b1), .val (.int (f4 p2 p0 p1)), .val (.int (0 : Int32)), .val (.int (0 : Int32))]) rfl ?_
      show Steps p.tables e below (T3.setTop (mkF m 39 #[.val (.int p0), .val (.int p1), .val (.int p2), .val (.ref b1), .val (.int (f4 p2 p0 p1)), .val (.int (0 : Int32)), .val (.int (0 : Int32))] [])) _
      refine XS.goto X3.here hx rfl (pc0 := 39) (pc' := 62) rfl (hb hby at_39) (by decide) (by decide) ?_
      show Steps p.tables e below (T3.setTop (mkF m 62 #[.val (.int p0), .val (.int p1), .val (.int p2), .val (.ref b1), .val (.int (f4 p2 p0 p1)), .val (.int (0 : Int32)), .val (.int (0 : Int32))] [])) _
      refine XS.iload X3.here hx rfl (hb hby at_62) rfl ?_
      show Steps p.tables e below (T3.setTop (mkF m 64 #[.val (.int p0), .val (.int p1), .val (.int p2), .val (.ref b1), .val (.int (f4 p2 p0 p1)), .val (.int (0 : Int32)), .val (.int (0 : Int32))] [(.int (f4 p2 p0 p1))])) _
      refine XS.iload X3.here hx rfl (hb hby at_64) rfl ?_
      exact kt
    by_cases hc66_5 : (f4 p2 p0 p1) = (0 : Int32)
    · obtain ⟨cq6, kq6, q6a, q6b, q6c⟩ := isOf hZ e3 P2_0
      obtain ⟨_, _, ⟨T6, L6, k6, n6⟩, -, X6, ⟨Lc6, hQ6, l6, y6, z6⟩, st6⟩ := X3.virtualBack hx (y := (⟨"com/example/keptlog/keptlog/server/GroupPolicy", "allowsSessionTimeout", "(I)Z"⟩ : MethodName)) (z := (⟨"com/example/keptlog/keptlog/server/GroupPolicy", "allowsSessionTimeout", "(I)Z"⟩ : MethodName)) hown (mvT hZ (hw _ (List.mem_of_getElem? (i := 22) rfl))) (mvT hZ (hw _ (List.mem_of_getElem? (i := 23) rfl))) (notFace_of_selects (args := #[]) (mvT hZ (hw _ (List.mem_of_getElem? (i := 25) rfl)))) (mvT hZ (hw _ (List.mem_of_getElem? (i := 25) rfl))) (mvT hZ (hw _ (List.mem_of_getElem? (i := 24) rfl))) (by decide) (backOf (W := 0) (rm4 l Z aw hw [] b1 p0 p0 p1 T2.heap n0 Z2 P2_1 P2_2) hZ (hw _ (List.mem_of_getElem? (i := 26) rfl)) (hw _ (List.mem_of_getElem? (i := 2) rfl)) (by decide) (by decide)) q6a q6c (g := (mkF m 73 #[.val (.int p0), .val (.int p1), .val (.int p2), .val (.ref b1), .val (.int (f4 p2 p0 p1)), .val (.int (0 : Int32)), .val (.int (0 : Int32))] [(.int p0), (.ref b1)])) rfl (by rw [hml]; rfl) (Steps.refl _) (argsL := [(.int p0)]) (rest := []) (lenOf pd_0_1 rfl) rfl (by show 2 * 0 + _ ≤ _; exact Nat.le_of_eq rfl) (hb hby at_73) (fun _ _ => ⟨rfl, e3, (by decide : 1 + 0 ≤ _), (by decide : 4 + 0 ≤ _)⟩)
      dsimp only [Pt.U, Pt.locs, Pt.cells, Pt.slots] at X6 l6 y6 z6 st6 hQ6
      subst l6 y6 z6
      obtain ⟨rfl, Nq6, e6⟩ := hQ6
      have N6 := Fr.app N3 Nq6
      refine own_back (b := T6.setTop (mkF m 78 #[.val (.int p0), .val (.int p1), .val (.int p2), .val (.ref b1), .val (.int (f4 p2 p0 p1)), .val (.int (0 : Int32)), .val (.int (0 : Int32))] [(.int (0 : Int32)), (.int (f4 p0 p0 p1))])) (fun t kt => ?_) ?_
      · show Steps p.tables e below (T3.setTop (mkF m 66 #[.val (.int p0), .val (.int p1), .val (.int p2), .val (.ref b1), .val (.int (f4 p2 p0 p1)), .val (.int (0 : Int32)), .val (.int (0 : Int32))] [(.int (0 : Int32)), (.int (f4 p2 p0 p1))])) _
        refine XS.icmpYes X3.here hx rfl (pc0 := 66) (pc' := 71) rfl (hb hby at_66) rfl (teq hc66_5).1 (by decide) (by decide) ?_
        show Steps p.tables e below (T3.setTop (mkF m 71 #[.val (.int p0), .val (.int p1), .val (.int p2), .val (.ref b1), .val (.int (f4 p2 p0 p1)), .val (.int (0 : Int32)), .val (.int (0 : Int32))] [])) _
        refine XS.aloadN X3.here hx rfl (hb hby at_71) rfl rfl ?_
        show Steps p.tables e below (T3.setTop (mkF m 72 #[.val (.int p0), .val (.int p1), .val (.int p2), .val (.ref b1), .val (.int (f4 p2 p0 p1)), .val (.int (0 : Int32)), .val (.int (0 : Int32))] [(.ref b1)])) _
        refine XS.iloadN X3.here hx rfl (hb hby at_72) rfl ?_
        show Steps p.tables e below (T3.setTop (mkF m 73 #[.val (.int p0), .val (.int p1), .val (.int p2), .val (.ref b1), .val (.int (f4 p2 p0 p1)), .val (.int (0 : Int32)), .val (.int (0 : Int32))] [(.int p0), (.ref b1)])) _
        refine st6.trans ?_
        show Steps p.tables e below (T6.setTop (mkF m 76 #[.val (.int p0), .val (.int p1), .val (.int p2), .val (.ref b1), .val (.int (f4 p2 p0 p1)), .val (.int (0 : Int32)), .val (.int (0 : Int32))] [(.int (f4 p0 p0 p1))])) _
        refine XS.iload X6.here hx rfl (hb hby at_76) rfl ?_
        exact kt
      by_cases hc78_7 : (f4 p0 p0 p1) = (0 : Int32)
      · obtain ⟨cq8, kq8, q8a, q8b, q8c⟩ := isOf hZ e6 P2_0
        obtain ⟨_, _, ⟨T8, L8, k8, n8⟩, -, X8, ⟨Lc8, hQ8, l8, y8, z8⟩, st8⟩ := X6.virtualBack hx (y := (⟨"com/example/keptlog/keptlog/server/GroupPolicy", "allowsSessionTimeout", "(I)Z"⟩ : MethodName)) (z := (⟨"com/example/keptlog/keptlog/server/GroupPolicy", "allowsSessionTimeout", "(I)Z"⟩ : MethodName)) hown (mvT hZ (hw _ (List.mem_of_getElem? (i := 22) rfl))) (mvT hZ (hw _ (List.mem_of_getElem? (i := 23) rfl))) (notFace_of_selects (args := #[]) (mvT hZ (hw _ (List.mem_of_getElem? (i := 25) rfl)))) (mvT hZ (hw _ (List.mem_of_getElem? (i := 25) rfl))) (mvT hZ (hw _ (List.mem_of_getElem? (i := 24) rfl))) (by decide) (backOf (W := 0) (rm4 l Z aw hw [] b1 p1 p0 p1 T2.heap n0 Z2 P2_1 P2_2) hZ (hw _ (List.mem_of_getElem? (i := 26) rfl)) (hw _ (List.mem_of_getElem? (i := 2) rfl)) (by decide) (by decide)) q8a q8c (g := (mkF m 85 #[.val (.int p0), .val (.int p1), .val (.int p2), .val (.ref b1), .val (.int (f4 p2 p0 p1)), .val (.int (0 : Int32)), .val (.int (0 : Int32))] [(.int p1), (.ref b1)])) rfl (by rw [hml]; rfl) (Steps.refl _) (argsL := [(.int p1)]) (rest := []) (lenOf pd_0_1 rfl) rfl (by show 2 * 0 + _ ≤ _; exact Nat.le_of_eq rfl) (hb hby at_85) (fun _ _ => ⟨rfl, e6, (by decide : 1 + 0 ≤ _), (by decide : 4 + 0 ≤ _)⟩)
        dsimp only [Pt.U, Pt.locs, Pt.cells, Pt.slots] at X8 l8 y8 z8 st8 hQ8
        subst l8 y8 z8
        obtain ⟨rfl, Nq8, e8⟩ := hQ8
        have N8 := Fr.app N6 Nq8
        refine own_back (b := T8.setTop (mkF m 90 #[.val (.int p0), .val (.int p1), .val (.int p2), .val (.ref b1), .val (.int (f4 p2 p0 p1)), .val (.int (0 : Int32)), .val (.int (0 : Int32))] [(.int (0 : Int32)), (.int (f4 p1 p0 p1))])) (fun t kt => ?_) ?_
        · show Steps p.tables e below (T6.setTop (mkF m 78 #[.val (.int p0), .val (.int p1), .val (.int p2), .val (.ref b1), .val (.int (f4 p2 p0 p1)), .val (.int (0 : Int32)), .val (.int (0 : Int32))] [(.int (0 : Int32)), (.int (f4 p0 p0 p1))])) _
          refine XS.icmpYes X6.here hx rfl (pc0 := 78) (pc' := 83) rfl (hb hby at_78) rfl (teq hc78_7).1 (by decide) (by decide) ?_
          show Steps p.tables e below (T6.setTop (mkF m 83 #[.val (.int p0), .val (.int p1), .val (.int p2), .val (.ref b1), .val (.int (f4 p2 p0 p1)), .val (.int (0 : Int32)), .val (.int (0 : Int32))] [])) _
          refine XS.aloadN X6.here hx rfl (hb hby at_83) rfl rfl ?_
          show Steps p.tables e below (T6.setTop (mkF m 84 #[.val (.int p0), .val (.int p1), .val (.int p2), .val (.ref b1), .val (.int (f4 p2 p0 p1)), .val (.int (0 : Int32)), .val (.int (0 : Int32))] [(.ref b1)])) _
          refine XS.iloadN X6.here hx rfl (hb hby at_84) rfl ?_
          show Steps p.tables e below (T6.setTop (mkF m 85 #[.val (.int p0), .val (.int p1), .val (.int p2), .val (.ref b1), .val (.int (f4 p2 p0 p1)), .val (.int (0 : Int32)), .val (.int (0 : Int32))] [(.int p1), (.ref b1)])) _
          refine st8.trans ?_
          show Steps p.tables e below (T8.setTop (mkF m 88 #[.val (.int p0), .val (.int p1), .val (.int p2), .val (.ref b1), .val (.int (f4 p2 p0 p1)), .val (.int (0 : Int32)), .val (.int (0 : Int32))] [(.int (f4 p1 p0 p1))])) _
          refine XS.iload X8.here hx rfl (hb hby at_88) rfl ?_
          exact kt
        by_cases hc90_9 : (f4 p1 p0 p1) = (0 : Int32)
        · refine own_back (b := T8.setTop (mkF m 98 #[.val (.int p0), .val (.int p1), .val (.int p2), .val (.ref b1), .val (.int (f4 p2 p0 p1)), .val (.int (0 : Int32)), .val (.int (0 : Int32))] [(.int (-2147483648 : Int32)), (.int p0)])) (fun t kt => ?_) ?_
          · show Steps p.tables e below (T8.setTop (mkF m 90 #[.val (.int p0), .val (.int p1), .val (.int p2), .val (.ref b1), .val (.int (f4 p2 p0 p1)), .val (.int (0 : Int32)), .val (.int (0 : Int32))] [(.int (0 : Int32)), (.int (f4 p1 p0 p1))])) _
            refine XS.icmpYes X8.here hx rfl (pc0 := 90) (pc' := 95) rfl (hb hby at_90) rfl (teq hc90_9).1 (by decide) (by decide) ?_
            show Steps p.tables e below (T8.setTop (mkF m 95 #[.val (.int p0), .val (.int p1), .val (.int p2), .val (.ref b1), .val (.int (f4 p2 p0 p1)), .val (.int (0 : Int32)), .val (.int (0 : Int32))] [])) _
            refine XS.iloadN X8.here hx rfl (hb hby at_95) rfl ?_
            show Steps p.tables e below (T8.setTop (mkF m 96 #[.val (.int p0), .val (.int p1), .val (.int p2), .val (.ref b1), .val (.int (f4 p2 p0 p1)), .val (.int (0 : Int32)), .val (.int (0 : Int32))] [(.int p0)])) _
            refine X8.ldcInt hx hown (mvT hZ (hw _ (List.mem_of_getElem? (i := 34) rfl))) (g := (mkF m 96 #[.val (.int p0), .val (.int p1), .val (.int p2), .val (.ref b1), .val (.int (f4 p2 p0 p1)), .val (.int (0 : Int32)), .val (.int (0 : Int32))] [(.int p0)])) rfl (hb hby at_96) _ ?_
            exact kt
          by_cases hc98_10 : p0 = (-2147483648 : Int32)
          · refine own_back (b := T8.setTop (mkF m 116 #[.val (.int p0), .val (.int p1), .val (.int p2), .val (.ref b1), .val (.int (f4 p2 p0 p1)), .val (.int (0 : Int32)), .val (.int (0 : Int32))] [(.int (2147483647 : Int32)), (.int p1)])) (fun t kt => ?_) ?_
            · show Steps p.tables e below (T8.setTop (mkF m 98 #[.val (.int p0), .val (.int p1), .val (.int p2), .val (.ref b1), .val (.int (f4 p2 p0 p1)), .val (.int (0 : Int32)), .val (.int (0 : Int32))] [(.int (-2147483648 : Int32)), (.int p0)])) _
              refine XS.icmpYes X8.here hx rfl (pc0 := 98) (pc' := 113) rfl (hb hby at_98) rfl (teq hc98_10).1 (by decide) (by decide) ?_
              show Steps p.tables e below (T8.setTop (mkF m 113 #[.val (.int p0), .val (.int p1), .val (.int p2), .val (.ref b1), .val (.int (f4 p2 p0 p1)), .val (.int (0 : Int32)), .val (.int (0 : Int32))] [])) _
              refine XS.iloadN X8.here hx rfl (hb hby at_113) rfl ?_
              show Steps p.tables e below (T8.setTop (mkF m 114 #[.val (.int p0), .val (.int p1), .val (.int p2), .val (.ref b1), .val (.int (f4 p2 p0 p1)), .val (.int (0 : Int32)), .val (.int (0 : Int32))] [(.int p1)])) _
              refine X8.ldcInt hx hown (mvT hZ (hw _ (List.mem_of_getElem? (i := 35) rfl))) (g := (mkF m 114 #[.val (.int p0), .val (.int p1), .val (.int p2), .val (.ref b1), .val (.int (f4 p2 p0 p1)), .val (.int (0 : Int32)), .val (.int (0 : Int32))] [(.int p1)])) rfl (hb hby at_114) _ ?_
              exact kt
            by_cases hc116_11 : p1 = (2147483647 : Int32)
            · refine own_back (b := T8.setTop (mkF m 132 #[.val (.int p0), .val (.int p1), .val (.int p2), .val (.ref b1), .val (.int (f4 p2 p0 p1)), .val (.int (0 : Int32)), .val (.int (0 : Int32))] [(.int (1 : Int32))])) (fun t kt => ?_) ?_
              · show Steps p.tables e below (T8.setTop (mkF m 116 #[.val (.int p0), .val (.int p1), .val (.int p2), .val (.ref b1), .val (.int (f4 p2 p0 p1)), .val (.int (0 : Int32)), .val (.int (0 : Int32))] [(.int (2147483647 : Int32)), (.int p1)])) _
                refine XS.icmpYes X8.here hx rfl (pc0 := 116) (pc' := 131) rfl (hb hby at_116) rfl (teq hc116_11).1 (by decide) (by decide) ?_
                show Steps p.tables e below (T8.setTop (mkF m 131 #[.val (.int p0), .val (.int p1), .val (.int p2), .val (.ref b1), .val (.int (f4 p2 p0 p1)), .val (.int (0 : Int32)), .val (.int (0 : Int32))] [])) _
                refine XS.iconst X8.here hx rfl (hb hby at_131) ?_
                exact kt
              obtain ⟨fs, hr, hrun, hended, hW, hsame⟩ := X8.leave (v := some (.int (1 : Int32))) (fun h => by rw [Bd.returns] at h; cases h)
              refine ⟨_, _, ?_, hrun, hended, _, _, rfl, ?_, ⟨_, rfl⟩, hW, hsame.mono (by decide) (by decide)⟩
              · show Steps p.tables e below (T8.setTop (mkF m 132 #[.val (.int p0), .val (.int p1), .val (.int p2), .val (.ref b1), .val (.int (f4 p2 p0 p1)), .val (.int (0 : Int32)), .val (.int (0 : Int32))] [(.int (1 : Int32))])) _
                exact retN X8 hx (t := .boolean) Bd.returns (by simp) (hb hby at_132) hr
              · show Q0 Z p0 p1 p2 h0 n0 _ T8.heap _
                rw [e8]
                exact ⟨by rw [show f0 p0 p1 p2 = (1 : Int32) from by unfold f0; rw [if_pos hc21_4, if_pos hc66_5, if_pos hc78_7, if_pos hc90_9, if_pos hc98_10, if_pos hc116_11]], N8⟩
            · obtain ⟨cq12, kq12, q12a, q12b, q12c⟩ := isOf hZ e8 P2_0
              obtain ⟨_, _, ⟨T12, L12, k12, n12⟩, -, X12, ⟨Lc12, hQ12, l12, y12, z12⟩, st12⟩ := X8.virtualBack hx (y := (⟨"com/example/keptlog/keptlog/server/GroupPolicy", "allowsSessionTimeout", "(I)Z"⟩ : MethodName)) (z := (⟨"com/example/keptlog/keptlog/server/GroupPolicy", "allowsSessionTimeout", "(I)Z"⟩ : MethodName)) hown (mvT hZ (hw _ (List.mem_of_getElem? (i := 22) rfl))) (mvT hZ (hw _ (List.mem_of_getElem? (i := 23) rfl))) (notFace_of_selects (args := #[]) (mvT hZ (hw _ (List.mem_of_getElem? (i := 25) rfl)))) (mvT hZ (hw _ (List.mem_of_getElem? (i := 25) rfl))) (mvT hZ (hw _ (List.mem_of_getElem? (i := 24) rfl))) (by decide) (backOf (W := 0) (rm4 l Z aw hw [] b1 (p1 + (1 : Int32)) p0 p1 T2.heap n0 Z2 P2_1 P2_2) hZ (hw _ (List.mem_of_getElem? (i := 26) rfl)) (hw _ (List.mem_of_getElem? (i := 2) rfl)) (by decide) (by decide)) q12a q12c (g := (mkF m 123 #[.val (.int p0), .val (.int p1), .val (.int p2), .val (.ref b1), .val (.int (f4 p2 p0 p1)), .val (.int (0 : Int32)), .val (.int (0 : Int32))] [(.int (p1 + (1 : Int32))), (.ref b1)])) rfl (by rw [hml]; rfl) (Steps.refl _) (argsL := [(.int (p1 + (1 : Int32)))]) (rest := []) (lenOf pd_0_1 rfl) rfl (by show 2 * 0 + _ ≤ _; exact Nat.le_of_eq rfl) (hb hby at_123) (fun _ _ => ⟨rfl, e8, (by decide : 1 + 0 ≤ _), (by decide : 4 + 0 ≤ _)⟩)
              dsimp only [Pt.U, Pt.locs, Pt.cells, Pt.slots] at X12 l12 y12 z12 st12 hQ12
              subst l12 y12 z12
              obtain ⟨rfl, Nq12, e12⟩ := hQ12
              have N12 := Fr.app N8 Nq12
              refine own_back (b := T12.setTop (mkF m 126 #[.val (.int p0), .val (.int p1), .val (.int p2), .val (.ref b1), .val (.int (f4 p2 p0 p1)), .val (.int (0 : Int32)), .val (.int (0 : Int32))] [(.int (f4 (p1 + (1 : Int32)) p0 p1))])) (fun t kt => ?_) ?_
              · show Steps p.tables e below (T8.setTop (mkF m 116 #[.val (.int p0), .val (.int p1), .val (.int p2), .val (.ref b1), .val (.int (f4 p2 p0 p1)), .val (.int (0 : Int32)), .val (.int (0 : Int32))] [(.int (2147483647 : Int32)), (.int p1)])) _
                refine XS.icmpNo X8.here hx rfl (hb hby at_116) rfl (feq hc116_11).1 ?_
                show Steps p.tables e below (T8.setTop (mkF m 119 #[.val (.int p0), .val (.int p1), .val (.int p2), .val (.ref b1), .val (.int (f4 p2 p0 p1)), .val (.int (0 : Int32)), .val (.int (0 : Int32))] [])) _
                refine XS.aloadN X8.here hx rfl (hb hby at_119) rfl rfl ?_
                show Steps p.tables e below (T8.setTop (mkF m 120 #[.val (.int p0), .val (.int p1), .val (.int p2), .val (.ref b1), .val (.int (f4 p2 p0 p1)), .val (.int (0 : Int32)), .val (.int (0 : Int32))] [(.ref b1)])) _
                refine XS.iloadN X8.here hx rfl (hb hby at_120) rfl ?_
                show Steps p.tables e below (T8.setTop (mkF m 121 #[.val (.int p0), .val (.int p1), .val (.int p2), .val (.ref b1), .val (.int (f4 p2 p0 p1)), .val (.int (0 : Int32)), .val (.int (0 : Int32))] [(.int p1), (.ref b1)])) _
                refine XS.iconst X8.here hx rfl (hb hby at_121) ?_
                show Steps p.tables e below (T8.setTop (mkF m 122 #[.val (.int p0), .val (.int p1), .val (.int p2), .val (.ref b1), .val (.int (f4 p2 p0 p1)), .val (.int (0 : Int32)), .val (.int (0 : Int32))] [(.int (1 : Int32)), (.int p1), (.ref b1)])) _
                refine XS.iadd X8.here hx rfl (hb hby at_122) rfl ?_
                show Steps p.tables e below (T8.setTop (mkF m 123 #[.val (.int p0), .val (.int p1), .val (.int p2), .val (.ref b1), .val (.int (f4 p2 p0 p1)), .val (.int (0 : Int32)), .val (.int (0 : Int32))] [(.int (p1 + (1 : Int32))), (.ref b1)])) _
                refine st12.trans ?_
                exact kt
              by_cases hc126_13 : (f4 (p1 + (1 : Int32)) p0 p1) = (0 : Int32)
              · refine own_back (b := T12.setTop (mkF m 132 #[.val (.int p0), .val (.int p1), .val (.int p2), .val (.ref b1), .val (.int (f4 p2 p0 p1)), .val (.int (0 : Int32)), .val (.int (0 : Int32))] [(.int (1 : Int32))])) (fun t kt => ?_) ?_
                · show Steps p.tables e below (T12.setTop (mkF m 126 #[.val (.int p0), .val (.int p1), .val (.int p2), .val (.ref b1), .val (.int (f4 p2 p0 p1)), .val (.int (0 : Int32)), .val (.int (0 : Int32))] [(.int (f4 (p1 + (1 : Int32)) p0 p1))])) _
                  refine XS.ifYes X12.here hx rfl (pc0 := 126) (pc' := 131) rfl (hb hby at_126) rfl ((if0 _ _).trans (teq hc126_13).1) (by decide) (by decide) ?_
                  show Steps p.tables e below (T12.setTop (mkF m 131 #[.val (.int p0), .val (.int p1), .val (.int p2), .val (.ref b1), .val (.int (f4 p2 p0 p1)), .val (.int (0 : Int32)), .val (.int (0 : Int32))] [])) _
                  refine XS.iconst X12.here hx rfl (hb hby at_131) ?_
                  exact kt
                obtain ⟨fs, hr, hrun, hended, hW, hsame⟩ := X12.leave (v := some (.int (1 : Int32))) (fun h => by rw [Bd.returns] at h; cases h)
                refine ⟨_, _, ?_, hrun, hended, _, _, rfl, ?_, ⟨_, rfl⟩, hW, hsame.mono (by decide) (by decide)⟩
                · show Steps p.tables e below (T12.setTop (mkF m 132 #[.val (.int p0), .val (.int p1), .val (.int p2), .val (.ref b1), .val (.int (f4 p2 p0 p1)), .val (.int (0 : Int32)), .val (.int (0 : Int32))] [(.int (1 : Int32))])) _
                  exact retN X12 hx (t := .boolean) Bd.returns (by simp) (hb hby at_132) hr
                · show Q0 Z p0 p1 p2 h0 n0 _ T12.heap _
                  rw [e12]
                  exact ⟨by rw [show f0 p0 p1 p2 = (1 : Int32) from by unfold f0; rw [if_pos hc21_4, if_pos hc66_5, if_pos hc78_7, if_pos hc90_9, if_pos hc98_10, if_neg hc116_11, if_pos hc126_13]], N12⟩
              · refine own_back (b := T12.setTop (mkF m 130 #[.val (.int p0), .val (.int p1), .val (.int p2), .val (.ref b1), .val (.int (f4 p2 p0 p1)), .val (.int (0 : Int32)), .val (.int (0 : Int32))] [(.int (0 : Int32))])) (fun t kt => ?_) ?_
                · show Steps p.tables e below (T12.setTop (mkF m 126 #[.val (.int p0), .val (.int p1), .val (.int p2), .val (.ref b1), .val (.int (f4 p2 p0 p1)), .val (.int (0 : Int32)), .val (.int (0 : Int32))] [(.int (f4 (p1 + (1 : Int32)) p0 p1))])) _
                  refine XS.ifNo X12.here hx rfl (hb hby at_126) rfl ((if0 _ _).trans (feq hc126_13).1) ?_
                  show Steps p.tables e below (T12.setTop (mkF m 129 #[.val (.int p0), .val (.int p1), .val (.int p2), .val (.ref b1), .val (.int (f4 p2 p0 p1)), .val (.int (0 : Int32)), .val (.int (0 : Int32))] [])) _
                  refine XS.iconst X12.here hx rfl (hb hby at_129) ?_
                  exact kt
                obtain ⟨fs, hr, hrun, hended, hW, hsame⟩ := X12.leave (v := some (.int (0 : Int32))) (fun h => by rw [Bd.returns] at h; cases h)
                refine ⟨_, _, ?_, hrun, hended, _, _, rfl, ?_, ⟨_, rfl⟩, hW, hsame.mono (by decide) (by decide)⟩
                · show Steps p.tables e below (T12.setTop (mkF m 130 #[.val (.int p0), .val (.int p1), .val (.int p2), .val (.ref b1), .val (.int (f4 p2 p0 p1)), .val (.int (0 : Int32)), .val (.int (0 : Int32))] [(.int (0 : Int32))])) _
                  exact retN X12 hx (t := .boolean) Bd.returns (by simp) (hb hby at_130) hr
                · show Q0 Z p0 p1 p2 h0 n0 _ T12.heap _
                  rw [e12]
                  exact ⟨by rw [show f0 p0 p1 p2 = (0 : Int32) from by unfold f0; rw [if_pos hc21_4, if_pos hc66_5, if_pos hc78_7, if_pos hc90_9, if_pos hc98_10, if_neg hc116_11, if_neg hc126_13]], N12⟩
          · obtain ⟨cq14, kq14, q14a, q14b, q14c⟩ := isOf hZ e8 P2_0
            obtain ⟨_, _, ⟨T14, L14, k14, n14⟩, -, X14, ⟨Lc14, hQ14, l14, y14, z14⟩, st14⟩ := X8.virtualBack hx (y := (⟨"com/example/keptlog/keptlog/server/GroupPolicy", "allowsSessionTimeout", "(I)Z"⟩ : MethodName)) (z := (⟨"com/example/keptlog/keptlog/server/GroupPolicy", "allowsSessionTimeout", "(I)Z"⟩ : MethodName)) hown (mvT hZ (hw _ (List.mem_of_getElem? (i := 22) rfl))) (mvT hZ (hw _ (List.mem_of_getElem? (i := 23) rfl))) (notFace_of_selects (args := #[]) (mvT hZ (hw _ (List.mem_of_getElem? (i := 25) rfl)))) (mvT hZ (hw _ (List.mem_of_getElem? (i := 25) rfl))) (mvT hZ (hw _ (List.mem_of_getElem? (i := 24) rfl))) (by decide) (backOf (W := 0) (rm4 l Z aw hw [] b1 (p0 - (1 : Int32)) p0 p1 T2.heap n0 Z2 P2_1 P2_2) hZ (hw _ (List.mem_of_getElem? (i := 26) rfl)) (hw _ (List.mem_of_getElem? (i := 2) rfl)) (by decide) (by decide)) q14a q14c (g := (mkF m 105 #[.val (.int p0), .val (.int p1), .val (.int p2), .val (.ref b1), .val (.int (f4 p2 p0 p1)), .val (.int (0 : Int32)), .val (.int (0 : Int32))] [(.int (p0 - (1 : Int32))), (.ref b1)])) rfl (by rw [hml]; rfl) (Steps.refl _) (argsL := [(.int (p0 - (1 : Int32)))]) (rest := []) (lenOf pd_0_1 rfl) rfl (by show 2 * 0 + _ ≤ _; exact Nat.le_of_eq rfl) (hb hby at_105) (fun _ _ => ⟨rfl, e8, (by decide : 1 + 0 ≤ _), (by decide : 4 + 0 ≤ _)⟩)
            dsimp only [Pt.U, Pt.locs, Pt.cells, Pt.slots] at X14 l14 y14 z14 st14 hQ14
            subst l14 y14 z14
            obtain ⟨rfl, Nq14, e14⟩ := hQ14
            have N14 := Fr.app N8 Nq14
            refine own_back (b := T14.setTop (mkF m 108 #[.val (.int p0), .val (.int p1), .val (.int p2), .val (.ref b1), .val (.int (f4 p2 p0 p1)), .val (.int (0 : Int32)), .val (.int (0 : Int32))] [(.int (f4 (p0 - (1 : Int32)) p0 p1))])) (fun t kt => ?_) ?_
            · show Steps p.tables e below (T8.setTop (mkF m 98 #[.val (.int p0), .val (.int p1), .val (.int p2), .val (.ref b1), .val (.int (f4 p2 p0 p1)), .val (.int (0 : Int32)), .val (.int (0 : Int32))] [(.int (-2147483648 : Int32)), (.int p0)])) _
              refine XS.icmpNo X8.here hx rfl (hb hby at_98) rfl (feq hc98_10).1 ?_
              show Steps p.tables e below (T8.setTop (mkF m 101 #[.val (.int p0), .val (.int p1), .val (.int p2), .val (.ref b1), .val (.int (f4 p2 p0 p1)), .val (.int (0 : Int32)), .val (.int (0 : Int32))] [])) _
              refine XS.aloadN X8.here hx rfl (hb hby at_101) rfl rfl ?_
              show Steps p.tables e below (T8.setTop (mkF m 102 #[.val (.int p0), .val (.int p1), .val (.int p2), .val (.ref b1), .val (.int (f4 p2 p0 p1)), .val (.int (0 : Int32)), .val (.int (0 : Int32))] [(.ref b1)])) _
              refine XS.iloadN X8.here hx rfl (hb hby at_102) rfl ?_
              show Steps p.tables e below (T8.setTop (mkF m 103 #[.val (.int p0), .val (.int p1), .val (.int p2), .val (.ref b1), .val (.int (f4 p2 p0 p1)), .val (.int (0 : Int32)), .val (.int (0 : Int32))] [(.int p0), (.ref b1)])) _
              refine XS.iconst X8.here hx rfl (hb hby at_103) ?_
              show Steps p.tables e below (T8.setTop (mkF m 104 #[.val (.int p0), .val (.int p1), .val (.int p2), .val (.ref b1), .val (.int (f4 p2 p0 p1)), .val (.int (0 : Int32)), .val (.int (0 : Int32))] [(.int (1 : Int32)), (.int p0), (.ref b1)])) _
              refine XS.isub X8.here hx rfl (hb hby at_104) rfl ?_
              show Steps p.tables e below (T8.setTop (mkF m 105 #[.val (.int p0), .val (.int p1), .val (.int p2), .val (.ref b1), .val (.int (f4 p2 p0 p1)), .val (.int (0 : Int32)), .val (.int (0 : Int32))] [(.int (p0 - (1 : Int32))), (.ref b1)])) _
              refine st14.trans ?_
              exact kt
            by_cases hc108_15 : (f4 (p0 - (1 : Int32)) p0 p1) = (0 : Int32)
            · refine own_back (b := T14.setTop (mkF m 116 #[.val (.int p0), .val (.int p1), .val (.int p2), .val (.ref b1), .val (.int (f4 p2 p0 p1)), .val (.int (0 : Int32)), .val (.int (0 : Int32))] [(.int (2147483647 : Int32)), (.int p1)])) (fun t kt => ?_) ?_
              · show Steps p.tables e below (T14.setTop (mkF m 108 #[.val (.int p0), .val (.int p1), .val (.int p2), .val (.ref b1), .val (.int (f4 p2 p0 p1)), .val (.int (0 : Int32)), .val (.int (0 : Int32))] [(.int (f4 (p0 - (1 : Int32)) p0 p1))])) _
                refine XS.ifYes X14.here hx rfl (pc0 := 108) (pc' := 113) rfl (hb hby at_108) rfl ((if0 _ _).trans (teq hc108_15).1) (by decide) (by decide) ?_
                show Steps p.tables e below (T14.setTop (mkF m 113 #[.val (.int p0), .val (.int p1), .val (.int p2), .val (.ref b1), .val (.int (f4 p2 p0 p1)), .val (.int (0 : Int32)), .val (.int (0 : Int32))] [])) _
                refine XS.iloadN X14.here hx rfl (hb hby at_113) rfl ?_
                show Steps p.tables e below (T14.setTop (mkF m 114 #[.val (.int p0), .val (.int p1), .val (.int p2), .val (.ref b1), .val (.int (f4 p2 p0 p1)), .val (.int (0 : Int32)), .val (.int (0 : Int32))] [(.int p1)])) _
                refine X14.ldcInt hx hown (mvT hZ (hw _ (List.mem_of_getElem? (i := 35) rfl))) (g := (mkF m 114 #[.val (.int p0), .val (.int p1), .val (.int p2), .val (.ref b1), .val (.int (f4 p2 p0 p1)), .val (.int (0 : Int32)), .val (.int (0 : Int32))] [(.int p1)])) rfl (hb hby at_114) _ ?_
                exact kt
              by_cases hc116_16 : p1 = (2147483647 : Int32)
              · refine own_back (b := T14.setTop (mkF m 132 #[.val (.int p0), .val (.int p1), .val (.int p2), .val (.ref b1), .val (.int (f4 p2 p0 p1)), .val (.int (0 : Int32)), .val (.int (0 : Int32))] [(.int (1 : Int32))])) (fun t kt => ?_) ?_
                · show Steps p.tables e below (T14.setTop (mkF m 116 #[.val (.int p0), .val (.int p1), .val (.int p2), .val (.ref b1), .val (.int (f4 p2 p0 p1)), .val (.int (0 : Int32)), .val (.int (0 : Int32))] [(.int (2147483647 : Int32)), (.int p1)])) _
                  refine XS.icmpYes X14.here hx rfl (pc0 := 116) (pc' := 131) rfl (hb hby at_116) rfl (teq hc116_16).1 (by decide) (by decide) ?_
                  show Steps p.tables e below (T14.setTop (mkF m 131 #[.val (.int p0), .val (.int p1), .val (.int p2), .val (.ref b1), .val (.int (f4 p2 p0 p1)), .val (.int (0 : Int32)), .val (.int (0 : Int32))] [])) _
                  refine XS.iconst X14.here hx rfl (hb hby at_131) ?_
                  exact kt
                obtain ⟨fs, hr, hrun, hended, hW, hsame⟩ := X14.leave (v := some (.int (1 : Int32))) (fun h => by rw [Bd.returns] at h; cases h)
                refine ⟨_, _, ?_, hrun, hended, _, _, rfl, ?_, ⟨_, rfl⟩, hW, hsame.mono (by decide) (by decide)⟩
                · show Steps p.tables e below (T14.setTop (mkF m 132 #[.val (.int p0), .val (.int p1), .val (.int p2), .val (.ref b1), .val (.int (f4 p2 p0 p1)), .val (.int (0 : Int32)), .val (.int (0 : Int32))] [(.int (1 : Int32))])) _
                  exact retN X14 hx (t := .boolean) Bd.returns (by simp) (hb hby at_132) hr
                · show Q0 Z p0 p1 p2 h0 n0 _ T14.heap _
                  rw [e14]
                  exact ⟨by rw [show f0 p0 p1 p2 = (1 : Int32) from by unfold f0; rw [if_pos hc21_4, if_pos hc66_5, if_pos hc78_7, if_pos hc90_9, if_neg hc98_10, if_pos hc108_15, if_pos hc116_16]], N14⟩
              · obtain ⟨cq17, kq17, q17a, q17b, q17c⟩ := isOf hZ e14 P2_0
                obtain ⟨_, _, ⟨T17, L17, k17, n17⟩, -, X17, ⟨Lc17, hQ17, l17, y17, z17⟩, st17⟩ := X14.virtualBack hx (y := (⟨"com/example/keptlog/keptlog/server/GroupPolicy", "allowsSessionTimeout", "(I)Z"⟩ : MethodName)) (z := (⟨"com/example/keptlog/keptlog/server/GroupPolicy", "allowsSessionTimeout", "(I)Z"⟩ : MethodName)) hown (mvT hZ (hw _ (List.mem_of_getElem? (i := 22) rfl))) (mvT hZ (hw _ (List.mem_of_getElem? (i := 23) rfl))) (notFace_of_selects (args := #[]) (mvT hZ (hw _ (List.mem_of_getElem? (i := 25) rfl)))) (mvT hZ (hw _ (List.mem_of_getElem? (i := 25) rfl))) (mvT hZ (hw _ (List.mem_of_getElem? (i := 24) rfl))) (by decide) (backOf (W := 0) (rm4 l Z aw hw [] b1 (p1 + (1 : Int32)) p0 p1 T2.heap n0 Z2 P2_1 P2_2) hZ (hw _ (List.mem_of_getElem? (i := 26) rfl)) (hw _ (List.mem_of_getElem? (i := 2) rfl)) (by decide) (by decide)) q17a q17c (g := (mkF m 123 #[.val (.int p0), .val (.int p1), .val (.int p2), .val (.ref b1), .val (.int (f4 p2 p0 p1)), .val (.int (0 : Int32)), .val (.int (0 : Int32))] [(.int (p1 + (1 : Int32))), (.ref b1)])) rfl (by rw [hml]; rfl) (Steps.refl _) (argsL := [(.int (p1 + (1 : Int32)))]) (rest := []) (lenOf pd_0_1 rfl) rfl (by show 2 * 0 + _ ≤ _; exact Nat.le_of_eq rfl) (hb hby at_123) (fun _ _ => ⟨rfl, e14, (by decide : 1 + 0 ≤ _), (by decide : 4 + 0 ≤ _)⟩)
                dsimp only [Pt.U, Pt.locs, Pt.cells, Pt.slots] at X17 l17 y17 z17 st17 hQ17
                subst l17 y17 z17
                obtain ⟨rfl, Nq17, e17⟩ := hQ17
                have N17 := Fr.app N14 Nq17
                refine own_back (b := T17.setTop (mkF m 126 #[.val (.int p0), .val (.int p1), .val (.int p2), .val (.ref b1), .val (.int (f4 p2 p0 p1)), .val (.int (0 : Int32)), .val (.int (0 : Int32))] [(.int (f4 (p1 + (1 : Int32)) p0 p1))])) (fun t kt => ?_) ?_
                · show Steps p.tables e below (T14.setTop (mkF m 116 #[.val (.int p0), .val (.int p1), .val (.int p2), .val (.ref b1), .val (.int (f4 p2 p0 p1)), .val (.int (0 : Int32)), .val (.int (0 : Int32))] [(.int (2147483647 : Int32)), (.int p1)])) _
                  refine XS.icmpNo X14.here hx rfl (hb hby at_116) rfl (feq hc116_16).1 ?_
                  show Steps p.tables e below (T14.setTop (mkF m 119 #[.val (.int p0), .val (.int p1), .val (.int p2), .val (.ref b1), .val (.int (f4 p2 p0 p1)), .val (.int (0 : Int32)), .val (.int (0 : Int32))] [])) _
                  refine XS.aloadN X14.here hx rfl (hb hby at_119) rfl rfl ?_
                  show Steps p.tables e below (T14.setTop (mkF m 120 #[.val (.int p0), .val (.int p1), .val (.int p2), .val (.ref b1), .val (.int (f4 p2 p0 p1)), .val (.int (0 : Int32)), .val (.int (0 : Int32))] [(.ref b1)])) _
                  refine XS.iloadN X14.here hx rfl (hb hby at_120) rfl ?_
                  show Steps p.tables e below (T14.setTop (mkF m 121 #[.val (.int p0), .val (.int p1), .val (.int p2), .val (.ref b1), .val (.int (f4 p2 p0 p1)), .val (.int (0 : Int32)), .val (.int (0 : Int32))] [(.int p1), (.ref b1)])) _
                  refine XS.iconst X14.here hx rfl (hb hby at_121) ?_
                  show Steps p.tables e below (T14.setTop (mkF m 122 #[.val (.int p0), .val (.int p1), .val (.int p2), .val (.ref b1), .val (.int (f4 p2 p0 p1)), .val (.int (0 : Int32)), .val (.int (0 : Int32))] [(.int (1 : Int32)), (.int p1), (.ref b1)])) _
                  refine XS.iadd X14.here hx rfl (hb hby at_122) rfl ?_
                  show Steps p.tables e below (T14.setTop (mkF m 123 #[.val (.int p0), .val (.int p1), .val (.int p2), .val (.ref b1), .val (.int (f4 p2 p0 p1)), .val (.int (0 : Int32)), .val (.int (0 : Int32))] [(.int (p1 + (1 : Int32))), (.ref b1)])) _
                  refine st17.trans ?_
                  exact kt
                by_cases hc126_18 : (f4 (p1 + (1 : Int32)) p0 p1) = (0 : Int32)
                · refine own_back (b := T17.setTop (mkF m 132 #[.val (.int p0), .val (.int p1), .val (.int p2), .val (.ref b1), .val (.int (f4 p2 p0 p1)), .val (.int (0 : Int32)), .val (.int (0 : Int32))] [(.int (1 : Int32))])) (fun t kt => ?_) ?_
                  · show Steps p.tables e below (T17.setTop (mkF m 126 #[.val (.int p0), .val (.int p1), .val (.int p2), .val (.ref b1), .val (.int (f4 p2 p0 p1)), .val (.int (0 : Int32)), .val (.int (0 : Int32))] [(.int (f4 (p1 + (1 : Int32)) p0 p1))])) _
                    refine XS.ifYes X17.here hx rfl (pc0 := 126) (pc' := 131) rfl (hb hby at_126) rfl ((if0 _ _).trans (teq hc126_18).1) (by decide) (by decide) ?_
                    show Steps p.tables e below (T17.setTop (mkF m 131 #[.val (.int p0), .val (.int p1), .val (.int p2), .val (.ref b1), .val (.int (f4 p2 p0 p1)), .val (.int (0 : Int32)), .val (.int (0 : Int32))] [])) _
                    refine XS.iconst X17.here hx rfl (hb hby at_131) ?_
                    exact kt
                  obtain ⟨fs, hr, hrun, hended, hW, hsame⟩ := X17.leave (v := some (.int (1 : Int32))) (fun h => by rw [Bd.returns] at h; cases h)
                  refine ⟨_, _, ?_, hrun, hended, _, _, rfl, ?_, ⟨_, rfl⟩, hW, hsame.mono (by decide) (by decide)⟩
                  · show Steps p.tables e below (T17.setTop (mkF m 132 #[.val (.int p0), .val (.int p1), .val (.int p2), .val (.ref b1), .val (.int (f4 p2 p0 p1)), .val (.int (0 : Int32)), .val (.int (0 : Int32))] [(.int (1 : Int32))])) _
                    exact retN X17 hx (t := .boolean) Bd.returns (by simp) (hb hby at_132) hr
                  · show Q0 Z p0 p1 p2 h0 n0 _ T17.heap _
                    rw [e17]
                    exact ⟨by rw [show f0 p0 p1 p2 = (1 : Int32) from by unfold f0; rw [if_pos hc21_4, if_pos hc66_5, if_pos hc78_7, if_pos hc90_9, if_neg hc98_10, if_pos hc108_15, if_neg hc116_16, if_pos hc126_18]], N17⟩
                · refine own_back (b := T17.setTop (mkF m 130 #[.val (.int p0), .val (.int p1), .val (.int p2), .val (.ref b1), .val (.int (f4 p2 p0 p1)), .val (.int (0 : Int32)), .val (.int (0 : Int32))] [(.int (0 : Int32))])) (fun t kt => ?_) ?_
                  · show Steps p.tables e below (T17.setTop (mkF m 126 #[.val (.int p0), .val (.int p1), .val (.int p2), .val (.ref b1), .val (.int (f4 p2 p0 p1)), .val (.int (0 : Int32)), .val (.int (0 : Int32))] [(.int (f4 (p1 + (1 : Int32)) p0 p1))])) _
                    refine XS.ifNo X17.here hx rfl (hb hby at_126) rfl ((if0 _ _).trans (feq hc126_18).1) ?_
                    show Steps p.tables e below (T17.setTop (mkF m 129 #[.val (.int p0), .val (.int p1), .val (.int p2), .val (.ref b1), .val (.int (f4 p2 p0 p1)), .val (.int (0 : Int32)), .val (.int (0 : Int32))] [])) _
                    refine XS.iconst X17.here hx rfl (hb hby at_129) ?_
                    exact kt
                  obtain ⟨fs, hr, hrun, hended, hW, hsame⟩ := X17.leave (v := some (.int (0 : Int32))) (fun h => by rw [Bd.returns] at h; cases h)
                  refine ⟨_, _, ?_, hrun, hended, _, _, rfl, ?_, ⟨_, rfl⟩, hW, hsame.mono (by decide) (by decide)⟩
                  · show Steps p.tables e below (T17.setTop (mkF m 130 #[.val (.int p0), .val (.int p1), .val (.int p2), .val (.ref b1), .val (.int (f4 p2 p0 p1)), .val (.int (0 : Int32)), .val (.int (0 : Int32))] [(.int (0 : Int32))])) _
                    exact retN X17 hx (t := .boolean) Bd.returns (by simp) (hb hby at_130) hr
                  · show Q0 Z p0 p1 p2 h0 n0 _ T17.heap _
                    rw [e17]
                    exact ⟨by rw [show f0 p0 p1 p2 = (0 : Int32) from by unfold f0; rw [if_pos hc21_4, if_pos hc66_5, if_pos hc78_7, if_pos hc90_9, if_neg hc98_10, if_pos hc108_15, if_neg hc116_16, if_neg hc126_18]], N17⟩
            · refine own_back (b := T14.setTop (mkF m 112 #[.val (.int p0), .val (.int p1), .val (.int p2), .val (.ref b1), .val (.int (f4 p2 p0 p1)), .val (.int (0 : Int32)), .val (.int (0 : Int32))] [(.int (0 : Int32))])) (fun t kt => ?_) ?_
              · show Steps p.tables e below (T14.setTop (mkF m 108 #[.val (.int p0), .val (.int p1), .val (.int p2), .val (.ref b1), .val (.int (f4 p2 p0 p1)), .val (.int (0 : Int32)), .val (.int (0 : Int32))] [(.int (f4 (p0 - (1 : Int32)) p0 p1))])) _
                refine XS.ifNo X14.here hx rfl (hb hby at_108) rfl ((if0 _ _).trans (feq hc108_15).1) ?_
                show Steps p.tables e below (T14.setTop (mkF m 111 #[.val (.int p0), .val (.int p1), .val (.int p2), .val (.ref b1), .val (.int (f4 p2 p0 p1)), .val (.int (0 : Int32)), .val (.int (0 : Int32))] [])) _
                refine XS.iconst X14.here hx rfl (hb hby at_111) ?_
                exact kt
              obtain ⟨fs, hr, hrun, hended, hW, hsame⟩ := X14.leave (v := some (.int (0 : Int32))) (fun h => by rw [Bd.returns] at h; cases h)
              refine ⟨_, _, ?_, hrun, hended, _, _, rfl, ?_, ⟨_, rfl⟩, hW, hsame.mono (by decide) (by decide)⟩
              · show Steps p.tables e below (T14.setTop (mkF m 112 #[.val (.int p0), .val (.int p1), .val (.int p2), .val (.ref b1), .val (.int (f4 p2 p0 p1)), .val (.int (0 : Int32)), .val (.int (0 : Int32))] [(.int (0 : Int32))])) _
                exact retN X14 hx (t := .boolean) Bd.returns (by simp) (hb hby at_112) hr
              · show Q0 Z p0 p1 p2 h0 n0 _ T14.heap _
                rw [e14]
                exact ⟨by rw [show f0 p0 p1 p2 = (0 : Int32) from by unfold f0; rw [if_pos hc21_4, if_pos hc66_5, if_pos hc78_7, if_pos hc90_9, if_neg hc98_10, if_neg hc108_15]], N14⟩
        · refine own_back (b := T8.setTop (mkF m 94 #[.val (.int p0), .val (.int p1), .val (.int p2), .val (.ref b1), .val (.int (f4 p2 p0 p1)), .val (.int (0 : Int32)), .val (.int (0 : Int32))] [(.int (0 : Int32))])) (fun t kt => ?_) ?_
          · show Steps p.tables e below (T8.setTop (mkF m 90 #[.val (.int p0), .val (.int p1), .val (.int p2), .val (.ref b1), .val (.int (f4 p2 p0 p1)), .val (.int (0 : Int32)), .val (.int (0 : Int32))] [(.int (0 : Int32)), (.int (f4 p1 p0 p1))])) _
            refine XS.icmpNo X8.here hx rfl (hb hby at_90) rfl (feq hc90_9).1 ?_
            show Steps p.tables e below (T8.setTop (mkF m 93 #[.val (.int p0), .val (.int p1), .val (.int p2), .val (.ref b1), .val (.int (f4 p2 p0 p1)), .val (.int (0 : Int32)), .val (.int (0 : Int32))] [])) _
            refine XS.iconst X8.here hx rfl (hb hby at_93) ?_
            exact kt
          obtain ⟨fs, hr, hrun, hended, hW, hsame⟩ := X8.leave (v := some (.int (0 : Int32))) (fun h => by rw [Bd.returns] at h; cases h)
          refine ⟨_, _, ?_, hrun, hended, _, _, rfl, ?_, ⟨_, rfl⟩, hW, hsame.mono (by decide) (by decide)⟩
          · show Steps p.tables e below (T8.setTop (mkF m 94 #[.val (.int p0), .val (.int p1), .val (.int p2), .val (.ref b1), .val (.int (f4 p2 p0 p1)), .val (.int (0 : Int32)), .val (.int (0 : Int32))] [(.int (0 : Int32))])) _
            exact retN X8 hx (t := .boolean) Bd.returns (by simp) (hb hby at_94) hr
          · show Q0 Z p0 p1 p2 h0 n0 _ T8.heap _
            rw [e8]
            exact ⟨by rw [show f0 p0 p1 p2 = (0 : Int32) from by unfold f0; rw [if_pos hc21_4, if_pos hc66_5, if_pos hc78_7, if_neg hc90_9]], N8⟩
      · refine own_back (b := T6.setTop (mkF m 82 #[.val (.int p0), .val (.int p1), .val (.int p2), .val (.ref b1), .val (.int (f4 p2 p0 p1)), .val (.int (0 : Int32)), .val (.int (0 : Int32))] [(.int (0 : Int32))])) (fun t kt => ?_) ?_
        · show Steps p.tables e below (T6.setTop (mkF m 78 #[.val (.int p0), .val (.int p1), .val (.int p2), .val (.ref b1), .val (.int (f4 p2 p0 p1)), .val (.int (0 : Int32)), .val (.int (0 : Int32))] [(.int (0 : Int32)), (.int (f4 p0 p0 p1))])) _
          refine XS.icmpNo X6.here hx rfl (hb hby at_78) rfl (feq hc78_7).1 ?_
          show Steps p.tables e below (T6.setTop (mkF m 81 #[.val (.int p0), .val (.int p1), .val (.int p2), .val (.ref b1), .val (.int (f4 p2 p0 p1)), .val (.int (0 : Int32)), .val (.int (0 : Int32))] [])) _
          refine XS.iconst X6.here hx rfl (hb hby at_81) ?_
          exact kt
        obtain ⟨fs, hr, hrun, hended, hW, hsame⟩ := X6.leave (v := some (.int (0 : Int32))) (fun h => by rw [Bd.returns] at h; cases h)
        refine ⟨_, _, ?_, hrun, hended, _, _, rfl, ?_, ⟨_, rfl⟩, hW, hsame.mono (by decide) (by decide)⟩
        · show Steps p.tables e below (T6.setTop (mkF m 82 #[.val (.int p0), .val (.int p1), .val (.int p2), .val (.ref b1), .val (.int (f4 p2 p0 p1)), .val (.int (0 : Int32)), .val (.int (0 : Int32))] [(.int (0 : Int32))])) _
          exact retN X6 hx (t := .boolean) Bd.returns (by simp) (hb hby at_82) hr
        · show Q0 Z p0 p1 p2 h0 n0 _ T6.heap _
          rw [e6]
          exact ⟨by rw [show f0 p0 p1 p2 = (0 : Int32) from by unfold f0; rw [if_pos hc21_4, if_pos hc66_5, if_neg hc78_7]], N6⟩
    · refine own_back (b := T3.setTop (mkF m 70 #[.val (.int p0), .val (.int p1), .val (.int p2), .val (.ref b1), .val (.int (f4 p2 p0 p1)), .val (.int (0 : Int32)), .val (.int (0 : Int32))] [(.int (0 : Int32))])) (fun t kt => ?_) ?_
      · show Steps p.tables e below (T3.setTop (mkF m 66 #[.val (.int p0), .val (.int p1), .val (.int p2), .val (.ref b1), .val (.int (f4 p2 p0 p1)), .val (.int (0 : Int32)), .val (.int (0 : Int32))] [(.int (0 : Int32)), (.int (f4 p2 p0 p1))])) _
        refine XS.icmpNo X3.here hx rfl (hb hby at_66) rfl (feq hc66_5).1 ?_
        show Steps p.tables e below (T3.setTop (mkF m 69 #[.val (.int p0), .val (.int p1), .val (.int p2), .val (.ref b1), .val (.int (f4 p2 p0 p1)), .val (.int (0 : Int32)), .val (.int (0 : Int32))] [])) _
        refine XS.iconst X3.here hx rfl (hb hby at_69) ?_
        exact kt
      obtain ⟨fs, hr, hrun, hended, hW, hsame⟩ := X3.leave (v := some (.int (0 : Int32))) (fun h => by rw [Bd.returns] at h; cases h)
      refine ⟨_, _, ?_, hrun, hended, _, _, rfl, ?_, ⟨_, rfl⟩, hW, hsame.mono (by decide) (by decide)⟩
      · show Steps p.tables e below (T3.setTop (mkF m 70 #[.val (.int p0), .val (.int p1), .val (.int p2), .val (.ref b1), .val (.int (f4 p2 p0 p1)), .val (.int (0 : Int32)), .val (.int (0 : Int32))] [(.int (0 : Int32))])) _
        exact retN X3 hx (t := .boolean) Bd.returns (by simp) (hb hby at_70) hr
      · show Q0 Z p0 p1 p2 h0 n0 _ T3.heap _
        rw [e3]
        exact ⟨by rw [show f0 p0 p1 p2 = (0 : Int32) from by unfold f0; rw [if_pos hc21_4, if_neg hc66_5]], N3⟩
  · obtain ⟨_, _, ⟨T19, L19, k19, n19⟩, -, X19, ⟨Lc19, hQ19, l19, y19, z19⟩, st19⟩ := Jvm.LawKit.callS X3 hx (y := (⟨"java/lang/Math", "max", "(II)I"⟩ : MethodName)) hown (mvT hZ (hw _ (List.mem_of_getElem? (i := 27) rfl))) (mvT hZ (hw _ (List.mem_of_getElem? (i := 28) rfl))) (mvT hZ (hw _ (List.mem_of_getElem? (i := 29) rfl))) (mvT hZ (hw _ (List.mem_of_getElem? (i := 30) rfl))) (by decide) (backOf (W := 0) (rm5 l Z aw hw [] p2 p0 T2.heap n0 Z2 ) hZ (hw _ (List.mem_of_getElem? (i := 30) rfl)) (hw _ (List.mem_of_getElem? (i := 29) rfl)) (by decide) (by decide)) (g := (mkF m 44 #[.val (.int p0), .val (.int p1), .val (.int p2), .val (.ref b1), .val (.int (f4 p2 p0 p1)), .val (.int (1 : Int32)), .unset] [(.int p0), (.int p2)])) rfl (by rw [hml]; rfl) (argsL := [(.int p2), (.int p0)]) (rest := []) (lenOf pd_0_2 rfl) rfl (by show 2 * 0 + _ ≤ _; exact Nat.le_of_eq rfl) (hb hby at_44) (fun _ _ => ⟨rfl, e3, (by decide : 1 + 0 ≤ _), (by decide : 4 + 0 ≤ _)⟩)
    dsimp only [Pt.U, Pt.locs, Pt.cells, Pt.slots] at X19 l19 y19 z19 st19 hQ19
    subst l19 y19 z19
    obtain ⟨rfl, Nq19, e19⟩ := hQ19
    have N19 := Fr.app N3 Nq19
    obtain ⟨_, _, ⟨T20, L20, k20, n20⟩, -, X20, ⟨Lc20, hQ20, l20, y20, z20⟩, st20⟩ := Jvm.LawKit.callS X19 hx (y := (⟨"java/lang/Math", "min", "(II)I"⟩ : MethodName)) hown (mvT hZ (hw _ (List.mem_of_getElem? (i := 31) rfl))) (mvT hZ (hw _ (List.mem_of_getElem? (i := 32) rfl))) (mvT hZ (hw _ (List.mem_of_getElem? (i := 29) rfl))) (mvT hZ (hw _ (List.mem_of_getElem? (i := 33) rfl))) (by decide) (backOf (W := 0) (rm6 l Z aw hw [] (f5 p2 p0) p1 T2.heap n0 Z2 ) hZ (hw _ (List.mem_of_getElem? (i := 33) rfl)) (hw _ (List.mem_of_getElem? (i := 29) rfl)) (by decide) (by decide)) (g := (mkF m 48 #[.val (.int p0), .val (.int p1), .val (.int p2), .val (.ref b1), .val (.int (f4 p2 p0 p1)), .val (.int (1 : Int32)), .unset] [(.int p1), (.int (f5 p2 p0))])) rfl (by rw [hml]; rfl) (argsL := [(.int (f5 p2 p0)), (.int p1)]) (rest := []) (lenOf pd_0_2 rfl) rfl (by show 2 * 0 + _ ≤ _; exact Nat.le_of_eq rfl) (hb hby at_48) (fun _ _ => ⟨rfl, e19, (by decide : 1 + 0 ≤ _), (by decide : 4 + 0 ≤ _)⟩)
    dsimp only [Pt.U, Pt.locs, Pt.cells, Pt.slots] at X20 l20 y20 z20 st20 hQ20
    subst l20 y20 z20
    obtain ⟨rfl, Nq20, e20⟩ := hQ20
    have N20 := Fr.app N19 Nq20
    refine own_back (b := T20.setTop (mkF m 52 #[.val (.int p0), .val (.int p1), .val (.int p2), .val (.ref b1), .val (.int (f4 p2 p0 p1)), .val (.int (1 : Int32)), .unset] [(.int p2), (.int (f6 (f5 p2 p0) p1))])) (fun t kt => ?_) ?_
    · show Steps p.tables e below (T3.setTop (mkF m 21 #[.val (.int p0), .val (.int p1), .val (.int p2), .val (.ref b1), .val (.int (f4 p2 p0 p1)), .unset, .unset] [(.int p1), (.int p0)])) _
      refine XS.icmpNo X3.here hx rfl (hb hby at_21) rfl (flt hc21_4).2.2.1 ?_
      show Steps p.tables e below (T3.setTop (mkF m 24 #[.val (.int p0), .val (.int p1), .val (.int p2), .val (.ref b1), .val (.int (f4 p2 p0 p1)), .unset, .unset] [])) _
      refine XS.iconst X3.here hx rfl (hb hby at_24) ?_
      show Steps p.tables e below (T3.setTop (mkF m 25 #[.val (.int p0), .val (.int p1), .val (.int p2), .val (.ref b1), .val (.int (f4 p2 p0 p1)), .unset, .unset] [(.int (1 : Int32))])) _
      refine XS.goto X3.here hx rfl (pc0 := 25) (pc' := 29) rfl (hb hby at_25) (by decide) (by decide) ?_
      show Steps p.tables e below (T3.setTop (mkF m 29 #[.val (.int p0), .val (.int p1), .val (.int p2), .val (.ref b1), .val (.int (f4 p2 p0 p1)), .unset, .unset] [(.int (1 : Int32))])) _
      refine XS.istore X3.here hx rfl (hb hby at_29) rfl (l' := #[.val (.int p0), .val (.int p1), .val (.int p2), .val (.ref b1), .val (.int (f4 p2 p0 p1)), .val (.int (1 : Int32)), .unset]) rfl ?_
      show Steps p.tables e below (T3.setTop (mkF m 31 #[.val (.int p0), .val (.int p1), .val (.int p2), .val (.ref b1), .val (.int (f4 p2 p0 p1)), .val (.int (1 : Int32)), .unset] [])) _
      refine XS.iload X3.here hx rfl (hb hby at_31) rfl ?_
      show Steps p.tables e below (T3.setTop (mkF m 33 #[.val (.int p0), .val (.int p1), .val (.int p2), .val (.ref b1), .val (.int (f4 p2 p0 p1)), .val (.int (1 : Int32)), .unset] [(.int (1 : Int32))])) _
      refine XS.ifYes X3.here hx rfl (pc0 := 33) (pc' := 42) rfl (hb hby at_33) rfl ((if0 _ _).trans (feq (by decide : ¬ ((1 : Int32) = (0 : Int32)))).2) (by decide) (by decide) ?_
      show Steps p.tables e below (T3.setTop (mkF m 42 #[.val (.int p0), .val (.int p1), .val (.int p2), .val (.ref b1), .val (.int (f4 p2 p0 p1)), .val (.int (1 : Int32)), .unset] [])) _
      refine XS.iloadN X3.here hx rfl (hb hby at_42) rfl ?_
      show Steps p.tables e below (T3.setTop (mkF m 43 #[.val (.int p0), .val (.int p1), .val (.int p2), .val (.ref b1), .val (.int (f4 p2 p0 p1)), .val (.int (1 : Int32)), .unset] [(.int p2)])) _
      refine XS.iloadN X3.here hx rfl (hb hby at_43) rfl ?_
      show Steps p.tables e below (T3.setTop (mkF m 44 #[.val (.int p0), .val (.int p1), .val (.int p2), .val (.ref b1), .val (.int (f4 p2 p0 p1)), .val (.int (1 : Int32)), .unset] [(.int p0), (.int p2)])) _
      refine st19 _ ?_
      show Steps p.tables e below (T19.setTop (mkF m 47 #[.val (.int p0), .val (.int p1), .val (.int p2), .val (.ref b1), .val (.int (f4 p2 p0 p1)), .val (.int (1 : Int32)), .unset] [(.int (f5 p2 p0))])) _
      refine XS.iloadN X19.here hx rfl (hb hby at_47) rfl ?_
      show Steps p.tables e below (T19.setTop (mkF m 48 #[.val (.int p0), .val (.int p1), .val (.int p2), .val (.ref b1), .val (.int (f4 p2 p0 p1)), .val (.int (1 : Int32)), .unset] [(.int p1), (.int (f5 p2 p0))])) _
      refine st20 _ ?_
      show Steps p.tables e below (T20.setTop (mkF m 51 #[.val (.int p0), .val (.int p1), .val (.int p2), .val (.ref b1), .val (.int (f4 p2 p0 p1)), .val (.int (1 : Int32)), .unset] [(.int (f6 (f5 p2 p0) p1))])) _
      refine XS.iloadN X20.here hx rfl (hb hby at_51) rfl ?_
      exact kt
    by_cases hc52_21 : (f6 (f5 p2 p0) p1) = p2
    · refine own_back (b := T20.setTop (mkF m 66 #[.val (.int p0), .val (.int p1), .val (.int p2), .val (.ref b1), .val (.int (f4 p2 p0 p1)), .val (.int (1 : Int32)), .val (.int (1 : Int32))] [(.int (1 : Int32)), (.int (f4 p2 p0 p1))])) (fun t kt => ?_) ?_
      · show Steps p.tables e below (T20.setTop (mkF m 52 #[.val (.int p0), .val (.int p1), .val (.int p2), .val (.ref b1), .val (.int (f4 p2 p0 p1)), .val (.int (1 : Int32)), .unset] [(.int p2), (.int (f6 (f5 p2 p0) p1))])) _
        refine XS.icmpNo X20.here hx rfl (hb hby at_52) rfl (teq hc52_21).2 ?_
        show Steps p.tables e below (T20.setTop (mkF m 55 #[.val (.int p0), .val (.int p1), .val (.int p2), .val (.ref b1), .val (.int (f4 p2 p0 p1)), .val (.int (1 : Int32)), .unset] [])) _
        refine XS.iconst X20.here hx rfl (hb hby at_55) ?_
        show Steps p.tables e below (T20.setTop (mkF m 56 #[.val (.int p0), .val (.int p1), .val (.int p2), .val (.ref b1), .val (.int (f4 p2 p0 p1)), .val (.int (1 : Int32)), .unset] [(.int (1 : Int32))])) _
        refine XS.goto X20.here hx rfl (pc0 := 56) (pc' := 60) rfl (hb hby at_56) (by decide) (by decide) ?_
        show Steps p.tables e below (T20.setTop (mkF m 60 #[.val (.int p0), .val (.int p1), .val (.int p2), .val (.ref b1), .val (.int (f4 p2 p0 p1)), .val (.int (1 : Int32)), .unset] [(.int (1 : Int32))])) _
        refine XS.istore X20.here hx rfl (hb hby at_60) rfl (l' := #[.val (.int p0), .val (.int p1), .val (.int p2), .val (.ref b1), .val (.int (f4 p2 p0 p1)), .val (.int (1 : Int32)), .val (.int (1 : Int32))]) rfl ?_
        show Steps p.tables e below (T20.setTop (mkF m 62 #[.val (.int p0), .val (.int p1), .val (.int p2), .val (.ref b1), .val (.int (f4 p2 p0 p1)), .val (.int (1 : Int32)), .val (.int (1 : Int32))] [])) _
        refine XS.iload X20.here hx rfl (hb hby at_62) rfl ?_
        show Steps p.tables e below (T20.setTop (mkF m 64 #[.val (.int p0), .val (.int p1), .val (.int p2), .val (.ref b1), .val (.int (f4 p2 p0 p1)), .val (.int (1 : Int32)), .val (.int (1 : Int32))] [(.int (f4 p2 p0 p1))])) _
        refine XS.iload X20.here hx rfl (hb hby at_64) rfl ?_
        exact kt
      by_cases hc66_22 : (f4 p2 p0 p1) = (1 : Int32)
      · obtain ⟨cq23, kq23, q23a, q23b, q23c⟩ := isOf hZ e20 P2_0
        obtain ⟨_, _, ⟨T23, L23, k23, n23⟩, -, X23, ⟨Lc23, hQ23, l23, y23, z23⟩, st23⟩ := X20.virtualBack hx (y := (⟨"com/example/keptlog/keptlog/server/GroupPolicy", "allowsSessionTimeout", "(I)Z"⟩ : MethodName)) (z := (⟨"com/example/keptlog/keptlog/server/GroupPolicy", "allowsSessionTimeout", "(I)Z"⟩ : MethodName)) hown (mvT hZ (hw _ (List.mem_of_getElem? (i := 22) rfl))) (mvT hZ (hw _ (List.mem_of_getElem? (i := 23) rfl))) (notFace_of_selects (args := #[]) (mvT hZ (hw _ (List.mem_of_getElem? (i := 25) rfl)))) (mvT hZ (hw _ (List.mem_of_getElem? (i := 25) rfl))) (mvT hZ (hw _ (List.mem_of_getElem? (i := 24) rfl))) (by decide) (backOf (W := 0) (rm4 l Z aw hw [] b1 p0 p0 p1 T2.heap n0 Z2 P2_1 P2_2) hZ (hw _ (List.mem_of_getElem? (i := 26) rfl)) (hw _ (List.mem_of_getElem? (i := 2) rfl)) (by decide) (by decide)) q23a q23c (g := (mkF m 73 #[.val (.int p0), .val (.int p1), .val (.int p2), .val (.ref b1), .val (.int (f4 p2 p0 p1)), .val (.int (1 : Int32)), .val (.int (1 : Int32))] [(.int p0), (.ref b1)])) rfl (by rw [hml]; rfl) (Steps.refl _) (argsL := [(.int p0)]) (rest := []) (lenOf pd_0_1 rfl) rfl (by show 2 * 0 + _ ≤ _; exact Nat.le_of_eq rfl) (hb hby at_73) (fun _ _ => ⟨rfl, e20, (by decide : 1 + 0 ≤ _), (by decide : 4 + 0 ≤ _)⟩)
        dsimp only [Pt.U, Pt.locs, Pt.cells, Pt.slots] at X23 l23 y23 z23 st23 hQ23
        subst l23 y23 z23
        obtain ⟨rfl, Nq23, e23⟩ := hQ23
        have N23 := Fr.app N20 Nq23
        refine own_back (b := T23.setTop (mkF m 78 #[.val (.int p0), .val (.int p1), .val (.int p2), .val (.ref b1), .val (.int (f4 p2 p0 p1)), .val (.int (1 : Int32)), .val (.int (1 : Int32))] [(.int (1 : Int32)), (.int (f4 p0 p0 p1))])) (fun t kt => ?_) ?_
        · show Steps p.tables e below (T20.setTop (mkF m 66 #[.val (.int p0), .val (.int p1), .val (.int p2), .val (.ref b1), .val (.int (f4 p2 p0 p1)), .val (.int (1 : Int32)), .val (.int (1 : Int32))] [(.int (1 : Int32)), (.int (f4 p2 p0 p1))])) _
          refine XS.icmpYes X20.here hx rfl (pc0 := 66) (pc' := 71) rfl (hb hby at_66) rfl (teq hc66_22).1 (by decide) (by decide) ?_
          show Steps p.tables e below (T20.setTop (mkF m 71 #[.val (.int p0), .val (.int p1), .val (.int p2), .val (.ref b1), .val (.int (f4 p2 p0 p1)), .val (.int (1 : Int32)), .val (.int (1 : Int32))] [])) _
          refine XS.aloadN X20.here hx rfl (hb hby at_71) rfl rfl ?_
          show Steps p.tables e below (T20.setTop (mkF m 72 #[.val (.int p0), .val (.int p1), .val (.int p2), .val (.ref b1), .val (.int (f4 p2 p0 p1)), .val (.int (1 : Int32)), .val (.int (1 : Int32))] [(.ref b1)])) _
          refine XS.iloadN X20.here hx rfl (hb hby at_72) rfl ?_
          show Steps p.tables e below (T20.setTop (mkF m 73 #[.val (.int p0), .val (.int p1), .val (.int p2), .val (.ref b1), .val (.int (f4 p2 p0 p1)), .val (.int (1 : Int32)), .val (.int (1 : Int32))] [(.int p0), (.ref b1)])) _
          refine st23.trans ?_
          show Steps p.tables e below (T23.setTop (mkF m 76 #[.val (.int p0), .val (.int p1), .val (.int p2), .val (.ref b1), .val (.int (f4 p2 p0 p1)), .val (.int (1 : Int32)), .val (.int (1 : Int32))] [(.int (f4 p0 p0 p1))])) _
          refine XS.iload X23.here hx rfl (hb hby at_76) rfl ?_
          exact kt
        by_cases hc78_24 : (f4 p0 p0 p1) = (1 : Int32)
        · obtain ⟨cq25, kq25, q25a, q25b, q25c⟩ := isOf hZ e23 P2_0
          obtain ⟨_, _, ⟨T25, L25, k25, n25⟩, -, X25, ⟨Lc25, hQ25, l25, y25, z25⟩, st25⟩ := X23.virtualBack hx (y := (⟨"com/example/keptlog/keptlog/server/GroupPolicy", "allowsSessionTimeout", "(I)Z"⟩ : MethodName)) (z := (⟨"com/example/keptlog/keptlog/server/GroupPolicy", "allowsSessionTimeout", "(I)Z"⟩ : MethodName)) hown (mvT hZ (hw _ (List.mem_of_getElem? (i := 22) rfl))) (mvT hZ (hw _ (List.mem_of_getElem? (i := 23) rfl))) (notFace_of_selects (args := #[]) (mvT hZ (hw _ (List.mem_of_getElem? (i := 25) rfl)))) (mvT hZ (hw _ (List.mem_of_getElem? (i := 25) rfl))) (mvT hZ (hw _ (List.mem_of_getElem? (i := 24) rfl))) (by decide) (backOf (W := 0) (rm4 l Z aw hw [] b1 p1 p0 p1 T2.heap n0 Z2 P2_1 P2_2) hZ (hw _ (List.mem_of_getElem? (i := 26) rfl)) (hw _ (List.mem_of_getElem? (i := 2) rfl)) (by decide) (by decide)) q25a q25c (g := (mkF m 85 #[.val (.int p0), .val (.int p1), .val (.int p2), .val (.ref b1), .val (.int (f4 p2 p0 p1)), .val (.int (1 : Int32)), .val (.int (1 : Int32))] [(.int p1), (.ref b1)])) rfl (by rw [hml]; rfl) (Steps.refl _) (argsL := [(.int p1)]) (rest := []) (lenOf pd_0_1 rfl) rfl (by show 2 * 0 + _ ≤ _; exact Nat.le_of_eq rfl) (hb hby at_85) (fun _ _ => ⟨rfl, e23, (by decide : 1 + 0 ≤ _), (by decide : 4 + 0 ≤ _)⟩)
          dsimp only [Pt.U, Pt.locs, Pt.cells, Pt.slots] at X25 l25 y25 z25 st25 hQ25
          subst l25 y25 z25
          obtain ⟨rfl, Nq25, e25⟩ := hQ25
          have N25 := Fr.app N23 Nq25
          refine own_back (b := T25.setTop (mkF m 90 #[.val (.int p0), .val (.int p1), .val (.int p2), .val (.ref b1), .val (.int (f4 p2 p0 p1)), .val (.int (1 : Int32)), .val (.int (1 : Int32))] [(.int (1 : Int32)), (.int (f4 p1 p0 p1))])) (fun t kt => ?_) ?_
          · show Steps p.tables e below (T23.setTop (mkF m 78 #[.val (.int p0), .val (.int p1), .val (.int p2), .val (.ref b1), .val (.int (f4 p2 p0 p1)), .val (.int (1 : Int32)), .val (.int (1 : Int32))] [(.int (1 : Int32)), (.int (f4 p0 p0 p1))])) _
            refine XS.icmpYes X23.here hx rfl (pc0 := 78) (pc' := 83) rfl (hb hby at_78) rfl (teq hc78_24).1 (by decide) (by decide) ?_
            show Steps p.tables e below (T23.setTop (mkF m 83 #[.val (.int p0), .val (.int p1), .val (.int p2), .val (.ref b1), .val (.int (f4 p2 p0 p1)), .val (.int (1 : Int32)), .val (.int (1 : Int32))] [])) _
            refine XS.aloadN X23.here hx rfl (hb hby at_83) rfl rfl ?_
            show Steps p.tables e below (T23.setTop (mkF m 84 #[.val (.int p0), .val (.int p1), .val (.int p2), .val (.ref b1), .val (.int (f4 p2 p0 p1)), .val (.int (1 : Int32)), .val (.int (1 : Int32))] [(.ref b1)])) _
            refine XS.iloadN X23.here hx rfl (hb hby at_84) rfl ?_
            show Steps p.tables e below (T23.setTop (mkF m 85 #[.val (.int p0), .val (.int p1), .val (.int p2), .val (.ref b1), .val (.int (f4 p2 p0 p1)), .val (.int (1 : Int32)), .val (.int (1 : Int32))] [(.int p1), (.ref b1)])) _
            refine st25.trans ?_
            show Steps p.tables e below (T25.setTop (mkF m 88 #[.val (.int p0), .val (.int p1), .val (.int p2), .val (.ref b1), .val (.int (f4 p2 p0 p1)), .val (.int (1 : Int32)), .val (.int (1 : Int32))] [(.int (f4 p1 p0 p1))])) _
            refine XS.iload X25.here hx rfl (hb hby at_88) rfl ?_
            exact kt
          by_cases hc90_26 : (f4 p1 p0 p1) = (1 : Int32)
          · refine own_back (b := T25.setTop (mkF m 98 #[.val (.int p0), .val (.int p1), .val (.int p2), .val (.ref b1), .val (.int (f4 p2 p0 p1)), .val (.int (1 : Int32)), .val (.int (1 : Int32))] [(.int (-2147483648 : Int32)), (.int p0)])) (fun t kt => ?_) ?_
            · show Steps p.tables e below (T25.setTop (mkF m 90 #[.val (.int p0), .val (.int p1), .val (.int p2), .val (.ref b1), .val (.int (f4 p2 p0 p1)), .val (.int (1 : Int32)), .val (.int (1 : Int32))] [(.int (1 : Int32)), (.int (f4 p1 p0 p1))])) _
              refine XS.icmpYes X25.here hx rfl (pc0 := 90) (pc' := 95) rfl (hb hby at_90) rfl (teq hc90_26).1 (by decide) (by decide) ?_
              show Steps p.tables e below (T25.setTop (mkF m 95 #[.val (.int p0), .val (.int p1), .val (.int p2), .val (.ref b1), .val (.int (f4 p2 p0 p1)), .val (.int (1 : Int32)), .val (.int (1 : Int32))] [])) _
              refine XS.iloadN X25.here hx rfl (hb hby at_95) rfl ?_
              show Steps p.tables e below (T25.setTop (mkF m 96 #[.val (.int p0), .val (.int p1), .val (.int p2), .val (.ref b1), .val (.int (f4 p2 p0 p1)), .val (.int (1 : Int32)), .val (.int (1 : Int32))] [(.int p0)])) _
              refine X25.ldcInt hx hown (mvT hZ (hw _ (List.mem_of_getElem? (i := 34) rfl))) (g := (mkF m 96 #[.val (.int p0), .val (.int p1), .val (.int p2), .val (.ref b1), .val (.int (f4 p2 p0 p1)), .val (.int (1 : Int32)), .val (.int (1 : Int32))] [(.int p0)])) rfl (hb hby at_96) _ ?_
              exact kt
            by_cases hc98_27 : p0 = (-2147483648 : Int32)
            · refine own_back (b := T25.setTop (mkF m 116 #[.val (.int p0), .val (.int p1), .val (.int p2), .val (.ref b1), .val (.int (f4 p2 p0 p1)), .val (.int (1 : Int32)), .val (.int (1 : Int32))] [(.int (2147483647 : Int32)), (.int p1)])) (fun t kt => ?_) ?_
              · show Steps p.tables e below (T25.setTop (mkF m 98 #[.val (.int p0), .val (.int p1), .val (.int p2), .val (.ref b1), .val (.int (f4 p2 p0 p1)), .val (.int (1 : Int32)), .val (.int (1 : Int32))] [(.int (-2147483648 : Int32)), (.int p0)])) _
                refine XS.icmpYes X25.here hx rfl (pc0 := 98) (pc' := 113) rfl (hb hby at_98) rfl (teq hc98_27).1 (by decide) (by decide) ?_
                show Steps p.tables e below (T25.setTop (mkF m 113 #[.val (.int p0), .val (.int p1), .val (.int p2), .val (.ref b1), .val (.int (f4 p2 p0 p1)), .val (.int (1 : Int32)), .val (.int (1 : Int32))] [])) _
                refine XS.iloadN X25.here hx rfl (hb hby at_113) rfl ?_
                show Steps p.tables e below (T25.setTop (mkF m 114 #[.val (.int p0), .val (.int p1), .val (.int p2), .val (.ref b1), .val (.int (f4 p2 p0 p1)), .val (.int (1 : Int32)), .val (.int (1 : Int32))] [(.int p1)])) _
                refine X25.ldcInt hx hown (mvT hZ (hw _ (List.mem_of_getElem? (i := 35) rfl))) (g := (mkF m 114 #[.val (.int p0), .val (.int p1), .val (.int p2), .val (.ref b1), .val (.int (f4 p2 p0 p1)), .val (.int (1 : Int32)), .val (.int (1 : Int32))] [(.int p1)])) rfl (hb hby at_114) _ ?_
                exact kt
              by_cases hc116_28 : p1 = (2147483647 : Int32)
              · refine own_back (b := T25.setTop (mkF m 132 #[.val (.int p0), .val (.int p1), .val (.int p2), .val (.ref b1), .val (.int (f4 p2 p0 p1)), .val (.int (1 : Int32)), .val (.int (1 : Int32))] [(.int (1 : Int32))])) (fun t kt => ?_) ?_
                · show Steps p.tables e below (T25.setTop (mkF m 116 #[.val (.int p0), .val (.int p1), .val (.int p2), .val (.ref b1), .val (.int (f4 p2 p0 p1)), .val (.int (1 : Int32)), .val (.int (1 : Int32))] [(.int (2147483647 : Int32)), (.int p1)])) _
                  refine XS.icmpYes X25.here hx rfl (pc0 := 116) (pc' := 131) rfl (hb hby at_116) rfl (teq hc116_28).1 (by decide) (by decide) ?_
                  show Steps p.tables e below (T25.setTop (mkF m 131 #[.val (.int p0), .val (.int p1), .val (.int p2), .val (.ref b1), .val (.int (f4 p2 p0 p1)), .val (.int (1 : Int32)), .val (.int (1 : Int32))] [])) _
                  refine XS.iconst X25.here hx rfl (hb hby at_131) ?_
                  exact kt
                obtain ⟨fs, hr, hrun, hended, hW, hsame⟩ := X25.leave (v := some (.int (1 : Int32))) (fun h => by rw [Bd.returns] at h; cases h)
                refine ⟨_, _, ?_, hrun, hended, _, _, rfl, ?_, ⟨_, rfl⟩, hW, hsame.mono (by decide) (by decide)⟩
                · show Steps p.tables e below (T25.setTop (mkF m 132 #[.val (.int p0), .val (.int p1), .val (.int p2), .val (.ref b1), .val (.int (f4 p2 p0 p1)), .val (.int (1 : Int32)), .val (.int (1 : Int32))] [(.int (1 : Int32))])) _
                  exact retN X25 hx (t := .boolean) Bd.returns (by simp) (hb hby at_132) hr
                · show Q0 Z p0 p1 p2 h0 n0 _ T25.heap _
                  rw [e25]
                  exact ⟨by rw [show f0 p0 p1 p2 = (1 : Int32) from by unfold f0; rw [if_neg hc21_4, if_pos hc52_21, if_pos hc66_22, if_pos hc78_24, if_pos hc90_26, if_pos hc98_27, if_pos hc116_28]], N25⟩
              · obtain ⟨cq29, kq29, q29a, q29b, q29c⟩ := isOf hZ e25 P2_0
                obtain ⟨_, _, ⟨T29, L29, k29, n29⟩, -, X29, ⟨Lc29, hQ29, l29, y29, z29⟩, st29⟩ := X25.virtualBack hx (y := (⟨"com/example/keptlog/keptlog/server/GroupPolicy", "allowsSessionTimeout", "(I)Z"⟩ : MethodName)) (z := (⟨"com/example/keptlog/keptlog/server/GroupPolicy", "allowsSessionTimeout", "(I)Z"⟩ : MethodName)) hown (mvT hZ (hw _ (List.mem_of_getElem? (i := 22) rfl))) (mvT hZ (hw _ (List.mem_of_getElem? (i := 23) rfl))) (notFace_of_selects (args := #[]) (mvT hZ (hw _ (List.mem_of_getElem? (i := 25) rfl)))) (mvT hZ (hw _ (List.mem_of_getElem? (i := 25) rfl))) (mvT hZ (hw _ (List.mem_of_getElem? (i := 24) rfl))) (by decide) (backOf (W := 0) (rm4 l Z aw hw [] b1 (p1 + (1 : Int32)) p0 p1 T2.heap n0 Z2 P2_1 P2_2) hZ (hw _ (List.mem_of_getElem? (i := 26) rfl)) (hw _ (List.mem_of_getElem? (i := 2) rfl)) (by decide) (by decide)) q29a q29c (g := (mkF m 123 #[.val (.int p0), .val (.int p1), .val (.int p2), .val (.ref b1), .val (.int (f4 p2 p0 p1)), .val (.int (1 : Int32)), .val (.int (1 : Int32))] [(.int (p1 + (1 : Int32))), (.ref b1)])) rfl (by rw [hml]; rfl) (Steps.refl _) (argsL := [(.int (p1 + (1 : Int32)))]) (rest := []) (lenOf pd_0_1 rfl) rfl (by show 2 * 0 + _ ≤ _; exact Nat.le_of_eq rfl) (hb hby at_123) (fun _ _ => ⟨rfl, e25, (by decide : 1 + 0 ≤ _), (by decide : 4 + 0 ≤ _)⟩)
                dsimp only [Pt.U, Pt.locs, Pt.cells, Pt.slots] at X29 l29 y29 z29 st29 hQ29
                subst l29 y29 z29
                obtain ⟨rfl, Nq29, e29⟩ := hQ29
                have N29 := Fr.app N25 Nq29
                refine own_back (b := T29.setTop (mkF m 126 #[.val (.int p0), .val (.int p1), .val (.int p2), .val (.ref b1), .val (.int (f4 p2 p0 p1)), .val (.int (1 : Int32)), .val (.int (1 : Int32))] [(.int (f4 (p1 + (1 : Int32)) p0 p1))])) (fun t kt => ?_) ?_
                · show Steps p.tables e below (T25.setTop (mkF m 116 #[.val (.int p0), .val (.int p1), .val (.int p2), .val (.ref b1), .val (.int (f4 p2 p0 p1)), .val (.int (1 : Int32)), .val (.int (1 : Int32))] [(.int (2147483647 : Int32)), (.int p1)])) _
                  refine XS.icmpNo X25.here hx rfl (hb hby at_116) rfl (feq hc116_28).1 ?_
                  show Steps p.tables e below (T25.setTop (mkF m 119 #[.val (.int p0), .val (.int p1), .val (.int p2), .val (.ref b1), .val (.int (f4 p2 p0 p1)), .val (.int (1 : Int32)), .val (.int (1 : Int32))] [])) _
                  refine XS.aloadN X25.here hx rfl (hb hby at_119) rfl rfl ?_
                  show Steps p.tables e below (T25.setTop (mkF m 120 #[.val (.int p0), .val (.int p1), .val (.int p2), .val (.ref b1), .val (.int (f4 p2 p0 p1)), .val (.int (1 : Int32)), .val (.int (1 : Int32))] [(.ref b1)])) _
                  refine XS.iloadN X25.here hx rfl (hb hby at_120) rfl ?_
                  show Steps p.tables e below (T25.setTop (mkF m 121 #[.val (.int p0), .val (.int p1), .val (.int p2), .val (.ref b1), .val (.int (f4 p2 p0 p1)), .val (.int (1 : Int32)), .val (.int (1 : Int32))] [(.int p1), (.ref b1)])) _
                  refine XS.iconst X25.here hx rfl (hb hby at_121) ?_
                  show Steps p.tables e below (T25.setTop (mkF m 122 #[.val (.int p0), .val (.int p1), .val (.int p2), .val (.ref b1), .val (.int (f4 p2 p0 p1)), .val (.int (1 : Int32)), .val (.int (1 : Int32))] [(.int (1 : Int32)), (.int p1), (.ref b1)])) _
                  refine XS.iadd X25.here hx rfl (hb hby at_122) rfl ?_
                  show Steps p.tables e below (T25.setTop (mkF m 123 #[.val (.int p0), .val (.int p1), .val (.int p2), .val (.ref b1), .val (.int (f4 p2 p0 p1)), .val (.int (1 : Int32)), .val (.int (1 : Int32))] [(.int (p1 + (1 : Int32))), (.ref b1)])) _
                  refine st29.trans ?_
                  exact kt
                by_cases hc126_30 : (f4 (p1 + (1 : Int32)) p0 p1) = (0 : Int32)
                · refine own_back (b := T29.setTop (mkF m 132 #[.val (.int p0), .val (.int p1), .val (.int p2), .val (.ref b1), .val (.int (f4 p2 p0 p1)), .val (.int (1 : Int32)), .val (.int (1 : Int32))] [(.int (1 : Int32))])) (fun t kt => ?_) ?_
                  · show Steps p.tables e below (T29.setTop (mkF m 126 #[.val (.int p0), .val (.int p1), .val (.int p2), .val (.ref b1), .val (.int (f4 p2 p0 p1)), .val (.int (1 : Int32)), .val (.int (1 : Int32))] [(.int (f4 (p1 + (1 : Int32)) p0 p1))])) _
                    refine XS.ifYes X29.here hx rfl (pc0 := 126) (pc' := 131) rfl (hb hby at_126) rfl ((if0 _ _).trans (teq hc126_30).1) (by decide) (by decide) ?_
                    show Steps p.tables e below (T29.setTop (mkF m 131 #[.val (.int p0), .val (.int p1), .val (.int p2), .val (.ref b1), .val (.int (f4 p2 p0 p1)), .val (.int (1 : Int32)), .val (.int (1 : Int32))] [])) _
                    refine XS.iconst X29.here hx rfl (hb hby at_131) ?_
                    exact kt
                  obtain ⟨fs, hr, hrun, hended, hW, hsame⟩ := X29.leave (v := some (.int (1 : Int32))) (fun h => by rw [Bd.returns] at h; cases h)
                  refine ⟨_, _, ?_, hrun, hended, _, _, rfl, ?_, ⟨_, rfl⟩, hW, hsame.mono (by decide) (by decide)⟩
                  · show Steps p.tables e below (T29.setTop (mkF m 132 #[.val (.int p0), .val (.int p1), .val (.int p2), .val (.ref b1), .val (.int (f4 p2 p0 p1)), .val (.int (1 : Int32)), .val (.int (1 : Int32))] [(.int (1 : Int32))])) _
                    exact retN X29 hx (t := .boolean) Bd.returns (by simp) (hb hby at_132) hr
                  · show Q0 Z p0 p1 p2 h0 n0 _ T29.heap _
                    rw [e29]
                    exact ⟨by rw [show f0 p0 p1 p2 = (1 : Int32) from by unfold f0; rw [if_neg hc21_4, if_pos hc52_21, if_pos hc66_22, if_pos hc78_24, if_pos hc90_26, if_pos hc98_27, if_neg hc116_28, if_pos hc126_30]], N29⟩
                · refine own_back (b := T29.setTop (mkF m 130 #[.val (.int p0), .val (.int p1), .val (.int p2), .val (.ref b1), .val (.int (f4 p2 p0 p1)), .val (.int (1 : Int32)), .val (.int (1 : Int32))] [(.int (0 : Int32))])) (fun t kt => ?_) ?_
                  · show Steps p.tables e below (T29.setTop (mkF m 126 #[.val (.int p0), .val (.int p1), .val (.int p2), .val (.ref b1), .val (.int (f4 p2 p0 p1)), .val (.int (1 : Int32)), .val (.int (1 : Int32))] [(.int (f4 (p1 + (1 : Int32)) p0 p1))])) _
                    refine XS.ifNo X29.here hx rfl (hb hby at_126) rfl ((if0 _ _).trans (feq hc126_30).1) ?_
                    show Steps p.tables e below (T29.setTop (mkF m 129 #[.val (.int p0), .val (.int p1), .val (.int p2), .val (.ref b1), .val (.int (f4 p2 p0 p1)), .val (.int (1 : Int32)), .val (.int (1 : Int32))] [])) _
                    refine XS.iconst X29.here hx rfl (hb hby at_129) ?_
                    exact kt
                  obtain ⟨fs, hr, hrun, hended, hW, hsame⟩ := X29.leave (v := some (.int (0 : Int32))) (fun h => by rw [Bd.returns] at h; cases h)
                  refine ⟨_, _, ?_, hrun, hended, _, _, rfl, ?_, ⟨_, rfl⟩, hW, hsame.mono (by decide) (by decide)⟩
                  · show Steps p.tables e below (T29.setTop (mkF m 130 #[.val (.int p0), .val (.int p1), .val (.int p2), .val (.ref b1), .val (.int (f4 p2 p0 p1)), .val (.int (1 : Int32)), .val (.int (1 : Int32))] [(.int (0 : Int32))])) _
                    exact retN X29 hx (t := .boolean) Bd.returns (by simp) (hb hby at_130) hr
                  · show Q0 Z p0 p1 p2 h0 n0 _ T29.heap _
                    rw [e29]
                    exact ⟨by rw [show f0 p0 p1 p2 = (0 : Int32) from by unfold f0; rw [if_neg hc21_4, if_pos hc52_21, if_pos hc66_22, if_pos hc78_24, if_pos hc90_26, if_pos hc98_27, if_neg hc116_28, if_neg hc126_30]], N29⟩
            · obtain ⟨cq31, kq31, q31a, q31b, q31c⟩ := isOf hZ e25 P2_0
              obtain ⟨_, _, ⟨T31, L31, k31, n31⟩, -, X31, ⟨Lc31, hQ31, l31, y31, z31⟩, st31⟩ := X25.virtualBack hx (y := (⟨"com/example/keptlog/keptlog/server/GroupPolicy", "allowsSessionTimeout", "(I)Z"⟩ : MethodName)) (z := (⟨"com/example/keptlog/keptlog/server/GroupPolicy", "allowsSessionTimeout", "(I)Z"⟩ : MethodName)) hown (mvT hZ (hw _ (List.mem_of_getElem? (i := 22) rfl))) (mvT hZ (hw _ (List.mem_of_getElem? (i := 23) rfl))) (notFace_of_selects (args := #[]) (mvT hZ (hw _ (List.mem_of_getElem? (i := 25) rfl)))) (mvT hZ (hw _ (List.mem_of_getElem? (i := 25) rfl))) (mvT hZ (hw _ (List.mem_of_getElem? (i := 24) rfl))) (by decide) (backOf (W := 0) (rm4 l Z aw hw [] b1 (p0 - (1 : Int32)) p0 p1 T2.heap n0 Z2 P2_1 P2_2) hZ (hw _ (List.mem_of_getElem? (i := 26) rfl)) (hw _ (List.mem_of_getElem? (i := 2) rfl)) (by decide) (by decide)) q31a q31c (g := (mkF m 105 #[.val (.int p0), .val (.int p1), .val (.int p2), .val (.ref b1), .val (.int (f4 p2 p0 p1)), .val (.int (1 : Int32)), .val (.int (1 : Int32))] [(.int (p0 - (1 : Int32))), (.ref b1)])) rfl (by rw [hml]; rfl) (Steps.refl _) (argsL := [(.int (p0 - (1 : Int32)))]) (rest := []) (lenOf pd_0_1 rfl) rfl (by show 2 * 0 + _ ≤ _; exact Nat.le_of_eq rfl) (hb hby at_105) (fun _ _ => ⟨rfl, e25, (by decide : 1 + 0 ≤ _), (by decide : 4 + 0 ≤ _)⟩)
              dsimp only [Pt.U, Pt.locs, Pt.cells, Pt.slots] at X31 l31 y31 z31 st31 hQ31
              subst l31 y31 z31
              obtain ⟨rfl, Nq31, e31⟩ := hQ31
              have N31 := Fr.app N25 Nq31
              refine own_back (b := T31.setTop (mkF m 108 #[.val (.int p0), .val (.int p1), .val (.int p2), .val (.ref b1), .val (.int (f4 p2 p0 p1)), .val (.int (1 : Int32)), .val (.int (1 : Int32))] [(.int (f4 (p0 - (1 : Int32)) p0 p1))])) (fun t kt => ?_) ?_
              · show Steps p.tables e below (T25.setTop (mkF m 98 #[.val (.int p0), .val (.int p1), .val (.int p2), .val (.ref b1), .val (.int (f4 p2 p0 p1)), .val (.int (1 : Int32)), .val (.int (1 : Int32))] [(.int (-2147483648 : Int32)), (.int p0)])) _
                refine XS.icmpNo X25.here hx rfl (hb hby at_98) rfl (feq hc98_27).1 ?_
                show Steps p.tables e below (T25.setTop (mkF m 101 #[.val (.int p0), .val (.int p1), .val (.int p2), .val (.ref b1), .val (.int (f4 p2 p0 p1)), .val (.int (1 : Int32)), .val (.int (1 : Int32))] [])) _
                refine XS.aloadN X25.here hx rfl (hb hby at_101) rfl rfl ?_
                show Steps p.tables e below (T25.setTop (mkF m 102 #[.val (.int p0), .val (.int p1), .val (.int p2), .val (.ref b1), .val (.int (f4 p2 p0 p1)), .val (.int (1 : Int32)), .val (.int (1 : Int32))] [(.ref b1)])) _
                refine XS.iloadN X25.here hx rfl (hb hby at_102) rfl ?_
                show Steps p.tables e below (T25.setTop (mkF m 103 #[.val (.int p0), .val (.int p1), .val (.int p2), .val (.ref b1), .val (.int (f4 p2 p0 p1)), .val (.int (1 : Int32)), .val (.int (1 : Int32))] [(.int p0), (.ref b1)])) _
                refine XS.iconst X25.here hx rfl (hb hby at_103) ?_
                show Steps p.tables e below (T25.setTop (mkF m 104 #[.val (.int p0), .val (.int p1), .val (.int p2), .val (.ref b1), .val (.int (f4 p2 p0 p1)), .val (.int (1 : Int32)), .val (.int (1 : Int32))] [(.int (1 : Int32)), (.int p0), (.ref b1)])) _
                refine XS.isub X25.here hx rfl (hb hby at_104) rfl ?_
                show Steps p.tables e below (T25.setTop (mkF m 105 #[.val (.int p0), .val (.int p1), .val (.int p2), .val (.ref b1), .val (.int (f4 p2 p0 p1)), .val (.int (1 : Int32)), .val (.int (1 : Int32))] [(.int (p0 - (1 : Int32))), (.ref b1)])) _
                refine st31.trans ?_
                exact kt
              by_cases hc108_32 : (f4 (p0 - (1 : Int32)) p0 p1) = (0 : Int32)
              · refine own_back (b := T31.setTop (mkF m 116 #[.val (.int p0), .val (.int p1), .val (.int p2), .val (.ref b1), .val (.int (f4 p2 p0 p1)), .val (.int (1 : Int32)), .val (.int (1 : Int32))] [(.int (2147483647 : Int32)), (.int p1)])) (fun t kt => ?_) ?_
                · show Steps p.tables e below (T31.setTop (mkF m 108 #[.val (.int p0), .val (.int p1), .val (.int p2), .val (.ref b1), .val (.int (f4 p2 p0 p1)), .val (.int (1 : Int32)), .val (.int (1 : Int32))] [(.int (f4 (p0 - (1 : Int32)) p0 p1))])) _
                  refine XS.ifYes X31.here hx rfl (pc0 := 108) (pc' := 113) rfl (hb hby at_108) rfl ((if0 _ _).trans (teq hc108_32).1) (by decide) (by decide) ?_
                  show Steps p.tables e below (T31.setTop (mkF m 113 #[.val (.int p0), .val (.int p1), .val (.int p2), .val (.ref b1), .val (.int (f4 p2 p0 p1)), .val (.int (1 : Int32)), .val (.int (1 : Int32))] [])) _
                  refine XS.iloadN X31.here hx rfl (hb hby at_113) rfl ?_
                  show Steps p.tables e below (T31.setTop (mkF m 114 #[.val (.int p0), .val (.int p1), .val (.int p2), .val (.ref b1), .val (.int (f4 p2 p0 p1)), .val (.int (1 : Int32)), .val (.int (1 : Int32))] [(.int p1)])) _
                  refine X31.ldcInt hx hown (mvT hZ (hw _ (List.mem_of_getElem? (i := 35) rfl))) (g := (mkF m 114 #[.val (.int p0), .val (.int p1), .val (.int p2), .val (.ref b1), .val (.int (f4 p2 p0 p1)), .val (.int (1 : Int32)), .val (.int (1 : Int32))] [(.int p1)])) rfl (hb hby at_114) _ ?_
                  exact kt
                by_cases hc116_33 : p1 = (2147483647 : Int32)
                · refine own_back (b := T31.setTop (mkF m 132 #[.val (.int p0), .val (.int p1), .val (.int p2), .val (.ref b1), .val (.int (f4 p2 p0 p1)), .val (.int (1 : Int32)), .val (.int (1 : Int32))] [(.int (1 : Int32))])) (fun t kt => ?_) ?_
                  · show Steps p.tables e below (T31.setTop (mkF m 116 #[.val (.int p0), .val (.int p1), .val (.int p2), .val (.ref b1), .val (.int (f4 p2 p0 p1)), .val (.int (1 : Int32)), .val (.int (1 : Int32))] [(.int (2147483647 : Int32)), (.int p1)])) _
                    refine XS.icmpYes X31.here hx rfl (pc0 := 116) (pc' := 131) rfl (hb hby at_116) rfl (teq hc116_33).1 (by decide) (by decide) ?_
                    show Steps p.tables e below (T31.setTop (mkF m 131 #[.val (.int p0), .val (.int p1), .val (.int p2), .val (.ref b1), .val (.int (f4 p2 p0 p1)), .val (.int (1 : Int32)), .val (.int (1 : Int32))] [])) _
                    refine XS.iconst X31.here hx rfl (hb hby at_131) ?_
                    exact kt
                  obtain ⟨fs, hr, hrun, hended, hW, hsame⟩ := X31.leave (v := some (.int (1 : Int32))) (fun h => by rw [Bd.returns] at h; cases h)
                  refine ⟨_, _, ?_, hrun, hended, _, _, rfl, ?_, ⟨_, rfl⟩, hW, hsame.mono (by decide) (by decide)⟩
                  · show Steps p.tables e below (T31.setTop (mkF m 132 #[.val (.int p0), .val (.int p1), .val (.int p2), .val (.ref b1), .val (.int (f4 p2 p0 p1)), .val (.int (1 : Int32)), .val (.int (1 : Int32))] [(.int (1 : Int32))])) _
                    exact retN X31 hx (t := .boolean) Bd.returns (by simp) (hb hby at_132) hr
                  · show Q0 Z p0 p1 p2 h0 n0 _ T31.heap _
                    rw [e31]
                    exact ⟨by rw [show f0 p0 p1 p2 = (1 : Int32) from by unfold f0; rw [if_neg hc21_4, if_pos hc52_21, if_pos hc66_22, if_pos hc78_24, if_pos hc90_26, if_neg hc98_27, if_pos hc108_32, if_pos hc116_33]], N31⟩
                · obtain ⟨cq34, kq34, q34a, q34b, q34c⟩ := isOf hZ e31 P2_0
                  obtain ⟨_, _, ⟨T34, L34, k34, n34⟩, -, X34, ⟨Lc34, hQ34, l34, y34, z34⟩, st34⟩ := X31.virtualBack hx (y := (⟨"com/example/keptlog/keptlog/server/GroupPolicy", "allowsSessionTimeout", "(I)Z"⟩ : MethodName)) (z := (⟨"com/example/keptlog/keptlog/server/GroupPolicy", "allowsSessionTimeout", "(I)Z"⟩ : MethodName)) hown (mvT hZ (hw _ (List.mem_of_getElem? (i := 22) rfl))) (mvT hZ (hw _ (List.mem_of_getElem? (i := 23) rfl))) (notFace_of_selects (args := #[]) (mvT hZ (hw _ (List.mem_of_getElem? (i := 25) rfl)))) (mvT hZ (hw _ (List.mem_of_getElem? (i := 25) rfl))) (mvT hZ (hw _ (List.mem_of_getElem? (i := 24) rfl))) (by decide) (backOf (W := 0) (rm4 l Z aw hw [] b1 (p1 + (1 : Int32)) p0 p1 T2.heap n0 Z2 P2_1 P2_2) hZ (hw _ (List.mem_of_getElem? (i := 26) rfl)) (hw _ (List.mem_of_getElem? (i := 2) rfl)) (by decide) (by decide)) q34a q34c (g := (mkF m 123 #[.val (.int p0), .val (.int p1), .val (.int p2), .val (.ref b1), .val (.int (f4 p2 p0 p1)), .val (.int (1 : Int32)), .val (.int (1 : Int32))] [(.int (p1 + (1 : Int32))), (.ref b1)])) rfl (by rw [hml]; rfl) (Steps.refl _) (argsL := [(.int (p1 + (1 : Int32)))]) (rest := []) (lenOf pd_0_1 rfl) rfl (by show 2 * 0 + _ ≤ _; exact Nat.le_of_eq rfl) (hb hby at_123) (fun _ _ => ⟨rfl, e31, (by decide : 1 + 0 ≤ _), (by decide : 4 + 0 ≤ _)⟩)
                  dsimp only [Pt.U, Pt.locs, Pt.cells, Pt.slots] at X34 l34 y34 z34 st34 hQ34
                  subst l34 y34 z34
                  obtain ⟨rfl, Nq34, e34⟩ := hQ34
                  have N34 := Fr.app N31 Nq34
                  refine own_back (b := T34.setTop (mkF m 126 #[.val (.int p0), .val (.int p1), .val (.int p2), .val (.ref b1), .val (.int (f4 p2 p0 p1)), .val (.int (1 : Int32)), .val (.int (1 : Int32))] [(.int (f4 (p1 + (1 : Int32)) p0 p1))])) (fun t kt => ?_) ?_
                  · show Steps p.tables e below (T31.setTop (mkF m 116 #[.val (.int p0), .val (.int p1), .val (.int p2), .val (.ref b1), .val (.int (f4 p2 p0 p1)), .val (.int (1 : Int32)), .val (.int (1 : Int32))] [(.int (2147483647 : Int32)), (.int p1)])) _
                    refine XS.icmpNo X31.here hx rfl (hb hby at_116) rfl (feq hc116_33).1 ?_
                    show Steps p.tables e below (T31.setTop (mkF m 119 #[.val (.int p0), .val (.int p1), .val (.int p2), .val (.ref b1), .val (.int (f4 p2 p0 p1)), .val (.int (1 : Int32)), .val (.int (1 : Int32))] [])) _
                    refine XS.aloadN X31.here hx rfl (hb hby at_119) rfl rfl ?_
                    show Steps p.tables e below (T31.setTop (mkF m 120 #[.val (.int p0), .val (.int p1), .val (.int p2), .val (.ref b1), .val (.int (f4 p2 p0 p1)), .val (.int (1 : Int32)), .val (.int (1 : Int32))] [(.ref b1)])) _
                    refine XS.iloadN X31.here hx rfl (hb hby at_120) rfl ?_
                    show Steps p.tables e below (T31.setTop (mkF m 121 #[.val (.int p0), .val (.int p1), .val (.int p2), .val (.ref b1), .val (.int (f4 p2 p0 p1)), .val (.int (1 : Int32)), .val (.int (1 : Int32))] [(.int p1), (.ref b1)])) _
                    refine XS.iconst X31.here hx rfl (hb hby at_121) ?_
                    show Steps p.tables e below (T31.setTop (mkF m 122 #[.val (.int p0), .val (.int p1), .val (.int p2), .val (.ref b1), .val (.int (f4 p2 p0 p1)), .val (.int (1 : Int32)), .val (.int (1 : Int32))] [(.int (1 : Int32)), (.int p1), (.ref b1)])) _
                    refine XS.iadd X31.here hx rfl (hb hby at_122) rfl ?_
                    show Steps p.tables e below (T31.setTop (mkF m 123 #[.val (.int p0), .val (.int p1), .val (.int p2), .val (.ref b1), .val (.int (f4 p2 p0 p1)), .val (.int (1 : Int32)), .val (.int (1 : Int32))] [(.int (p1 + (1 : Int32))), (.ref b1)])) _
                    refine st34.trans ?_
                    exact kt
                  by_cases hc126_35 : (f4 (p1 + (1 : Int32)) p0 p1) = (0 : Int32)
                  · refine own_back (b := T34.setTop (mkF m 132 #[.val (.int p0), .val (.int p1), .val (.int p2), .val (.ref b1), .val (.int (f4 p2 p0 p1)), .val (.int (1 : Int32)), .val (.int (1 : Int32))] [(.int (1 : Int32))])) (fun t kt => ?_) ?_
                    · show Steps p.tables e below (T34.setTop (mkF m 126 #[.val (.int p0), .val (.int p1), .val (.int p2), .val (.ref b1), .val (.int (f4 p2 p0 p1)), .val (.int (1 : Int32)), .val (.int (1 : Int32))] [(.int (f4 (p1 + (1 : Int32)) p0 p1))])) _
                      refine XS.ifYes X34.here hx rfl (pc0 := 126) (pc' := 131) rfl (hb hby at_126) rfl ((if0 _ _).trans (teq hc126_35).1) (by decide) (by decide) ?_
                      show Steps p.tables e below (T34.setTop (mkF m 131 #[.val (.int p0), .val (.int p1), .val (.int p2), .val (.ref b1), .val (.int (f4 p2 p0 p1)), .val (.int (1 : Int32)), .val (.int (1 : Int32))] [])) _
                      refine XS.iconst X34.here hx rfl (hb hby at_131) ?_
                      exact kt
                    obtain ⟨fs, hr, hrun, hended, hW, hsame⟩ := X34.leave (v := some (.int (1 : Int32))) (fun h => by rw [Bd.returns] at h; cases h)
                    refine ⟨_, _, ?_, hrun, hended, _, _, rfl, ?_, ⟨_, rfl⟩, hW, hsame.mono (by decide) (by decide)⟩
                    · show Steps p.tables e below (T34.setTop (mkF m 132 #[.val (.int p0), .val (.int p1), .val (.int p2), .val (.ref b1), .val (.int (f4 p2 p0 p1)), .val (.int (1 : Int32)), .val (.int (1 : Int32))] [(.int (1 : Int32))])) _
                      exact retN X34 hx (t := .boolean) Bd.returns (by simp) (hb hby at_132) hr
                    · show Q0 Z p0 p1 p2 h0 n0 _ T34.heap _
                      rw [e34]
                      exact ⟨by rw [show f0 p0 p1 p2 = (1 : Int32) from by unfold f0; rw [if_neg hc21_4, if_pos hc52_21, if_pos hc66_22, if_pos hc78_24, if_pos hc90_26, if_neg hc98_27, if_pos hc108_32, if_neg hc116_33, if_pos hc126_35]], N34⟩
                  · refine own_back (b := T34.setTop (mkF m 130 #[.val (.int p0), .val (.int p1), .val (.int p2), .val (.ref b1), .val (.int (f4 p2 p0 p1)), .val (.int (1 : Int32)), .val (.int (1 : Int32))] [(.int (0 : Int32))])) (fun t kt => ?_) ?_
                    · show Steps p.tables e below (T34.setTop (mkF m 126 #[.val (.int p0), .val (.int p1), .val (.int p2), .val (.ref b1), .val (.int (f4 p2 p0 p1)), .val (.int (1 : Int32)), .val (.int (1 : Int32))] [(.int (f4 (p1 + (1 : Int32)) p0 p1))])) _
                      refine XS.ifNo X34.here hx rfl (hb hby at_126) rfl ((if0 _ _).trans (feq hc126_35).1) ?_
                      show Steps p.tables e below (T34.setTop (mkF m 129 #[.val (.int p0), .val (.int p1), .val (.int p2), .val (.ref b1), .val (.int (f4 p2 p0 p1)), .val (.int (1 : Int32)), .val (.int (1 : Int32))] [])) _
                      refine XS.iconst X34.here hx rfl (hb hby at_129) ?_
                      exact kt
                    obtain ⟨fs, hr, hrun, hended, hW, hsame⟩ := X34.leave (v := some (.int (0 : Int32))) (fun h => by rw [Bd.returns] at h; cases h)
                    refine ⟨_, _, ?_, hrun, hended, _, _, rfl, ?_, ⟨_, rfl⟩, hW, hsame.mono (by decide) (by decide)⟩
                    · show Steps p.tables e below (T34.setTop (mkF m 130 #[.val (.int p0), .val (.int p1), .val (.int p2), .val (.ref b1), .val (.int (f4 p2 p0 p1)), .val (.int (1 : Int32)), .val (.int (1 : Int32))] [(.int (0 : Int32))])) _
                      exact retN X34 hx (t := .boolean) Bd.returns (by simp) (hb hby at_130) hr
                    · show Q0 Z p0 p1 p2 h0 n0 _ T34.heap _
                      rw [e34]
                      exact ⟨by rw [show f0 p0 p1 p2 = (0 : Int32) from by unfold f0; rw [if_neg hc21_4, if_pos hc52_21, if_pos hc66_22, if_pos hc78_24, if_pos hc90_26, if_neg hc98_27, if_pos hc108_32, if_neg hc116_33, if_neg hc126_35]], N34⟩
              · refine own_back (b := T31.setTop (mkF m 112 #[.val (.int p0), .val (.int p1), .val (.int p2), .val (.ref b1), .val (.int (f4 p2 p0 p1)), .val (.int (1 : Int32)), .val (.int (1 : Int32))] [(.int (0 : Int32))])) (fun t kt => ?_) ?_
                · show Steps p.tables e below (T31.setTop (mkF m 108 #[.val (.int p0), .val (.int p1), .val (.int p2), .val (.ref b1), .val (.int (f4 p2 p0 p1)), .val (.int (1 : Int32)), .val (.int (1 : Int32))] [(.int (f4 (p0 - (1 : Int32)) p0 p1))])) _
                  refine XS.ifNo X31.here hx rfl (hb hby at_108) rfl ((if0 _ _).trans (feq hc108_32).1) ?_
                  show Steps p.tables e below (T31.setTop (mkF m 111 #[.val (.int p0), .val (.int p1), .val (.int p2), .val (.ref b1), .val (.int (f4 p2 p0 p1)), .val (.int (1 : Int32)), .val (.int (1 : Int32))] [])) _
                  refine XS.iconst X31.here hx rfl (hb hby at_111) ?_
                  exact kt
                obtain ⟨fs, hr, hrun, hended, hW, hsame⟩ := X31.leave (v := some (.int (0 : Int32))) (fun h => by rw [Bd.returns] at h; cases h)
                refine ⟨_, _, ?_, hrun, hended, _, _, rfl, ?_, ⟨_, rfl⟩, hW, hsame.mono (by decide) (by decide)⟩
                · show Steps p.tables e below (T31.setTop (mkF m 112 #[.val (.int p0), .val (.int p1), .val (.int p2), .val (.ref b1), .val (.int (f4 p2 p0 p1)), .val (.int (1 : Int32)), .val (.int (1 : Int32))] [(.int (0 : Int32))])) _
                  exact retN X31 hx (t := .boolean) Bd.returns (by simp) (hb hby at_112) hr
                · show Q0 Z p0 p1 p2 h0 n0 _ T31.heap _
                  rw [e31]
                  exact ⟨by rw [show f0 p0 p1 p2 = (0 : Int32) from by unfold f0; rw [if_neg hc21_4, if_pos hc52_21, if_pos hc66_22, if_pos hc78_24, if_pos hc90_26, if_neg hc98_27, if_neg hc108_32]], N31⟩
          · refine own_back (b := T25.setTop (mkF m 94 #[.val (.int p0), .val (.int p1), .val (.int p2), .val (.ref b1), .val (.int (f4 p2 p0 p1)), .val (.int (1 : Int32)), .val (.int (1 : Int32))] [(.int (0 : Int32))])) (fun t kt => ?_) ?_
            · show Steps p.tables e below (T25.setTop (mkF m 90 #[.val (.int p0), .val (.int p1), .val (.int p2), .val (.ref b1), .val (.int (f4 p2 p0 p1)), .val (.int (1 : Int32)), .val (.int (1 : Int32))] [(.int (1 : Int32)), (.int (f4 p1 p0 p1))])) _
              refine XS.icmpNo X25.here hx rfl (hb hby at_90) rfl (feq hc90_26).1 ?_
              show Steps p.tables e below (T25.setTop (mkF m 93 #[.val (.int p0), .val (.int p1), .val (.int p2), .val (.ref b1), .val (.int (f4 p2 p0 p1)), .val (.int (1 : Int32)), .val (.int (1 : Int32))] [])) _
              refine XS.iconst X25.here hx rfl (hb hby at_93) ?_
              exact kt
            obtain ⟨fs, hr, hrun, hended, hW, hsame⟩ := X25.leave (v := some (.int (0 : Int32))) (fun h => by rw [Bd.returns] at h; cases h)
            refine ⟨_, _, ?_, hrun, hended, _, _, rfl, ?_, ⟨_, rfl⟩, hW, hsame.mono (by decide) (by decide)⟩
            · show Steps p.tables e below (T25.setTop (mkF m 94 #[.val (.int p0), .val (.int p1), .val (.int p2), .val (.ref b1), .val (.int (f4 p2 p0 p1)), .val (.int (1 : Int32)), .val (.int (1 : Int32))] [(.int (0 : Int32))])) _
              exact retN X25 hx (t := .boolean) Bd.returns (by simp) (hb hby at_94) hr
            · show Q0 Z p0 p1 p2 h0 n0 _ T25.heap _
              rw [e25]
              exact ⟨by rw [show f0 p0 p1 p2 = (0 : Int32) from by unfold f0; rw [if_neg hc21_4, if_pos hc52_21, if_pos hc66_22, if_pos hc78_24, if_neg hc90_26]], N25⟩
        · refine own_back (b := T23.setTop (mkF m 82 #[.val (.int p0), .val (.int p1), .val (.int p2), .val (.ref b1), .val (.int (f4 p2 p0 p1)), .val (.int (1 : Int32)), .val (.int (1 : Int32))] [(.int (0 : Int32))])) (fun t kt => ?_) ?_
          · show Steps p.tables e below (T23.setTop (mkF m 78 #[.val (.int p0), .val (.int p1), .val (.int p2), .val (.ref b1), .val (.int (f4 p2 p0 p1)), .val (.int (1 : Int32)), .val (.int (1 : Int32))] [(.int (1 : Int32)), (.int (f4 p0 p0 p1))])) _
            refine XS.icmpNo X23.here hx rfl (hb hby at_78) rfl (feq hc78_24).1 ?_
            show Steps p.tables e below (T23.setTop (mkF m 81 #[.val (.int p0), .val (.int p1), .val (.int p2), .val (.ref b1), .val (.int (f4 p2 p0 p1)), .val (.int (1 : Int32)), .val (.int (1 : Int32))] [])) _
            refine XS.iconst X23.here hx rfl (hb hby at_81) ?_
            exact kt
          obtain ⟨fs, hr, hrun, hended, hW, hsame⟩ := X23.leave (v := some (.int (0 : Int32))) (fun h => by rw [Bd.returns] at h; cases h)
          refine ⟨_, _, ?_, hrun, hended, _, _, rfl, ?_, ⟨_, rfl⟩, hW, hsame.mono (by decide) (by decide)⟩
          · show Steps p.tables e below (T23.setTop (mkF m 82 #[.val (.int p0), .val (.int p1), .val (.int p2), .val (.ref b1), .val (.int (f4 p2 p0 p1)), .val (.int (1 : Int32)), .val (.int (1 : Int32))] [(.int (0 : Int32))])) _
            exact retN X23 hx (t := .boolean) Bd.returns (by simp) (hb hby at_82) hr
          · show Q0 Z p0 p1 p2 h0 n0 _ T23.heap _
            rw [e23]
            exact ⟨by rw [show f0 p0 p1 p2 = (0 : Int32) from by unfold f0; rw [if_neg hc21_4, if_pos hc52_21, if_pos hc66_22, if_neg hc78_24]], N23⟩
      · refine own_back (b := T20.setTop (mkF m 70 #[.val (.int p0), .val (.int p1), .val (.int p2), .val (.ref b1), .val (.int (f4 p2 p0 p1)), .val (.int (1 : Int32)), .val (.int (1 : Int32))] [(.int (0 : Int32))])) (fun t kt => ?_) ?_
        · show Steps p.tables e below (T20.setTop (mkF m 66 #[.val (.int p0), .val (.int p1), .val (.int p2), .val (.ref b1), .val (.int (f4 p2 p0 p1)), .val (.int (1 : Int32)), .val (.int (1 : Int32))] [(.int (1 : Int32)), (.int (f4 p2 p0 p1))])) _
          refine XS.icmpNo X20.here hx rfl (hb hby at_66) rfl (feq hc66_22).1 ?_
          show Steps p.tables e below (T20.setTop (mkF m 69 #[.val (.int p0), .val (.int p1), .val (.int p2), .val (.ref b1), .val (.int (f4 p2 p0 p1)), .val (.int (1 : Int32)), .val (.int (1 : Int32))] [])) _
          refine XS.iconst X20.here hx rfl (hb hby at_69) ?_
          exact kt
        obtain ⟨fs, hr, hrun, hended, hW, hsame⟩ := X20.leave (v := some (.int (0 : Int32))) (fun h => by rw [Bd.returns] at h; cases h)
        refine ⟨_, _, ?_, hrun, hended, _, _, rfl, ?_, ⟨_, rfl⟩, hW, hsame.mono (by decide) (by decide)⟩
        · show Steps p.tables e below (T20.setTop (mkF m 70 #[.val (.int p0), .val (.int p1), .val (.int p2), .val (.ref b1), .val (.int (f4 p2 p0 p1)), .val (.int (1 : Int32)), .val (.int (1 : Int32))] [(.int (0 : Int32))])) _
          exact retN X20 hx (t := .boolean) Bd.returns (by simp) (hb hby at_70) hr
        · show Q0 Z p0 p1 p2 h0 n0 _ T20.heap _
          rw [e20]
          exact ⟨by rw [show f0 p0 p1 p2 = (0 : Int32) from by unfold f0; rw [if_neg hc21_4, if_pos hc52_21, if_neg hc66_22]], N20⟩
    · refine own_back (b := T20.setTop (mkF m 66 #[.val (.int p0), .val (.int p1), .val (.int p2), .val (.ref b1), .val (.int (f4 p2 p0 p1)), .val (.int (1 : Int32)), .val (.int (0 : Int32))] [(.int (0 : Int32)), (.int (f4 p2 p0 p1))])) (fun t kt => ?_) ?_
      · show Steps p.tables e below (T20.setTop (mkF m 52 #[.val (.int p0), .val (.int p1), .val (.int p2), .val (.ref b1), .val (.int (f4 p2 p0 p1)), .val (.int (1 : Int32)), .unset] [(.int p2), (.int (f6 (f5 p2 p0) p1))])) _
        refine XS.icmpYes X20.here hx rfl (pc0 := 52) (pc' := 59) rfl (hb hby at_52) rfl (feq hc52_21).2 (by decide) (by decide) ?_
        show Steps p.tables e below (T20.setTop (mkF m 59 #[.val (.int p0), .val (.int p1), .val (.int p2), .val (.ref b1), .val (.int (f4 p2 p0 p1)), .val (.int (1 : Int32)), .unset] [])) _
        refine XS.iconst X20.here hx rfl (hb hby at_59) ?_
        show Steps p.tables e below (T20.setTop (mkF m 60 #[.val (.int p0), .val (.int p1), .val (.int p2), .val (.ref b1), .val (.int (f4 p2 p0 p1)), .val (.int (1 : Int32)), .unset] [(.int (0 : Int32))])) _
        refine XS.istore X20.here hx rfl (hb hby at_60) rfl (l' := #[.val (.int p0), .val (.int p1), .val (.int p2), .val (.ref b1), .val (.int (f4 p2 p0 p1)), .val (.int (1 : Int32)), .val (.int (0 : Int32))]) rfl ?_
        show Steps p.tables e below (T20.setTop (mkF m 62 #[.val (.int p0), .val (.int p1), .val (.int p2), .val (.ref b1), .val (.int (f4 p2 p0 p1)), .val (.int (1 : Int32)), .val (.int (0 : Int32))] [])) _
        refine XS.iload X20.here hx rfl (hb hby at_62) rfl ?_
        show Steps p.tables e below (T20.setTop (mkF m 64 #[.val (.int p0), .val (.int p1), .val (.int p2), .val (.ref b1), .val (.int (f4 p2 p0 p1)), .val (.int (1 : Int32)), .val (.int (0 : Int32))] [(.int (f4 p2 p0 p1))])) _
        refine XS.iload X20.here hx rfl (hb hby at_64) rfl ?_
        exact kt
      by_cases hc66_36 : (f4 p2 p0 p1) = (0 : Int32)
      · obtain ⟨cq37, kq37, q37a, q37b, q37c⟩ := isOf hZ e20 P2_0
        obtain ⟨_, _, ⟨T37, L37, k37, n37⟩, -, X37, ⟨Lc37, hQ37, l37, y37, z37⟩, st37⟩ := X20.virtualBack hx (y := (⟨"com/example/keptlog/keptlog/server/GroupPolicy", "allowsSessionTimeout", "(I)Z"⟩ : MethodName)) (z := (⟨"com/example/keptlog/keptlog/server/GroupPolicy", "allowsSessionTimeout", "(I)Z"⟩ : MethodName)) hown (mvT hZ (hw _ (List.mem_of_getElem? (i := 22) rfl))) (mvT hZ (hw _ (List.mem_of_getElem? (i := 23) rfl))) (notFace_of_selects (args := #[]) (mvT hZ (hw _ (List.mem_of_getElem? (i := 25) rfl)))) (mvT hZ (hw _ (List.mem_of_getElem? (i := 25) rfl))) (mvT hZ (hw _ (List.mem_of_getElem? (i := 24) rfl))) (by decide) (backOf (W := 0) (rm4 l Z aw hw [] b1 p0 p0 p1 T2.heap n0 Z2 P2_1 P2_2) hZ (hw _ (List.mem_of_getElem? (i := 26) rfl)) (hw _ (List.mem_of_getElem? (i := 2) rfl)) (by decide) (by decide)) q37a q37c (g := (mkF m 73 #[.val (.int p0), .val (.int p1), .val (.int p2), .val (.ref b1), .val (.int (f4 p2 p0 p1)), .val (.int (1 : Int32)), .val (.int (0 : Int32))] [(.int p0), (.ref b1)])) rfl (by rw [hml]; rfl) (Steps.refl _) (argsL := [(.int p0)]) (rest := []) (lenOf pd_0_1 rfl) rfl (by show 2 * 0 + _ ≤ _; exact Nat.le_of_eq rfl) (hb hby at_73) (fun _ _ => ⟨rfl, e20, (by decide : 1 + 0 ≤ _), (by decide : 4 + 0 ≤ _)⟩)
        dsimp only [Pt.U, Pt.locs, Pt.cells, Pt.slots] at X37 l37 y37 z37 st37 hQ37
        subst l37 y37 z37
        obtain ⟨rfl, Nq37, e37⟩ := hQ37
        have N37 := Fr.app N20 Nq37
        refine own_back (b := T37.setTop (mkF m 78 #[.val (.int p0), .val (.int p1), .val (.int p2), .val (.ref b1), .val (.int (f4 p2 p0 p1)), .val (.int (1 : Int32)), .val (.int (0 : Int32))] [(.int (1 : Int32)), (.int (f4 p0 p0 p1))])) (fun t kt => ?_) ?_
        · show Steps p.tables e below (T20.setTop (mkF m 66 #[.val (.int p0), .val (.int p1), .val (.int p2), .val (.ref b1), .val (.int (f4 p2 p0 p1)), .val (.int (1 : Int32)), .val (.int (0 : Int32))] [(.int (0 : Int32)), (.int (f4 p2 p0 p1))])) _
          refine XS.icmpYes X20.here hx rfl (pc0 := 66) (pc' := 71) rfl (hb hby at_66) rfl (teq hc66_36).1 (by decide) (by decide) ?_
          show Steps p.tables e below (T20.setTop (mkF m 71 #[.val (.int p0), .val (.int p1), .val (.int p2), .val (.ref b1), .val (.int (f4 p2 p0 p1)), .val (.int (1 : Int32)), .val (.int (0 : Int32))] [])) _
          refine XS.aloadN X20.here hx rfl (hb hby at_71) rfl rfl ?_
          show Steps p.tables e below (T20.setTop (mkF m 72 #[.val (.int p0), .val (.int p1), .val (.int p2), .val (.ref b1), .val (.int (f4 p2 p0 p1)), .val (.int (1 : Int32)), .val (.int (0 : Int32))] [(.ref b1)])) _
          refine XS.iloadN X20.here hx rfl (hb hby at_72) rfl ?_
          show Steps p.tables e below (T20.setTop (mkF m 73 #[.val (.int p0), .val (.int p1), .val (.int p2), .val (.ref b1), .val (.int (f4 p2 p0 p1)), .val (.int (1 : Int32)), .val (.int (0 : Int32))] [(.int p0), (.ref b1)])) _
          refine st37.trans ?_
          show Steps p.tables e below (T37.setTop (mkF m 76 #[.val (.int p0), .val (.int p1), .val (.int p2), .val (.ref b1), .val (.int (f4 p2 p0 p1)), .val (.int (1 : Int32)), .val (.int (0 : Int32))] [(.int (f4 p0 p0 p1))])) _
          refine XS.iload X37.here hx rfl (hb hby at_76) rfl ?_
          exact kt
        by_cases hc78_38 : (f4 p0 p0 p1) = (1 : Int32)
        · obtain ⟨cq39, kq39, q39a, q39b, q39c⟩ := isOf hZ e37 P2_0
          obtain ⟨_, _, ⟨T39, L39, k39, n39⟩, -, X39, ⟨Lc39, hQ39, l39, y39, z39⟩, st39⟩ := X37.virtualBack hx (y := (⟨"com/example/keptlog/keptlog/server/GroupPolicy", "allowsSessionTimeout", "(I)Z"⟩ : MethodName)) (z := (⟨"com/example/keptlog/keptlog/server/GroupPolicy", "allowsSessionTimeout", "(I)Z"⟩ : MethodName)) hown (mvT hZ (hw _ (List.mem_of_getElem? (i := 22) rfl))) (mvT hZ (hw _ (List.mem_of_getElem? (i := 23) rfl))) (notFace_of_selects (args := #[]) (mvT hZ (hw _ (List.mem_of_getElem? (i := 25) rfl)))) (mvT hZ (hw _ (List.mem_of_getElem? (i := 25) rfl))) (mvT hZ (hw _ (List.mem_of_getElem? (i := 24) rfl))) (by decide) (backOf (W := 0) (rm4 l Z aw hw [] b1 p1 p0 p1 T2.heap n0 Z2 P2_1 P2_2) hZ (hw _ (List.mem_of_getElem? (i := 26) rfl)) (hw _ (List.mem_of_getElem? (i := 2) rfl)) (by decide) (by decide)) q39a q39c (g := (mkF m 85 #[.val (.int p0), .val (.int p1), .val (.int p2), .val (.ref b1), .val (.int (f4 p2 p0 p1)), .val (.int (1 : Int32)), .val (.int (0 : Int32))] [(.int p1), (.ref b1)])) rfl (by rw [hml]; rfl) (Steps.refl _) (argsL := [(.int p1)]) (rest := []) (lenOf pd_0_1 rfl) rfl (by show 2 * 0 + _ ≤ _; exact Nat.le_of_eq rfl) (hb hby at_85) (fun _ _ => ⟨rfl, e37, (by decide : 1 + 0 ≤ _), (by decide : 4 + 0 ≤ _)⟩)
          dsimp only [Pt.U, Pt.locs, Pt.cells, Pt.slots] at X39 l39 y39 z39 st39 hQ39
          subst l39 y39 z39
          obtain ⟨rfl, Nq39, e39⟩ := hQ39
          have N39 := Fr.app N37 Nq39
          refine own_back (b := T39.setTop (mkF m 90 #[.val (.int p0), .val (.int p1), .val (.int p2), .val (.ref b1), .val (.int (f4 p2 p0 p1)), .val (.int (1 : Int32)), .val (.int (0 : Int32))] [(.int (1 : Int32)), (.int (f4 p1 p0 p1))])) (fun t kt => ?_) ?_
          · show Steps p.tables e below (T37.setTop (mkF m 78 #[.val (.int p0), .val (.int p1), .val (.int p2), .val (.ref b1), .val (.int (f4 p2 p0 p1)), .val (.int (1 : Int32)), .val (.int (0 : Int32))] [(.int (1 : Int32)), (.int (f4 p0 p0 p1))])) _
            refine XS.icmpYes X37.here hx rfl (pc0 := 78) (pc' := 83) rfl (hb hby at_78) rfl (teq hc78_38).1 (by decide) (by decide) ?_
            show Steps p.tables e below (T37.setTop (mkF m 83 #[.val (.int p0), .val (.int p1), .val (.int p2), .val (.ref b1), .val (.int (f4 p2 p0 p1)), .val (.int (1 : Int32)), .val (.int (0 : Int32))] [])) _
            refine XS.aloadN X37.here hx rfl (hb hby at_83) rfl rfl ?_
            show Steps p.tables e below (T37.setTop (mkF m 84 #[.val (.int p0), .val (.int p1), .val (.int p2), .val (.ref b1), .val (.int (f4 p2 p0 p1)), .val (.int (1 : Int32)), .val (.int (0 : Int32))] [(.ref b1)])) _
            refine XS.iloadN X37.here hx rfl (hb hby at_84) rfl ?_
            show Steps p.tables e below (T37.setTop (mkF m 85 #[.val (.int p0), .val (.int p1), .val (.int p2), .val (.ref b1), .val (.int (f4 p2 p0 p1)), .val (.int (1 : Int32)), .val (.int (0 : Int32))] [(.int p1), (.ref b1)])) _
            refine st39.trans ?_
            show Steps p.tables e below (T39.setTop (mkF m 88 #[.val (.int p0), .val (.int p1), .val (.int p2), .val (.ref b1), .val (.int (f4 p2 p0 p1)), .val (.int (1 : Int32)), .val (.int (0 : Int32))] [(.int (f4 p1 p0 p1))])) _
            refine XS.iload X39.here hx rfl (hb hby at_88) rfl ?_
            exact kt
          by_cases hc90_40 : (f4 p1 p0 p1) = (1 : Int32)
          · refine own_back (b := T39.setTop (mkF m 98 #[.val (.int p0), .val (.int p1), .val (.int p2), .val (.ref b1), .val (.int (f4 p2 p0 p1)), .val (.int (1 : Int32)), .val (.int (0 : Int32))] [(.int (-2147483648 : Int32)), (.int p0)])) (fun t kt => ?_) ?_
            · show Steps p.tables e below (T39.setTop (mkF m 90 #[.val (.int p0), .val (.int p1), .val (.int p2), .val (.ref b1), .val (.int (f4 p2 p0 p1)), .val (.int (1 : Int32)), .val (.int (0 : Int32))] [(.int (1 : Int32)), (.int (f4 p1 p0 p1))])) _
              refine XS.icmpYes X39.here hx rfl (pc0 := 90) (pc' := 95) rfl (hb hby at_90) rfl (teq hc90_40).1 (by decide) (by decide) ?_
              show Steps p.tables e below (T39.setTop (mkF m 95 #[.val (.int p0), .val (.int p1), .val (.int p2), .val (.ref b1), .val (.int (f4 p2 p0 p1)), .val (.int (1 : Int32)), .val (.int (0 : Int32))] [])) _
              refine XS.iloadN X39.here hx rfl (hb hby at_95) rfl ?_
              show Steps p.tables e below (T39.setTop (mkF m 96 #[.val (.int p0), .val (.int p1), .val (.int p2), .val (.ref b1), .val (.int (f4 p2 p0 p1)), .val (.int (1 : Int32)), .val (.int (0 : Int32))] [(.int p0)])) _
              refine X39.ldcInt hx hown (mvT hZ (hw _ (List.mem_of_getElem? (i := 34) rfl))) (g := (mkF m 96 #[.val (.int p0), .val (.int p1), .val (.int p2), .val (.ref b1), .val (.int (f4 p2 p0 p1)), .val (.int (1 : Int32)), .val (.int (0 : Int32))] [(.int p0)])) rfl (hb hby at_96) _ ?_
              exact kt
            by_cases hc98_41 : p0 = (-2147483648 : Int32)
            · refine own_back (b := T39.setTop (mkF m 116 #[.val (.int p0), .val (.int p1), .val (.int p2), .val (.ref b1), .val (.int (f4 p2 p0 p1)), .val (.int (1 : Int32)), .val (.int (0 : Int32))] [(.int (2147483647 : Int32)), (.int p1)])) (fun t kt => ?_) ?_
              · show Steps p.tables e below (T39.setTop (mkF m 98 #[.val (.int p0), .val (.int p1), .val (.int p2), .val (.ref b1), .val (.int (f4 p2 p0 p1)), .val (.int (1 : Int32)), .val (.int (0 : Int32))] [(.int (-2147483648 : Int32)), (.int p0)])) _
                refine XS.icmpYes X39.here hx rfl (pc0 := 98) (pc' := 113) rfl (hb hby at_98) rfl (teq hc98_41).1 (by decide) (by decide) ?_
                show Steps p.tables e below (T39.setTop (mkF m 113 #[.val (.int p0), .val (.int p1), .val (.int p2), .val (.ref b1), .val (.int (f4 p2 p0 p1)), .val (.int (1 : Int32)), .val (.int (0 : Int32))] [])) _
                refine XS.iloadN X39.here hx rfl (hb hby at_113) rfl ?_
                show Steps p.tables e below (T39.setTop (mkF m 114 #[.val (.int p0), .val (.int p1), .val (.int p2), .val (.ref b1), .val (.int (f4 p2 p0 p1)), .val (.int (1 : Int32)), .val (.int (0 : Int32))] [(.int p1)])) _
                refine X39.ldcInt hx hown (mvT hZ (hw _ (List.mem_of_getElem? (i := 35) rfl))) (g := (mkF m 114 #[.val (.int p0), .val (.int p1), .val (.int p2), .val (.ref b1), .val (.int (f4 p2 p0 p1)), .val (.int (1 : Int32)), .val (.int (0 : Int32))] [(.int p1)])) rfl (hb hby at_114) _ ?_
                exact kt
              by_cases hc116_42 : p1 = (2147483647 : Int32)
              · refine own_back (b := T39.setTop (mkF m 132 #[.val (.int p0), .val (.int p1), .val (.int p2), .val (.ref b1), .val (.int (f4 p2 p0 p1)), .val (.int (1 : Int32)), .val (.int (0 : Int32))] [(.int (1 : Int32))])) (fun t kt => ?_) ?_
                · show Steps p.tables e below (T39.setTop (mkF m 116 #[.val (.int p0), .val (.int p1), .val (.int p2), .val (.ref b1), .val (.int (f4 p2 p0 p1)), .val (.int (1 : Int32)), .val (.int (0 : Int32))] [(.int (2147483647 : Int32)), (.int p1)])) _
                  refine XS.icmpYes X39.here hx rfl (pc0 := 116) (pc' := 131) rfl (hb hby at_116) rfl (teq hc116_42).1 (by decide) (by decide) ?_
                  show Steps p.tables e below (T39.setTop (mkF m 131 #[.val (.int p0), .val (.int p1), .val (.int p2), .val (.ref b1), .val (.int (f4 p2 p0 p1)), .val (.int (1 : Int32)), .val (.int (0 : Int32))] [])) _
                  refine XS.iconst X39.here hx rfl (hb hby at_131) ?_
                  exact kt
                obtain ⟨fs, hr, hrun, hended, hW, hsame⟩ := X39.leave (v := some (.int (1 : Int32))) (fun h => by rw [Bd.returns] at h; cases h)
                refine ⟨_, _, ?_, hrun, hended, _, _, rfl, ?_, ⟨_, rfl⟩, hW, hsame.mono (by decide) (by decide)⟩
                · show Steps p.tables e below (T39.setTop (mkF m 132 #[.val (.int p0), .val (.int p1), .val (.int p2), .val (.ref b1), .val (.int (f4 p2 p0 p1)), .val (.int (1 : Int32)), .val (.int (0 : Int32))] [(.int (1 : Int32))])) _
                  exact retN X39 hx (t := .boolean) Bd.returns (by simp) (hb hby at_132) hr
                · show Q0 Z p0 p1 p2 h0 n0 _ T39.heap _
                  rw [e39]
                  exact ⟨by rw [show f0 p0 p1 p2 = (1 : Int32) from by unfold f0; rw [if_neg hc21_4, if_neg hc52_21, if_pos hc66_36, if_pos hc78_38, if_pos hc90_40, if_pos hc98_41, if_pos hc116_42]], N39⟩
              · obtain ⟨cq43, kq43, q43a, q43b, q43c⟩ := isOf hZ e39 P2_0
                obtain ⟨_, _, ⟨T43, L43, k43, n43⟩, -, X43, ⟨Lc43, hQ43, l43, y43, z43⟩, st43⟩ := X39.virtualBack hx (y := (⟨"com/example/keptlog/keptlog/server/GroupPolicy", "allowsSessionTimeout", "(I)Z"⟩ : MethodName)) (z := (⟨"com/example/keptlog/keptlog/server/GroupPolicy", "allowsSessionTimeout", "(I)Z"⟩ : MethodName)) hown (mvT hZ (hw _ (List.mem_of_getElem? (i := 22) rfl))) (mvT hZ (hw _ (List.mem_of_getElem? (i := 23) rfl))) (notFace_of_selects (args := #[]) (mvT hZ (hw _ (List.mem_of_getElem? (i := 25) rfl)))) (mvT hZ (hw _ (List.mem_of_getElem? (i := 25) rfl))) (mvT hZ (hw _ (List.mem_of_getElem? (i := 24) rfl))) (by decide) (backOf (W := 0) (rm4 l Z aw hw [] b1 (p1 + (1 : Int32)) p0 p1 T2.heap n0 Z2 P2_1 P2_2) hZ (hw _ (List.mem_of_getElem? (i := 26) rfl)) (hw _ (List.mem_of_getElem? (i := 2) rfl)) (by decide) (by decide)) q43a q43c (g := (mkF m 123 #[.val (.int p0), .val (.int p1), .val (.int p2), .val (.ref b1), .val (.int (f4 p2 p0 p1)), .val (.int (1 : Int32)), .val (.int (0 : Int32))] [(.int (p1 + (1 : Int32))), (.ref b1)])) rfl (by rw [hml]; rfl) (Steps.refl _) (argsL := [(.int (p1 + (1 : Int32)))]) (rest := []) (lenOf pd_0_1 rfl) rfl (by show 2 * 0 + _ ≤ _; exact Nat.le_of_eq rfl) (hb hby at_123) (fun _ _ => ⟨rfl, e39, (by decide : 1 + 0 ≤ _), (by decide : 4 + 0 ≤ _)⟩)
                dsimp only [Pt.U, Pt.locs, Pt.cells, Pt.slots] at X43 l43 y43 z43 st43 hQ43
                subst l43 y43 z43
                obtain ⟨rfl, Nq43, e43⟩ := hQ43
                have N43 := Fr.app N39 Nq43
                refine own_back (b := T43.setTop (mkF m 126 #[.val (.int p0), .val (.int p1), .val (.int p2), .val (.ref b1), .val (.int (f4 p2 p0 p1)), .val (.int (1 : Int32)), .val (.int (0 : Int32))] [(.int (f4 (p1 + (1 : Int32)) p0 p1))])) (fun t kt => ?_) ?_
                · show Steps p.tables e below (T39.setTop (mkF m 116 #[.val (.int p0), .val (.int p1), .val (.int p2), .val (.ref b1), .val (.int (f4 p2 p0 p1)), .val (.int (1 : Int32)), .val (.int (0 : Int32))] [(.int (2147483647 : Int32)), (.int p1)])) _
                  refine XS.icmpNo X39.here hx rfl (hb hby at_116) rfl (feq hc116_42).1 ?_
                  show Steps p.tables e below (T39.setTop (mkF m 119 #[.val (.int p0), .val (.int p1), .val (.int p2), .val (.ref b1), .val (.int (f4 p2 p0 p1)), .val (.int (1 : Int32)), .val (.int (0 : Int32))] [])) _
                  refine XS.aloadN X39.here hx rfl (hb hby at_119) rfl rfl ?_
                  show Steps p.tables e below (T39.setTop (mkF m 120 #[.val (.int p0), .val (.int p1), .val (.int p2), .val (.ref b1), .val (.int (f4 p2 p0 p1)), .val (.int (1 : Int32)), .val (.int (0 : Int32))] [(.ref b1)])) _
                  refine XS.iloadN X39.here hx rfl (hb hby at_120) rfl ?_
                  show Steps p.tables e below (T39.setTop (mkF m 121 #[.val (.int p0), .val (.int p1), .val (.int p2), .val (.ref b1), .val (.int (f4 p2 p0 p1)), .val (.int (1 : Int32)), .val (.int (0 : Int32))] [(.int p1), (.ref b1)])) _
                  refine XS.iconst X39.here hx rfl (hb hby at_121) ?_
                  show Steps p.tables e below (T39.setTop (mkF m 122 #[.val (.int p0), .val (.int p1), .val (.int p2), .val (.ref b1), .val (.int (f4 p2 p0 p1)), .val (.int (1 : Int32)), .val (.int (0 : Int32))] [(.int (1 : Int32)), (.int p1), (.ref b1)])) _
                  refine XS.iadd X39.here hx rfl (hb hby at_122) rfl ?_
                  show Steps p.tables e below (T39.setTop (mkF m 123 #[.val (.int p0), .val (.int p1), .val (.int p2), .val (.ref b1), .val (.int (f4 p2 p0 p1)), .val (.int (1 : Int32)), .val (.int (0 : Int32))] [(.int (p1 + (1 : Int32))), (.ref b1)])) _
                  refine st43.trans ?_
                  exact kt
                by_cases hc126_44 : (f4 (p1 + (1 : Int32)) p0 p1) = (0 : Int32)
                · refine own_back (b := T43.setTop (mkF m 132 #[.val (.int p0), .val (.int p1), .val (.int p2), .val (.ref b1), .val (.int (f4 p2 p0 p1)), .val (.int (1 : Int32)), .val (.int (0 : Int32))] [(.int (1 : Int32))])) (fun t kt => ?_) ?_
                  · show Steps p.tables e below (T43.setTop (mkF m 126 #[.val (.int p0), .val (.int p1), .val (.int p2), .val (.ref b1), .val (.int (f4 p2 p0 p1)), .val (.int (1 : Int32)), .val (.int (0 : Int32))] [(.int (f4 (p1 + (1 : Int32)) p0 p1))])) _
                    refine XS.ifYes X43.here hx rfl (pc0 := 126) (pc' := 131) rfl (hb hby at_126) rfl ((if0 _ _).trans (teq hc126_44).1) (by decide) (by decide) ?_
                    show Steps p.tables e below (T43.setTop (mkF m 131 #[.val (.int p0), .val (.int p1), .val (.int p2), .val (.ref b1), .val (.int (f4 p2 p0 p1)), .val (.int (1 : Int32)), .val (.int (0 : Int32))] [])) _
                    refine XS.iconst X43.here hx rfl (hb hby at_131) ?_
                    exact kt
                  obtain ⟨fs, hr, hrun, hended, hW, hsame⟩ := X43.leave (v := some (.int (1 : Int32))) (fun h => by rw [Bd.returns] at h; cases h)
                  refine ⟨_, _, ?_, hrun, hended, _, _, rfl, ?_, ⟨_, rfl⟩, hW, hsame.mono (by decide) (by decide)⟩
                  · show Steps p.tables e below (T43.setTop (mkF m 132 #[.val (.int p0), .val (.int p1), .val (.int p2), .val (.ref b1), .val (.int (f4 p2 p0 p1)), .val (.int (1 : Int32)), .val (.int (0 : Int32))] [(.int (1 : Int32))])) _
                    exact retN X43 hx (t := .boolean) Bd.returns (by simp) (hb hby at_132) hr
                  · show Q0 Z p0 p1 p2 h0 n0 _ T43.heap _
                    rw [e43]
                    exact ⟨by rw [show f0 p0 p1 p2 = (1 : Int32) from by unfold f0; rw [if_neg hc21_4, if_neg hc52_21, if_pos hc66_36, if_pos hc78_38, if_pos hc90_40, if_pos hc98_41, if_neg hc116_42, if_pos hc126_44]], N43⟩
                · refine own_back (b := T43.setTop (mkF m 130 #[.val (.int p0), .val (.int p1), .val (.int p2), .val (.ref b1), .val (.int (f4 p2 p0 p1)), .val (.int (1 : Int32)), .val (.int (0 : Int32))] [(.int (0 : Int32))])) (fun t kt => ?_) ?_
                  · show Steps p.tables e below (T43.setTop (mkF m 126 #[.val (.int p0), .val (.int p1), .val (.int p2), .val (.ref b1), .val (.int (f4 p2 p0 p1)), .val (.int (1 : Int32)), .val (.int (0 : Int32))] [(.int (f4 (p1 + (1 : Int32)) p0 p1))])) _
                    refine XS.ifNo X43.here hx rfl (hb hby at_126) rfl ((if0 _ _).trans (feq hc126_44).1) ?_
                    show Steps p.tables e below (T43.setTop (mkF m 129 #[.val (.int p0), .val (.int p1), .val (.int p2), .val (.ref b1), .val (.int (f4 p2 p0 p1)), .val (.int (1 : Int32)), .val (.int (0 : Int32))] [])) _
                    refine XS.iconst X43.here hx rfl (hb hby at_129) ?_
                    exact kt
                  obtain ⟨fs, hr, hrun, hended, hW, hsame⟩ := X43.leave (v := some (.int (0 : Int32))) (fun h => by rw [Bd.returns] at h; cases h)
                  refine ⟨_, _, ?_, hrun, hended, _, _, rfl, ?_, ⟨_, rfl⟩, hW, hsame.mono (by decide) (by decide)⟩
                  · show Steps p.tables e below (T43.setTop (mkF m 130 #[.val (.int p0), .val (.int p1), .val (.int p2), .val (.ref b1), .val (.int (f4 p2 p0 p1)), .val (.int (1 : Int32)), .val (.int (0 : Int32))] [(.int (0 : Int32))])) _
                    exact retN X43 hx (t := .boolean) Bd.returns (by simp) (hb hby at_130) hr
                  · show Q0 Z p0 p1 p2 h0 n0 _ T43.heap _
                    rw [e43]
                    exact ⟨by rw [show f0 p0 p1 p2 = (0 : Int32) from by unfold f0; rw [if_neg hc21_4, if_neg hc52_21, if_pos hc66_36, if_pos hc78_38, if_pos hc90_40, if_pos hc98_41, if_neg hc116_42, if_neg hc126_44]], N43⟩
            · obtain ⟨cq45, kq45, q45a, q45b, q45c⟩ := isOf hZ e39 P2_0
              obtain ⟨_, _, ⟨T45, L45, k45, n45⟩, -, X45, ⟨Lc45, hQ45, l45, y45, z45⟩, st45⟩ := X39.virtualBack hx (y := (⟨"com/example/keptlog/keptlog/server/GroupPolicy", "allowsSessionTimeout", "(I)Z"⟩ : MethodName)) (z := (⟨"com/example/keptlog/keptlog/server/GroupPolicy", "allowsSessionTimeout", "(I)Z"⟩ : MethodName)) hown (mvT hZ (hw _ (List.mem_of_getElem? (i := 22) rfl))) (mvT hZ (hw _ (List.mem_of_getElem? (i := 23) rfl))) (notFace_of_selects (args := #[]) (mvT hZ (hw _ (List.mem_of_getElem? (i := 25) rfl)))) (mvT hZ (hw _ (List.mem_of_getElem? (i := 25) rfl))) (mvT hZ (hw _ (List.mem_of_getElem? (i := 24) rfl))) (by decide) (backOf (W := 0) (rm4 l Z aw hw [] b1 (p0 - (1 : Int32)) p0 p1 T2.heap n0 Z2 P2_1 P2_2) hZ (hw _ (List.mem_of_getElem? (i := 26) rfl)) (hw _ (List.mem_of_getElem? (i := 2) rfl)) (by decide) (by decide)) q45a q45c (g := (mkF m 105 #[.val (.int p0), .val (.int p1), .val (.int p2), .val (.ref b1), .val (.int (f4 p2 p0 p1)), .val (.int (1 : Int32)), .val (.int (0 : Int32))] [(.int (p0 - (1 : Int32))), (.ref b1)])) rfl (by rw [hml]; rfl) (Steps.refl _) (argsL := [(.int (p0 - (1 : Int32)))]) (rest := []) (lenOf pd_0_1 rfl) rfl (by show 2 * 0 + _ ≤ _; exact Nat.le_of_eq rfl) (hb hby at_105) (fun _ _ => ⟨rfl, e39, (by decide : 1 + 0 ≤ _), (by decide : 4 + 0 ≤ _)⟩)
              dsimp only [Pt.U, Pt.locs, Pt.cells, Pt.slots] at X45 l45 y45 z45 st45 hQ45
              subst l45 y45 z45
              obtain ⟨rfl, Nq45, e45⟩ := hQ45
              have N45 := Fr.app N39 Nq45
              refine own_back (b := T45.setTop (mkF m 108 #[.val (.int p0), .val (.int p1), .val (.int p2), .val (.ref b1), .val (.int (f4 p2 p0 p1)), .val (.int (1 : Int32)), .val (.int (0 : Int32))] [(.int (f4 (p0 - (1 : Int32)) p0 p1))])) (fun t kt => ?_) ?_
              · show Steps p.tables e below (T39.setTop (mkF m 98 #[.val (.int p0), .val (.int p1), .val (.int p2), .val (.ref b1), .val (.int (f4 p2 p0 p1)), .val (.int (1 : Int32)), .val (.int (0 : Int32))] [(.int (-2147483648 : Int32)), (.int p0)])) _
                refine XS.icmpNo X39.here hx rfl (hb hby at_98) rfl (feq hc98_41).1 ?_
                show Steps p.tables e below (T39.setTop (mkF m 101 #[.val (.int p0), .val (.int p1), .val (.int p2), .val (.ref b1), .val (.int (f4 p2 p0 p1)), .val (.int (1 : Int32)), .val (.int (0 : Int32))] [])) _
                refine XS.aloadN X39.here hx rfl (hb hby at_101) rfl rfl ?_
                show Steps p.tables e below (T39.setTop (mkF m 102 #[.val (.int p0), .val (.int p1), .val (.int p2), .val (.ref b1), .val (.int (f4 p2 p0 p1)), .val (.int (1 : Int32)), .val (.int (0 : Int32))] [(.ref b1)])) _
                refine XS.iloadN X39.here hx rfl (hb hby at_102) rfl ?_
                show Steps p.tables e below (T39.setTop (mkF m 103 #[.val (.int p0), .val (.int p1), .val (.int p2), .val (.ref b1), .val (.int (f4 p2 p0 p1)), .val (.int (1 : Int32)), .val (.int (0 : Int32))] [(.int p0), (.ref b1)])) _
                refine XS.iconst X39.here hx rfl (hb hby at_103) ?_
                show Steps p.tables e below (T39.setTop (mkF m 104 #[.val (.int p0), .val (.int p1), .val (.int p2), .val (.ref b1), .val (.int (f4 p2 p0 p1)), .val (.int (1 : Int32)), .val (.int (0 : Int32))] [(.int (1 : Int32)), (.int p0), (.ref b1)])) _
                refine XS.isub X39.here hx rfl (hb hby at_104) rfl ?_
                show Steps p.tables e below (T39.setTop (mkF m 105 #[.val (.int p0), .val (.int p1), .val (.int p2), .val (.ref b1), .val (.int (f4 p2 p0 p1)), .val (.int (1 : Int32)), .val (.int (0 : Int32))] [(.int (p0 - (1 : Int32))), (.ref b1)])) _
                refine st45.trans ?_
                exact kt
              by_cases hc108_46 : (f4 (p0 - (1 : Int32)) p0 p1) = (0 : Int32)
              · refine own_back (b := T45.setTop (mkF m 116 #[.val (.int p0), .val (.int p1), .val (.int p2), .val (.ref b1), .val (.int (f4 p2 p0 p1)), .val (.int (1 : Int32)), .val (.int (0 : Int32))] [(.int (2147483647 : Int32)), (.int p1)])) (fun t kt => ?_) ?_
                · show Steps p.tables e below (T45.setTop (mkF m 108 #[.val (.int p0), .val (.int p1), .val (.int p2), .val (.ref b1), .val (.int (f4 p2 p0 p1)), .val (.int (1 : Int32)), .val (.int (0 : Int32))] [(.int (f4 (p0 - (1 : Int32)) p0 p1))])) _
                  refine XS.ifYes X45.here hx rfl (pc0 := 108) (pc' := 113) rfl (hb hby at_108) rfl ((if0 _ _).trans (teq hc108_46).1) (by decide) (by decide) ?_
                  show Steps p.tables e below (T45.setTop (mkF m 113 #[.val (.int p0), .val (.int p1), .val (.int p2), .val (.ref b1), .val (.int (f4 p2 p0 p1)), .val (.int (1 : Int32)), .val (.int (0 : Int32))] [])) _
                  refine XS.iloadN X45.here hx rfl (hb hby at_113) rfl ?_
                  show Steps p.tables e below (T45.setTop (mkF m 114 #[.val (.int p0), .val (.int p1), .val (.int p2), .val (.ref b1), .val (.int (f4 p2 p0 p1)), .val (.int (1 : Int32)), .val (.int (0 : Int32))] [(.int p1)])) _
                  refine X45.ldcInt hx hown (mvT hZ (hw _ (List.mem_of_getElem? (i := 35) rfl))) (g := (mkF m 114 #[.val (.int p0), .val (.int p1), .val (.int p2), .val (.ref b1), .val (.int (f4 p2 p0 p1)), .val (.int (1 : Int32)), .val (.int (0 : Int32))] [(.int p1)])) rfl (hb hby at_114) _ ?_
                  exact kt
                by_cases hc116_47 : p1 = (2147483647 : Int32)
                · refine own_back (b := T45.setTop (mkF m 132 #[.val (.int p0), .val (.int p1), .val (.int p2), .val (.ref b1), .val (.int (f4 p2 p0 p1)), .val (.int (1 : Int32)), .val (.int (0 : Int32))] [(.int (1 : Int32))])) (fun t kt => ?_) ?_
                  · show Steps p.tables e below (T45.setTop (mkF m 116 #[.val (.int p0), .val (.int p1), .val (.int p2), .val (.ref b1), .val (.int (f4 p2 p0 p1)), .val (.int (1 : Int32)), .val (.int (0 : Int32))] [(.int (2147483647 : Int32)), (.int p1)])) _
                    refine XS.icmpYes X45.here hx rfl (pc0 := 116) (pc' := 131) rfl (hb hby at_116) rfl (teq hc116_47).1 (by decide) (by decide) ?_
                    show Steps p.tables e below (T45.setTop (mkF m 131 #[.val (.int p0), .val (.int p1), .val (.int p2), .val (.ref b1), .val (.int (f4 p2 p0 p1)), .val (.int (1 : Int32)), .val (.int (0 : Int32))] [])) _
                    refine XS.iconst X45.here hx rfl (hb hby at_131) ?_
                    exact kt
                  obtain ⟨fs, hr, hrun, hended, hW, hsame⟩ := X45.leave (v := some (.int (1 : Int32))) (fun h => by rw [Bd.returns] at h; cases h)
                  refine ⟨_, _, ?_, hrun, hended, _, _, rfl, ?_, ⟨_, rfl⟩, hW, hsame.mono (by decide) (by decide)⟩
                  · show Steps p.tables e below (T45.setTop (mkF m 132 #[.val (.int p0), .val (.int p1), .val (.int p2), .val (.ref b1), .val (.int (f4 p2 p0 p1)), .val (.int (1 : Int32)), .val (.int (0 : Int32))] [(.int (1 : Int32))])) _
                    exact retN X45 hx (t := .boolean) Bd.returns (by simp) (hb hby at_132) hr
                  · show Q0 Z p0 p1 p2 h0 n0 _ T45.heap _
                    rw [e45]
                    exact ⟨by rw [show f0 p0 p1 p2 = (1 : Int32) from by unfold f0; rw [if_neg hc21_4, if_neg hc52_21, if_pos hc66_36, if_pos hc78_38, if_pos hc90_40, if_neg hc98_41, if_pos hc108_46, if_pos hc116_47]], N45⟩
                · obtain ⟨cq48, kq48, q48a, q48b, q48c⟩ := isOf hZ e45 P2_0
                  obtain ⟨_, _, ⟨T48, L48, k48, n48⟩, -, X48, ⟨Lc48, hQ48, l48, y48, z48⟩, st48⟩ := X45.virtualBack hx (y := (⟨"com/example/keptlog/keptlog/server/GroupPolicy", "allowsSessionTimeout", "(I)Z"⟩ : MethodName)) (z := (⟨"com/example/keptlog/keptlog/server/GroupPolicy", "allowsSessionTimeout", "(I)Z"⟩ : MethodName)) hown (mvT hZ (hw _ (List.mem_of_getElem? (i := 22) rfl))) (mvT hZ (hw _ (List.mem_of_getElem? (i := 23) rfl))) (notFace_of_selects (args := #[]) (mvT hZ (hw _ (List.mem_of_getElem? (i := 25) rfl)))) (mvT hZ (hw _ (List.mem_of_getElem? (i := 25) rfl))) (mvT hZ (hw _ (List.mem_of_getElem? (i := 24) rfl))) (by decide) (backOf (W := 0) (rm4 l Z aw hw [] b1 (p1 + (1 : Int32)) p0 p1 T2.heap n0 Z2 P2_1 P2_2) hZ (hw _ (List.mem_of_getElem? (i := 26) rfl)) (hw _ (List.mem_of_getElem? (i := 2) rfl)) (by decide) (by decide)) q48a q48c (g := (mkF m 123 #[.val (.int p0), .val (.int p1), .val (.int p2), .val (.ref b1), .val (.int (f4 p2 p0 p1)), .val (.int (1 : Int32)), .val (.int (0 : Int32))] [(.int (p1 + (1 : Int32))), (.ref b1)])) rfl (by rw [hml]; rfl) (Steps.refl _) (argsL := [(.int (p1 + (1 : Int32)))]) (rest := []) (lenOf pd_0_1 rfl) rfl (by show 2 * 0 + _ ≤ _; exact Nat.le_of_eq rfl) (hb hby at_123) (fun _ _ => ⟨rfl, e45, (by decide : 1 + 0 ≤ _), (by decide : 4 + 0 ≤ _)⟩)
                  dsimp only [Pt.U, Pt.locs, Pt.cells, Pt.slots] at X48 l48 y48 z48 st48 hQ48
                  subst l48 y48 z48
                  obtain ⟨rfl, Nq48, e48⟩ := hQ48
                  have N48 := Fr.app N45 Nq48
                  refine own_back (b := T48.setTop (mkF m 126 #[.val (.int p0), .val (.int p1), .val (.int p2), .val (.ref b1), .val (.int (f4 p2 p0 p1)), .val (.int (1 : Int32)), .val (.int (0 : Int32))] [(.int (f4 (p1 + (1 : Int32)) p0 p1))])) (fun t kt => ?_) ?_
                  · show Steps p.tables e below (T45.setTop (mkF m 116 #[.val (.int p0), .val (.int p1), .val (.int p2), .val (.ref b1), .val (.int (f4 p2 p0 p1)), .val (.int (1 : Int32)), .val (.int (0 : Int32))] [(.int (2147483647 : Int32)), (.int p1)])) _
                    refine XS.icmpNo X45.here hx rfl (hb hby at_116) rfl (feq hc116_47).1 ?_
                    show Steps p.tables e below (T45.setTop (mkF m 119 #[.val (.int p0), .val (.int p1), .val (.int p2), .val (.ref b1), .val (.int (f4 p2 p0 p1)), .val (.int (1 : Int32)), .val (.int (0 : Int32))] [])) _
                    refine XS.aloadN X45.here hx rfl (hb hby at_119) rfl rfl ?_
                    show Steps p.tables e below (T45.setTop (mkF m 120 #[.val (.int p0), .val (.int p1), .val (.int p2), .val (.ref b1), .val (.int (f4 p2 p0 p1)), .val (.int (1 : Int32)), .val (.int (0 : Int32))] [(.ref b1)])) _
                    refine XS.iloadN X45.here hx rfl (hb hby at_120) rfl ?_
                    show Steps p.tables e below (T45.setTop (mkF m 121 #[.val (.int p0), .val (.int p1), .val (.int p2), .val (.ref b1), .val (.int (f4 p2 p0 p1)), .val (.int (1 : Int32)), .val (.int (0 : Int32))] [(.int p1), (.ref b1)])) _
                    refine XS.iconst X45.here hx rfl (hb hby at_121) ?_
                    show Steps p.tables e below (T45.setTop (mkF m 122 #[.val (.int p0), .val (.int p1), .val (.int p2), .val (.ref b1), .val (.int (f4 p2 p0 p1)), .val (.int (1 : Int32)), .val (.int (0 : Int32))] [(.int (1 : Int32)), (.int p1), (.ref b1)])) _
                    refine XS.iadd X45.here hx rfl (hb hby at_122) rfl ?_
                    show Steps p.tables e below (T45.setTop (mkF m 123 #[.val (.int p0), .val (.int p1), .val (.int p2), .val (.ref b1), .val (.int (f4 p2 p0 p1)), .val (.int (1 : Int32)), .val (.int (0 : Int32))] [(.int (p1 + (1 : Int32))), (.ref b1)])) _
                    refine st48.trans ?_
                    exact kt
                  by_cases hc126_49 : (f4 (p1 + (1 : Int32)) p0 p1) = (0 : Int32)
                  · refine own_back (b := T48.setTop (mkF m 132 #[.val (.int p0), .val (.int p1), .val (.int p2), .val (.ref b1), .val (.int (f4 p2 p0 p1)), .val (.int (1 : Int32)), .val (.int (0 : Int32))] [(.int (1 : Int32))])) (fun t kt => ?_) ?_
                    · show Steps p.tables e below (T48.setTop (mkF m 126 #[.val (.int p0), .val (.int p1), .val (.int p2), .val (.ref b1), .val (.int (f4 p2 p0 p1)), .val (.int (1 : Int32)), .val (.int (0 : Int32))] [(.int (f4 (p1 + (1 : Int32)) p0 p1))])) _
                      refine XS.ifYes X48.here hx rfl (pc0 := 126) (pc' := 131) rfl (hb hby at_126) rfl ((if0 _ _).trans (teq hc126_49).1) (by decide) (by decide) ?_
                      show Steps p.tables e below (T48.setTop (mkF m 131 #[.val (.int p0), .val (.int p1), .val (.int p2), .val (.ref b1), .val (.int (f4 p2 p0 p1)), .val (.int (1 : Int32)), .val (.int (0 : Int32))] [])) _
                      refine XS.iconst X48.here hx rfl (hb hby at_131) ?_
                      exact kt
                    obtain ⟨fs, hr, hrun, hended, hW, hsame⟩ := X48.leave (v := some (.int (1 : Int32))) (fun h => by rw [Bd.returns] at h; cases h)
                    refine ⟨_, _, ?_, hrun, hended, _, _, rfl, ?_, ⟨_, rfl⟩, hW, hsame.mono (by decide) (by decide)⟩
                    · show Steps p.tables e below (T48.setTop (mkF m 132 #[.val (.int p0), .val (.int p1), .val (.int p2), .val (.ref b1), .val (.int (f4 p2 p0 p1)), .val (.int (1 : Int32)), .val (.int (0 : Int32))] [(.int (1 : Int32))])) _
                      exact retN X48 hx (t := .boolean) Bd.returns (by simp) (hb hby at_132) hr
                    · show Q0 Z p0 p1 p2 h0 n0 _ T48.heap _
                      rw [e48]
                      exact ⟨by rw [show f0 p0 p1 p2 = (1 : Int32) from by unfold f0; rw [if_neg hc21_4, if_neg hc52_21, if_pos hc66_36, if_pos hc78_38, if_pos hc90_40, if_neg hc98_41, if_pos hc108_46, if_neg hc116_47, if_pos hc126_49]], N48⟩
                  · refine own_back (b := T48.setTop (mkF m 130 #[.val (.int p0), .val (.int p1), .val (.int p2), .val (.ref b1), .val (.int (f4 p2 p0 p1)), .val (.int (1 : Int32)), .val (.int (0 : Int32))] [(.int (0 : Int32))])) (fun t kt => ?_) ?_
                    · show Steps p.tables e below (T48.setTop (mkF m 126 #[.val (.int p0), .val (.int p1), .val (.int p2), .val (.ref b1), .val (.int (f4 p2 p0 p1)), .val (.int (1 : Int32)), .val (.int (0 : Int32))] [(.int (f4 (p1 + (1 : Int32)) p0 p1))])) _
                      refine XS.ifNo X48.here hx rfl (hb hby at_126) rfl ((if0 _ _).trans (feq hc126_49).1) ?_
                      show Steps p.tables e below (T48.setTop (mkF m 129 #[.val (.int p0), .val (.int p1), .val (.int p2), .val (.ref b1), .val (.int (f4 p2 p0 p1)), .val (.int (1 : Int32)), .val (.int (0 : Int32))] [])) _
                      refine XS.iconst X48.here hx rfl (hb hby at_129) ?_
                      exact kt
                    obtain ⟨fs, hr, hrun, hended, hW, hsame⟩ := X48.leave (v := some (.int (0 : Int32))) (fun h => by rw [Bd.returns] at h; cases h)
                    refine ⟨_, _, ?_, hrun, hended, _, _, rfl, ?_, ⟨_, rfl⟩, hW, hsame.mono (by decide) (by decide)⟩
                    · show Steps p.tables e below (T48.setTop (mkF m 130 #[.val (.int p0), .val (.int p1), .val (.int p2), .val (.ref b1), .val (.int (f4 p2 p0 p1)), .val (.int (1 : Int32)), .val (.int (0 : Int32))] [(.int (0 : Int32))])) _
                      exact retN X48 hx (t := .boolean) Bd.returns (by simp) (hb hby at_130) hr
                    · show Q0 Z p0 p1 p2 h0 n0 _ T48.heap _
                      rw [e48]
                      exact ⟨by rw [show f0 p0 p1 p2 = (0 : Int32) from by unfold f0; rw [if_neg hc21_4, if_neg hc52_21, if_pos hc66_36, if_pos hc78_38, if_pos hc90_40, if_neg hc98_41, if_pos hc108_46, if_neg hc116_47, if_neg hc126_49]], N48⟩
              · refine own_back (b := T45.setTop (mkF m 112 #[.val (.int p0), .val (.int p1), .val (.int p2), .val (.ref b1), .val (.int (f4 p2 p0 p1)), .val (.int (1 : Int32)), .val (.int (0 : Int32))] [(.int (0 : Int32))])) (fun t kt => ?_) ?_
                · show Steps p.tables e below (T45.setTop (mkF m 108 #[.val (.int p0), .val (.int p1), .val (.int p2), .val (.ref b1), .val (.int (f4 p2 p0 p1)), .val (.int (1 : Int32)), .val (.int (0 : Int32))] [(.int (f4 (p0 - (1 : Int32)) p0 p1))])) _
                  refine XS.ifNo X45.here hx rfl (hb hby at_108) rfl ((if0 _ _).trans (feq hc108_46).1) ?_
                  show Steps p.tables e below (T45.setTop (mkF m 111 #[.val (.int p0), .val (.int p1), .val (.int p2), .val (.ref b1), .val (.int (f4 p2 p0 p1)), .val (.int (1 : Int32)), .val (.int (0 : Int32))] [])) _
                  refine XS.iconst X45.here hx rfl (hb hby at_111) ?_
                  exact kt
                obtain ⟨fs, hr, hrun, hended, hW, hsame⟩ := X45.leave (v := some (.int (0 : Int32))) (fun h => by rw [Bd.returns] at h; cases h)
                refine ⟨_, _, ?_, hrun, hended, _, _, rfl, ?_, ⟨_, rfl⟩, hW, hsame.mono (by decide) (by decide)⟩
                · show Steps p.tables e below (T45.setTop (mkF m 112 #[.val (.int p0), .val (.int p1), .val (.int p2), .val (.ref b1), .val (.int (f4 p2 p0 p1)), .val (.int (1 : Int32)), .val (.int (0 : Int32))] [(.int (0 : Int32))])) _
                  exact retN X45 hx (t := .boolean) Bd.returns (by simp) (hb hby at_112) hr
                · show Q0 Z p0 p1 p2 h0 n0 _ T45.heap _
                  rw [e45]
                  exact ⟨by rw [show f0 p0 p1 p2 = (0 : Int32) from by unfold f0; rw [if_neg hc21_4, if_neg hc52_21, if_pos hc66_36, if_pos hc78_38, if_pos hc90_40, if_neg hc98_41, if_neg hc108_46]], N45⟩
          · refine own_back (b := T39.setTop (mkF m 94 #[.val (.int p0), .val (.int p1), .val (.int p2), .val (.ref b1), .val (.int (f4 p2 p0 p1)), .val (.int (1 : Int32)), .val (.int (0 : Int32))] [(.int (0 : Int32))])) (fun t kt => ?_) ?_
            · show Steps p.tables e below (T39.setTop (mkF m 90 #[.val (.int p0), .val (.int p1), .val (.int p2), .val (.ref b1), .val (.int (f4 p2 p0 p1)), .val (.int (1 : Int32)), .val (.int (0 : Int32))] [(.int (1 : Int32)), (.int (f4 p1 p0 p1))])) _
              refine XS.icmpNo X39.here hx rfl (hb hby at_90) rfl (feq hc90_40).1 ?_
              show Steps p.tables e below (T39.setTop (mkF m 93 #[.val (.int p0), .val (.int p1), .val (.int p2), .val (.ref b1), .val (.int (f4 p2 p0 p1)), .val (.int (1 : Int32)), .val (.int (0 : Int32))] [])) _
              refine XS.iconst X39.here hx rfl (hb hby at_93) ?_
              exact kt
            obtain ⟨fs, hr, hrun, hended, hW, hsame⟩ := X39.leave (v := some (.int (0 : Int32))) (fun h => by rw [Bd.returns] at h; cases h)
            refine ⟨_, _, ?_, hrun, hended, _, _, rfl, ?_, ⟨_, rfl⟩, hW, hsame.mono (by decide) (by decide)⟩
            · show Steps p.tables e below (T39.setTop (mkF m 94 #[.val (.int p0), .val (.int p1), .val (.int p2), .val (.ref b1), .val (.int (f4 p2 p0 p1)), .val (.int (1 : Int32)), .val (.int (0 : Int32))] [(.int (0 : Int32))])) _
              exact retN X39 hx (t := .boolean) Bd.returns (by simp) (hb hby at_94) hr
            · show Q0 Z p0 p1 p2 h0 n0 _ T39.heap _
              rw [e39]
              exact ⟨by rw [show f0 p0 p1 p2 = (0 : Int32) from by unfold f0; rw [if_neg hc21_4, if_neg hc52_21, if_pos hc66_36, if_pos hc78_38, if_neg hc90_40]], N39⟩
        · refine own_back (b := T37.setTop (mkF m 82 #[.val (.int p0), .val (.int p1), .val (.int p2), .val (.ref b1), .val (.int (f4 p2 p0 p1)), .val (.int (1 : Int32)), .val (.int (0 : Int32))] [(.int (0 : Int32))])) (fun t kt => ?_) ?_
          · show Steps p.tables e below (T37.setTop (mkF m 78 #[.val (.int p0), .val (.int p1), .val (.int p2), .val (.ref b1), .val (.int (f4 p2 p0 p1)), .val (.int (1 : Int32)), .val (.int (0 : Int32))] [(.int (1 : Int32)), (.int (f4 p0 p0 p1))])) _
            refine XS.icmpNo X37.here hx rfl (hb hby at_78) rfl (feq hc78_38).1 ?_
            show Steps p.tables e below (T37.setTop (mkF m 81 #[.val (.int p0), .val (.int p1), .val (.int p2), .val (.ref b1), .val (.int (f4 p2 p0 p1)), .val (.int (1 : Int32)), .val (.int (0 : Int32))] [])) _
            refine XS.iconst X37.here hx rfl (hb hby at_81) ?_
            exact kt
          obtain ⟨fs, hr, hrun, hended, hW, hsame⟩ := X37.leave (v := some (.int (0 : Int32))) (fun h => by rw [Bd.returns] at h; cases h)
          refine ⟨_, _, ?_, hrun, hended, _, _, rfl, ?_, ⟨_, rfl⟩, hW, hsame.mono (by decide) (by decide)⟩
          · show Steps p.tables e below (T37.setTop (mkF m 82 #[.val (.int p0), .val (.int p1), .val (.int p2), .val (.ref b1), .val (.int (f4 p2 p0 p1)), .val (.int (1 : Int32)), .val (.int (0 : Int32))] [(.int (0 : Int32))])) _
            exact retN X37 hx (t := .boolean) Bd.returns (by simp) (hb hby at_82) hr
          · show Q0 Z p0 p1 p2 h0 n0 _ T37.heap _
            rw [e37]
            exact ⟨by rw [show f0 p0 p1 p2 = (0 : Int32) from by unfold f0; rw [if_neg hc21_4, if_neg hc52_21, if_pos hc66_36, if_neg hc78_38]], N37⟩
      · refine own_back (b := T20.setTop (mkF m 70 #[.val (.int p0), .val (.int p1), .val (.int p2), .val (.ref b1), .val (.int (f4 p2 p0 p1)), .val (.int (1 : Int32)), .val (.int (0 : Int32))] [(.int (0 : Int32))])) (fun t kt => ?_) ?_
        · show Steps p.tables e below (T20.setTop (mkF m 66 #[.val (.int p0), .val (.int p1), .val (.int p2), .val (.ref b1), .val (.int (f4 p2 p0 p1)), .val (.int (1 : Int32)), .val (.int (0 : Int32))] [(.int (0 : Int32)), (.int (f4 p2 p0 p1))])) _
          refine XS.icmpNo X20.here hx rfl (hb hby at_66) rfl (feq hc66_36).1 ?_
          show Steps p.tables e below (T20.setTop (mkF m 69 #[.val (.int p0), .val (.int p1), .val (.int p2), .val (.ref b1), .val (.int (f4 p2 p0 p1)), .val (.int (1 : Int32)), .val (.int (0 : Int32))] [])) _
          refine XS.iconst X20.here hx rfl (hb hby at_69) ?_
          exact kt
        obtain ⟨fs, hr, hrun, hended, hW, hsame⟩ := X20.leave (v := some (.int (0 : Int32))) (fun h => by rw [Bd.returns] at h; cases h)
        refine ⟨_, _, ?_, hrun, hended, _, _, rfl, ?_, ⟨_, rfl⟩, hW, hsame.mono (by decide) (by decide)⟩
        · show Steps p.tables e below (T20.setTop (mkF m 70 #[.val (.int p0), .val (.int p1), .val (.int p2), .val (.ref b1), .val (.int (f4 p2 p0 p1)), .val (.int (1 : Int32)), .val (.int (0 : Int32))] [(.int (0 : Int32))])) _
          exact retN X20 hx (t := .boolean) Bd.returns (by simp) (hb hby at_70) hr
        · show Q0 Z p0 p1 p2 h0 n0 _ T20.heap _
          rw [e20]
          exact ⟨by rw [show f0 p0 p1 p2 = (0 : Int32) from by unfold f0; rw [if_neg hc21_4, if_neg hc52_21, if_neg hc66_36]], N20⟩
theorem own_f4 (p a b : Int32) : f4 p a b = if a.toInt ≤ p.toInt ∧ p.toInt ≤ b.toInt then 1 else 0 := by
  unfold f4
  simp only [Int32.lt_iff_toInt_lt]
  repeat' split
  all_goals first | rfl | (exfalso; omega)
theorem own_mm (a b c : Int32) (h : a.toInt ≤ b.toInt) : (f6 (f5 c a) b = c) ↔ (a.toInt ≤ c.toInt ∧ c.toInt ≤ b.toInt) := by
  unfold f5 f6
  simp only [Int32.lt_iff_toInt_lt, ← Int32.toInt_inj]
  repeat' split
  all_goals omega
theorem own_law (a b c : Int32) : f0 a b c = 1 := by
  have ra := rng32 a
  have rb := rng32 b
  have kM : (2147483647 : Int32).toInt = 2147483647 := rfl
  have km : (-2147483648 : Int32).toInt = -2147483648 := rfl
  have k1 : (1 : Int32).toInt = 1 := rfl
  have ha := c_isub a 1
  have hb := c_iadd b 1
  have ra' := rng32 (a - 1)
  have rb' := rng32 (b + 1)
  have z1 : ¬ (1 : Int32) = 0 := by decide
  have z0 : ¬ (0 : Int32) = 1 := by decide
  have low : ¬ a = (-2147483648 : Int32) → f4 (a - 1) a b = 0 := fun q => by
    rw [own_f4, if_neg]
    rw [← Int32.toInt_inj, km] at q
    omega
  have high : ¬ b = (2147483647 : Int32) → f4 (b + 1) a b = 0 := fun q => by
    rw [own_f4, if_neg]
    rw [← Int32.toInt_inj, kM] at q
    omega
  unfold f0
  by_cases h : b < a
  · have h' : b.toInt < a.toInt := Int32.lt_iff_toInt_lt.mp h
    have e : ∀ p, f4 p a b = 0 := fun p => by rw [own_f4, if_neg]; omega
    simp only [if_pos h, e, if_true, ite_self]
  · have h' : ¬ b.toInt < a.toInt := fun q => h (Int32.lt_iff_toInt_lt.mpr q)
    have ea : f4 a a b = 1 := by rw [own_f4, if_pos]; omega
    have eb : f4 b a b = 1 := by rw [own_f4, if_pos]; omega
    have m := own_mm a b c (by omega)
    have T : (if a = (-2147483648 : Int32) then (if b = (2147483647 : Int32) then (1 : Int32) else (if (f4 (b + (1 : Int32)) a b) = (0 : Int32) then (1 : Int32) else (0 : Int32))) else (if (f4 (a - (1 : Int32)) a b) = (0 : Int32) then (if b = (2147483647 : Int32) then (1 : Int32) else (if (f4 (b + (1 : Int32)) a b) = (0 : Int32) then (1 : Int32) else (0 : Int32))) else (0 : Int32))) = 1 := by
      have U : (if b = (2147483647 : Int32) then (1 : Int32) else (if (f4 (b + (1 : Int32)) a b) = (0 : Int32) then (1 : Int32) else (0 : Int32))) = 1 := by
        by_cases q : b = (2147483647 : Int32)
        · rw [if_pos q]
        · rw [if_neg q, high q, if_pos rfl]
      by_cases q : a = (-2147483648 : Int32)
      · rw [if_pos q, U]
      · rw [if_neg q, low q, if_pos rfl, U]
    rw [if_neg h, ea, eb, T]
    by_cases q : f6 (f5 c a) b = c
    · have ec : f4 c a b = 1 := by rw [own_f4, if_pos (m.mp q)]
      rw [if_pos q, ec]; decide
    · have ec : f4 c a b = 0 := by rw [own_f4, if_neg (fun u => q (m.mpr u))]
      rw [if_neg q, ec]; decide
set_option maxRecDepth 65536 in
set_option maxHeartbeats 40000000 in
theorem comes_1 {Post : Tables → Env → Array Value → State → Outcome → State → Prop} (hpost : ∀ tb e args s v u, (limb_1_1.after args s (.returned v) u = true ∧ limb_1_2.after args s (.returned v) u = true ∧ True) → FrameEnd s (.returned v) u (Jvm.fieldLocs frame_1_writes args s ++ Jvm.arrayLocs frame_1_arrays args s ++ Jvm.staticLocs frame_1_statics s) 16 128 → Post tb e args s (.returned v) u) :
    ArmFor flags0 classFile x code maxLocals ret World_1 tables_1 room_1 Calls_1 rest_1 Pre_1 Post := by
  intro l hfl _ _ p e ha hc hk s m args below hf hA hF happ hP
  obtain ⟨hcalls, hrest, hpre⟩ := hP
  obtain ⟨-, -, -, hnamed, -, -, -, hat⟩ := (Spec.applies_iff hf).mp happ
  obtain ⟨hg, hn⟩ := and_e (Cond.before_iff.mp (show (Jvm.Cond.and given_1 narrow_1).before args s = true from hpre))
  obtain ⟨gc, gr0⟩ := and_e hg
  obtain ⟨ga0, gr1⟩ := and_e gr0
  obtain ⟨ga1, gr2⟩ := and_e gr1
  obtain ⟨w0, w1, w2, rfl⟩ : ∃ w0 w1 w2 : Value, args = #[w0, w1, w2] := by
    have hs : args.size = 3 := by simpa [Cond.value, given_1] using gc
    obtain ⟨L⟩ := args
    match L, hs with
    | [w0, w1, w2], _ => exact ⟨w0, w1, w2, rfl⟩
  have hw := fun d (hd : d ∈ tables_1) => atoms_spec (ws := Jvm.Cond.code x code maxLocals ret :: tables_1) hat d (List.mem_cons_of_mem _ hd)
  have hfit : Fit s := fun {y c} hc i hi => by
    obtain ⟨ha, rfl⟩ := Array.getElem?_eq_some_iff.mp hc
    have q := List.all_eq_true.mp ((Array.all_eq_true_iff_forall_mem.mp hF) _ (Array.getElem_mem ha)) i (List.mem_range.mpr hi)
    simpa [Array.getElem?_eq_getElem hi] using q
  obtain ⟨i0, ei0⟩ := is_v ga0
  obtain rfl : w0 = (.int i0) := Option.some.inj ei0
  obtain ⟨i1, ei1⟩ := is_v ga1
  obtain rfl : w1 = (.int i1) := Option.some.inj ei1
  obtain ⟨i2, ei2⟩ := is_v gr2
  obtain rfl : w2 = (.int i2) := Option.some.inj ei2
  obtain ⟨n, o, h1, h2, h3, _, L, rfl, ⟨rfl, N⟩, hq⟩ := rm0 l s _ hw tables_1 i0 i1 i2 s.heap s.heap.size (Nat.le_refl _)  p e ha hc hk s m _ below hf ((Spec.applies_iff_loose hf).mp happ).1 ⟨rfl, State.Warmed39.refl s, rfl⟩ trivial
  refine ⟨n, _, h1, h2, h3, hpost _ _ _ _ _ _ ⟨Cond.after_iff.mpr rfl, Cond.after_iff.mpr (eq_i res_at (Term.int_eval (1)) (congrArg Value.int (own_law i0 i1 i2))), trivial⟩ ⟨hq.1, hq.2.1, (hq.2.2.sift fun y hy => Or.inr (N y hy)).mono (by decide) (by decide)⟩⟩
theorem main_1_1 : Claimed_1_1 := comes_1 fun _ _ _ _ _ _ h hF => ⟨h.1, hF⟩
theorem main_1_2 : Claimed_1_2 := comes_1 fun _ _ _ _ _ _ h hF => ⟨h.2.1, hF⟩
end Jvm.Pilot.@@N@@
namespace Jvm.Pilot.@@N@@
open Jvm Jvm.ClassFile Sem Op Lib Jvm.Free Jvm.Stand Jvm.Pilot.@@N@@.Jvm.D
/-! MADE BY PROGRAM (witnessworld.py) out of the Statement's table words and the real class files: 11 classes; the members and pool entries that the words name. The judged class is class 1, her method 1. -/
namespace start1
open Jvm.ClassFile
def u (s : String) : CpInfo := .utf8 (stringToUtf16 s)
/-- a pool by its gaps: so many unusable entries, then the entry; so many at the end -/
def gap : Nat → List CpInfo → List CpInfo
  | 0, r => r
  | n + 1, r => .unusable :: gap n r
def poolList (es : List (Nat × CpInfo)) (last : Nat) : List CpInfo := es.foldr (fun e r => gap e.1 (e.2 :: r)) (gap last [])
def pool (es : List (Nat × CpInfo)) (last : Nat) : Array CpInfo := ⟨poolList es last⟩
def fileOf (pool : Array CpInfo) (this : Nat) (attrs : Array Attribute := #[]) (ms : Array MethodInfo := #[]) (fl : Nat := 33) (sup : Nat := 0) (ifs : Array Nat := #[]) (fds : Array FieldInfo := #[]) : ClassFile where
  minorVersion := 0
  majorVersion := 65
  constantPool := pool
  accessFlags := fl
  thisClass := this
  superClass := sup
  interfaces := ifs
  fields := fds
  methods := ms
  attributes := attrs
def plain (name : String) (sup : Option ClassId) : Class where
  name := name
  kind := .ordinary
  loader := none
  accessFlags := 33
  super := sup
  interfaces := #[]
  cf := none
  fields := #[]
  methods := #[]
  instanceTypes := #[]
  staticTypes := #[]
  resolved := #[]
  callSites := []
  init := .initialized
  statics := none
  mirror := none

def pool0 : Array CpInfo := pool [(5, u "<init>"), (0, u "()V"), (1, .class_ 10), (1, u "java/lang/Object")] 113

def k0c0 : Code := { maxStack := 0, maxLocals := 1, code := object_method_1_code, exceptionTable := #[], attributes := #[] }
def k0m0 : Method := { name := "<init>", desc := "()V", sig := { parameters := [], returnType := none }, accessFlags := 1, code := some k0c0 }
/-- java/lang/Object -/
def k0 : Class := { plain "java/lang/Object" none with
  accessFlags := 33
  interfaces := #[]
  cf := some (fileOf pool0 8 #[] #[{ accessFlags := 1, nameIndex := 5, descriptorIndex := 6, attributes := #[] }] 33 0 #[] #[])
  fields := #[]
  methods := #[k0m0]
  instanceTypes := #[]
  staticTypes := #[]
  resolved := Array.replicate 124 none
  statics := none }

def pool1 : Array CpInfo := pool [(2, .class_ 4), (1, u "java/lang/Object"), (0, u "<init>"), (0, u "()V"), (0, .class_ 8), (0, u "com/example/keptlog/keptlog/server/GroupPolicy"), (0, .methodref 7 10), (0, .nameAndType 5 11), (0, u "(IIII)V"), (0, .methodref 7 13), (0, .nameAndType 14 15), (0, u "allowsSessionTimeout"), (0, u "(I)Z"), (0, .methodref 17 18), (0, .class_ 19), (0, .nameAndType 20 21), (0, u "java/lang/Math"), (0, u "max"), (0, u "(II)I"), (0, .methodref 17 23), (0, .nameAndType 24 21), (0, u "min"), (2, .integer 2147483648), (0, .integer 2147483647), (0, .class_ 30), (0, u "com/example/keptlog/keptlog/server/GroupPolicyAllowsSessionTimeoutPinLaw"), (2, u "law"), (0, u "(III)Z")] 3

def k1m0 : Method := { name := "<init>", desc := "()V", sig := { parameters := [], returnType := none }, accessFlags := 1, code := none }
def k1c1 : Code := { maxStack := 6, maxLocals := 7, code := code, exceptionTable := #[], attributes := #[] }
def k1m1 : Method := { name := "law", desc := "(III)Z", sig := { parameters := [.int, .int, .int], returnType := some .boolean }, accessFlags := 9, code := some k1c1 }
/-- com/example/keptlog/keptlog/server/GroupPolicyAllowsSessionTimeoutPinLaw -/
def k1 : Class := { plain "com/example/keptlog/keptlog/server/GroupPolicyAllowsSessionTimeoutPinLaw" (some 0) with
  accessFlags := 49
  interfaces := #[]
  cf := some (fileOf pool1 29 #[] #[{ accessFlags := 1, nameIndex := 5, descriptorIndex := 6, attributes := #[] }, { accessFlags := 9, nameIndex := 33, descriptorIndex := 34, attributes := #[] }] 49 2 #[] #[])
  fields := #[]
  methods := #[k1m0, k1m1]
  instanceTypes := #[]
  staticTypes := #[]
  resolved := Array.replicate 38 none
  statics := none }

def pool2 : Array CpInfo := pool [(1, .methodref 2 3), (0, .class_ 4), (0, .nameAndType 5 6), (0, u "java/lang/Object"), (0, u "<init>"), (0, u "()V"), (0, .class_ 8), (0, u "java/lang/Record")] 13

def k2c0 : Code := { maxStack := 1, maxLocals := 1, code := jdk_30_method_1_code, exceptionTable := #[], attributes := #[] }
def k2m0 : Method := { name := "<init>", desc := "()V", sig := { parameters := [], returnType := none }, accessFlags := 4, code := some k2c0 }
/-- java/lang/Record -/
def k2 : Class := { plain "java/lang/Record" (some 0) with
  accessFlags := 1057
  interfaces := #[]
  cf := some (fileOf pool2 7 #[] #[{ accessFlags := 4, nameIndex := 5, descriptorIndex := 6, attributes := #[] }] 1057 2 #[] #[])
  fields := #[]
  methods := #[k2m0]
  instanceTypes := #[]
  staticTypes := #[]
  resolved := Array.replicate 22 none
  statics := none }

def pool3 : Array CpInfo := pool [(1, .methodref 2 3), (0, .class_ 4), (0, .nameAndType 5 6), (0, u "java/lang/Record"), (0, u "<init>"), (0, u "()V"), (0, .fieldref 8 9), (0, .class_ 10), (0, .nameAndType 11 12), (0, u "com/example/keptlog/keptlog/server/GroupPolicy"), (0, u "minSessionTimeoutMs"), (0, u "I"), (0, .fieldref 8 14), (0, .nameAndType 15 12), (0, u "maxSessionTimeoutMs"), (0, .fieldref 8 17), (0, .nameAndType 18 12), (0, u "initialRebalanceDelayMs"), (0, .fieldref 8 20), (0, .nameAndType 21 12), (0, u "offsetsTopicPartitions"), (12, u "(IIII)V"), (3, u "allowsSessionTimeout"), (0, u "(I)Z")] 27

def k3c0 : Code := { maxStack := 2, maxLocals := 5, code := prog_125_method_1_code, exceptionTable := #[], attributes := #[] }
def k3m0 : Method := { name := "<init>", desc := "(IIII)V", sig := { parameters := [.int, .int, .int, .int], returnType := none }, accessFlags := 1, code := some k3c0 }
def k3c1 : Code := { maxStack := 2, maxLocals := 2, code := prog_125_method_2_code, exceptionTable := #[], attributes := #[] }
def k3m1 : Method := { name := "allowsSessionTimeout", desc := "(I)Z", sig := { parameters := [.int], returnType := some .boolean }, accessFlags := 0, code := some k3c1 }
/-- com/example/keptlog/keptlog/server/GroupPolicy -/
def k3 : Class := { plain "com/example/keptlog/keptlog/server/GroupPolicy" (some 2) with
  accessFlags := 49
  interfaces := #[]
  cf := some (fileOf pool3 8 #[] #[{ accessFlags := 1, nameIndex := 5, descriptorIndex := 34, attributes := #[] }, { accessFlags := 0, nameIndex := 38, descriptorIndex := 39, attributes := #[] }] 49 2 #[] #[{ accessFlags := 18, nameIndex := 11, descriptorIndex := 12, attributes := #[] }, { accessFlags := 18, nameIndex := 15, descriptorIndex := 12, attributes := #[] }, { accessFlags := 18, nameIndex := 18, descriptorIndex := 12, attributes := #[] }, { accessFlags := 18, nameIndex := 21, descriptorIndex := 12, attributes := #[] }])
  fields := #[{ name := "minSessionTimeoutMs", type := .int, accessFlags := 18, slot := 0, constantValue := 0 }, { name := "maxSessionTimeoutMs", type := .int, accessFlags := 18, slot := 1, constantValue := 0 }, { name := "initialRebalanceDelayMs", type := .int, accessFlags := 18, slot := 2, constantValue := 0 }, { name := "offsetsTopicPartitions", type := .int, accessFlags := 18, slot := 3, constantValue := 0 }]
  methods := #[k3m0, k3m1]
  instanceTypes := #[.int, .int, .int, .int]
  staticTypes := #[]
  resolved := Array.replicate 67 none
  statics := none }

def pool4 : Array CpInfo := pool [(1, .class_ 2), (0, u "java/lang/Math"), (1, .class_ 6), (1, u "java/lang/Object"), (0, u "<init>"), (0, u "()V"), (89, .class_ 100), (1, u "java/lang/Math$RandomNumberGeneratorHolder"), (71, u "negativeZeroFloatBits"), (0, u "J"), (2, u "negativeZeroDoubleBits"), (21, u "max"), (2, u "min"), (43, u "$assertionsDisabled"), (0, u "Z"), (88, u "(II)I"), (2, u "twoToTheDoubleScaleDown"), (0, u "D"), (4, u "twoToTheDoubleScaleUp"), (9, u "E"), (3, u "PI"), (2, u "TAU"), (2, u "DEGREES_TO_RADIANS"), (0, u "RADIANS_TO_DEGREES")] 94

def k4m0 : Method := { name := "<init>", desc := "()V", sig := { parameters := [], returnType := none }, accessFlags := 2, code := none }
def k4c1 : Code := { maxStack := 2, maxLocals := 2, code := jdk_29_method_65_code, exceptionTable := #[], attributes := #[] }
def k4m1 : Method := { name := "max", desc := "(II)I", sig := { parameters := [.int, .int], returnType := some .int }, accessFlags := 9, code := some k4c1 }
def k4c2 : Code := { maxStack := 2, maxLocals := 2, code := jdk_29_method_69_code, exceptionTable := #[], attributes := #[] }
def k4m2 : Method := { name := "min", desc := "(II)I", sig := { parameters := [.int, .int], returnType := some .int }, accessFlags := 9, code := some k4c2 }
/-- java/lang/Math -/
def k4 : Class := { plain "java/lang/Math" (some 0) with
  accessFlags := 49
  interfaces := #[]
  cf := some (fileOf pool4 1 #[.nestMembers #[98]] #[{ accessFlags := 2, nameIndex := 7, descriptorIndex := 8, attributes := #[] }, { accessFlags := 9, nameIndex := 198, descriptorIndex := 335, attributes := #[] }, { accessFlags := 9, nameIndex := 201, descriptorIndex := 335, attributes := #[] }] 49 4 #[] #[{ accessFlags := 25, nameIndex := 354, descriptorIndex := 339, attributes := #[] }, { accessFlags := 25, nameIndex := 358, descriptorIndex := 339, attributes := #[] }, { accessFlags := 25, nameIndex := 361, descriptorIndex := 339, attributes := #[] }, { accessFlags := 26, nameIndex := 364, descriptorIndex := 339, attributes := #[] }, { accessFlags := 26, nameIndex := 365, descriptorIndex := 339, attributes := #[] }, { accessFlags := 26, nameIndex := 172, descriptorIndex := 173, attributes := #[] }, { accessFlags := 26, nameIndex := 176, descriptorIndex := 173, attributes := #[] }, { accessFlags := 8, nameIndex := 344, descriptorIndex := 339, attributes := #[] }, { accessFlags := 8, nameIndex := 338, descriptorIndex := 339, attributes := #[] }, { accessFlags := 4120, nameIndex := 245, descriptorIndex := 246, attributes := #[] }])
  fields := #[{ name := "E", type := .double, accessFlags := 25, slot := 0, constantValue := 0 }, { name := "PI", type := .double, accessFlags := 25, slot := 1, constantValue := 0 }, { name := "TAU", type := .double, accessFlags := 25, slot := 2, constantValue := 0 }, { name := "DEGREES_TO_RADIANS", type := .double, accessFlags := 26, slot := 3, constantValue := 0 }, { name := "RADIANS_TO_DEGREES", type := .double, accessFlags := 26, slot := 4, constantValue := 0 }, { name := "negativeZeroFloatBits", type := .long, accessFlags := 26, slot := 5, constantValue := 0 }, { name := "negativeZeroDoubleBits", type := .long, accessFlags := 26, slot := 6, constantValue := 0 }, { name := "twoToTheDoubleScaleUp", type := .double, accessFlags := 8, slot := 7, constantValue := 0 }, { name := "twoToTheDoubleScaleDown", type := .double, accessFlags := 8, slot := 8, constantValue := 0 }, { name := "$assertionsDisabled", type := .boolean, accessFlags := 4120, slot := 9, constantValue := 0 }]
  methods := #[k4m0, k4m1, k4m2]
  instanceTypes := #[]
  staticTypes := #[.double, .double, .double, .double, .double, .long, .long, .double, .double, .boolean]
  resolved := Array.replicate 460 none
  statics := none }

def pool5 : Array CpInfo := pool [(1, u "java/lang/Cloneable"), (0, .class_ 1), (0, u "java/lang/Object"), (0, .class_ 3)] 3

/-- java/lang/Cloneable -/
def k5 : Class := { plain "java/lang/Cloneable" (some 0) with
  accessFlags := 1537
  interfaces := #[]
  cf := some (fileOf pool5 2 #[] #[] 1537 4 #[] #[])
  fields := #[]
  methods := #[]
  instanceTypes := #[]
  staticTypes := #[]
  resolved := Array.replicate 8 none
  statics := none }

def pool6 : Array CpInfo := pool [(1, u "java/io/Serializable"), (0, .class_ 1), (0, u "java/lang/Object"), (0, .class_ 3)] 3

/-- java/io/Serializable -/
def k6 : Class := { plain "java/io/Serializable" (some 0) with
  accessFlags := 1537
  interfaces := #[]
  cf := some (fileOf pool6 2 #[] #[] 1537 4 #[] #[])
  fields := #[]
  methods := #[]
  instanceTypes := #[]
  staticTypes := #[]
  resolved := Array.replicate 8 none
  statics := none }

/-- the primitive byte -/
def k7 : Class := { plain "byte" none with kind := .primitive 'B', accessFlags := 0x411 }
/-- [B -/
def k8 : Class := { plain "[B" (some 0) with kind := .array 7 .byte, interfaces := #[5, 6], accessFlags := 1041 }

/-- the primitive int -/
def k9 : Class := { plain "int" none with kind := .primitive 'I', accessFlags := 0x411 }
/-- [I -/
def k10 : Class := { plain "[I" (some 0) with kind := .array 9 .int, interfaces := #[5, 6], accessFlags := 1041 }

def heap : Heap := #[]
def classes : Array Class := #[k0, k1, k2, k3, k4, k5, k6, k7, k8, k9, k10]
def interned : List (Array UInt16 × Addr) := []
def slotsUsed : Nat := 0
def theMethod : MethodId := ⟨1, 1⟩
def args0 : Array Value := #[.int 10, .int 50, .int 20]
def aboutOver (below : List Frame) : State where
  vm := { classes := classes, interned := interned.toArray }
  heap := heap
  slotsUsed := slotsUsed
  threads := #[{ frames := .invoking theMethod args0 :: below }]
def below0 : List Frame := [.native { method := ⟨0, 0⟩, args := #[] }]
def about1 : State := aboutOver below0
def p0 : Program := .bare "" "" ""
def e0 : Env := launch0.env 0 0 0
theorem w_frames : about1.frames = Frame.invoking theMethod args0 :: below0 := rfl
set_option maxRecDepth 65536 in
theorem w_args : argsFit about1.vm theMethod args0 = true := by decide +kernel
set_option maxRecDepth 65536 in
theorem w_heap : heapFits about1 = true := by decide +kernel
set_option maxRecDepth 65536 in
theorem w_runnable : about1.curStatus? = some .runnable := by decide +kernel
set_option maxRecDepth 65536 in
theorem w_alone : about1.alone = true := by decide +kernel
set_option maxRecDepth 65536 in
theorem w_named : about1.methodNamed? x = some theMethod := by decide +kernel
set_option maxRecDepth 65536 in
theorem w_hears : about1.hears theMethod below0 = true := by decide +kernel
set_option maxRecDepth 65536 in
theorem w_ripe : about1.ripe theMethod args0 below0 = true := by decide +kernel
theorem w_running : about1.status = .running := rfl
set_option maxRecDepth 65536 in
theorem w_room : about1.hasRoom e0.platform room_1 = true :=
  launch0.hasRoom_least _ room_1 (by decide +kernel) (by decide +kernel) (by decide +kernel) (by decide +kernel) (by decide +kernel) (by decide +kernel)
theorem allAtoms_all (ts : List Jvm.Cond) (a : Array Jvm.Value) (st : Jvm.State) : (allAtoms ts).before a st = ts.all (fun c => c.before a st) := by
  induction ts with
  | nil => rfl
  | cons c t ih =>
    show (Jvm.Cond.and c (allAtoms t)).before a st = _
    rw [Jvm.Cond.before_and, ih, List.all_cons]
def words1 : List Jvm.Cond := Jvm.Cond.code x code maxLocals ret :: tables_1
/-- a 'code' word, met by the world's own term for the bytes: nothing is compared byte by byte -/
theorem code_word {y : MethodName} {bytes : ByteArray} {mx : Nat} {rt : Option FieldType} {a : Array Value} {s : State} {m : MethodId} {meth : Method} {c : Code} (h1 : s.methodNamed? y = some m) (h2 : s.vm.method? m = some meth) (h3 : meth.code = some c) (h4 : c.code = bytes)
    (h5 : (c.maxLocals == mx && c.exceptionTable.isEmpty && decide (c.maxStack ≤ mostOperands) && decide (meth.sig.returnType = rt) && !meth.locks && decide (parseMethodDescriptor y.desc = some meth.sig)) = true) : (Jvm.Cond.code y bytes mx rt).before a s = true := by
  simp only [Bool.and_eq_true, beq_iff_eq, Bool.not_eq_true', decide_eq_true_eq] at h5
  obtain ⟨⟨⟨⟨⟨g1, g2⟩, g3⟩, g4⟩, g5⟩, g6⟩ := h5
  simp [Cond.before, Cond.holds, Cond.value, h1, h2, h3, h4, g1, g2, g3, g4, g5, g6]
def isCode : Jvm.Cond → Bool
  | .code _ _ _ _ => true
  | _ => false
theorem all_split {L : List Jvm.Cond} {P : Jvm.Cond → Bool} (h1 : L.all (fun c => isCode c || P c) = true) (h2 : ∀ c ∈ L.filter isCode, P c = true) : L.all P = true := by
  refine List.all_eq_true.mpr fun c hc => ?_
  have h := List.all_eq_true.mp h1 c hc
  rcases Bool.eq_false_or_eq_true (isCode c) with hi | hi
  · exact h2 c (List.mem_filter.mpr ⟨hc, hi⟩)
  · simpa [hi] using h
set_option maxRecDepth 65536 in
theorem w_c0 : (Jvm.Cond.code x code maxLocals ret).before args0 about1 = true := code_word (m := ⟨1, 1⟩) (meth := k1m1) (c := k1c1) (by decide +kernel) rfl rfl rfl (by decide +kernel)
set_option maxRecDepth 65536 in
theorem w_c1 : (Jvm.Cond.code ({ cls := "com/example/keptlog/keptlog/server/GroupPolicy", name := "<init>", desc := "(IIII)V" } : Jvm.MethodName) prog_125_method_1_code (5 : Nat) (Option.none : Option Jvm.ClassFile.FieldType)).before args0 about1 = true := code_word (m := ⟨3, 0⟩) (meth := k3m0) (c := k3c0) (by decide +kernel) rfl rfl rfl (by decide +kernel)
set_option maxRecDepth 65536 in
theorem w_c2 : (Jvm.Cond.code ({ cls := "java/lang/Record", name := "<init>", desc := "()V" } : Jvm.MethodName) jdk_30_method_1_code (1 : Nat) (Option.none : Option Jvm.ClassFile.FieldType)).before args0 about1 = true := code_word (m := ⟨2, 0⟩) (meth := k2m0) (c := k2c0) (by decide +kernel) rfl rfl rfl (by decide +kernel)
set_option maxRecDepth 65536 in
theorem w_c3 : (Jvm.Cond.code ({ cls := "java/lang/Object", name := "<init>", desc := "()V" } : Jvm.MethodName) object_method_1_code (1 : Nat) (Option.none : Option Jvm.ClassFile.FieldType)).before args0 about1 = true := code_word (m := ⟨0, 0⟩) (meth := k0m0) (c := k0c0) (by decide +kernel) rfl rfl rfl (by decide +kernel)
set_option maxRecDepth 65536 in
theorem w_c4 : (Jvm.Cond.code ({ cls := "com/example/keptlog/keptlog/server/GroupPolicy", name := "allowsSessionTimeout", desc := "(I)Z" } : Jvm.MethodName) prog_125_method_2_code (2 : Nat) (Option.some Jvm.ClassFile.FieldType.boolean)).before args0 about1 = true := code_word (m := ⟨3, 1⟩) (meth := k3m1) (c := k3c1) (by decide +kernel) rfl rfl rfl (by decide +kernel)
set_option maxRecDepth 65536 in
theorem w_c5 : (Jvm.Cond.code ({ cls := "java/lang/Math", name := "max", desc := "(II)I" } : Jvm.MethodName) jdk_29_method_65_code (2 : Nat) (Option.some Jvm.ClassFile.FieldType.int)).before args0 about1 = true := code_word (m := ⟨4, 1⟩) (meth := k4m1) (c := k4c1) (by decide +kernel) rfl rfl rfl (by decide +kernel)
set_option maxRecDepth 65536 in
theorem w_c6 : (Jvm.Cond.code ({ cls := "java/lang/Math", name := "min", desc := "(II)I" } : Jvm.MethodName) jdk_29_method_69_code (2 : Nat) (Option.some Jvm.ClassFile.FieldType.int)).before args0 about1 = true := code_word (m := ⟨4, 2⟩) (meth := k4m2) (c := k4c2) (by decide +kernel) rfl rfl rfl (by decide +kernel)
def codes1 : List Jvm.Cond := [Jvm.Cond.code x code maxLocals ret, Jvm.Cond.code ({ cls := "com/example/keptlog/keptlog/server/GroupPolicy", name := "<init>", desc := "(IIII)V" } : Jvm.MethodName) prog_125_method_1_code (5 : Nat) (Option.none : Option Jvm.ClassFile.FieldType), Jvm.Cond.code ({ cls := "java/lang/Record", name := "<init>", desc := "()V" } : Jvm.MethodName) jdk_30_method_1_code (1 : Nat) (Option.none : Option Jvm.ClassFile.FieldType), Jvm.Cond.code ({ cls := "java/lang/Object", name := "<init>", desc := "()V" } : Jvm.MethodName) object_method_1_code (1 : Nat) (Option.none : Option Jvm.ClassFile.FieldType), Jvm.Cond.code ({ cls := "com/example/keptlog/keptlog/server/GroupPolicy", name := "allowsSessionTimeout", desc := "(I)Z" } : Jvm.MethodName) prog_125_method_2_code (2 : Nat) (Option.some Jvm.ClassFile.FieldType.boolean), Jvm.Cond.code ({ cls := "java/lang/Math", name := "max", desc := "(II)I" } : Jvm.MethodName) jdk_29_method_65_code (2 : Nat) (Option.some Jvm.ClassFile.FieldType.int), Jvm.Cond.code ({ cls := "java/lang/Math", name := "min", desc := "(II)I" } : Jvm.MethodName) jdk_29_method_69_code (2 : Nat) (Option.some Jvm.ClassFile.FieldType.int)]
set_option maxRecDepth 65536 in
theorem codes_eq : words1.filter isCode = codes1 := rfl
theorem w_codes : ∀ c ∈ words1.filter isCode, c.before args0 about1 = true := by
  rw [codes_eq]
  intro c hc
  simp only [codes1, List.mem_cons, List.not_mem_nil, or_false] at hc
  rcases hc with rfl | rfl | rfl | rfl | rfl | rfl | rfl
  · exact w_c0
  · exact w_c1
  · exact w_c2
  · exact w_c3
  · exact w_c4
  · exact w_c5
  · exact w_c6
set_option maxRecDepth 65536 in
theorem w_t1 : (words1.take 24).all (fun c => isCode c || c.before args0 about1) = true := by decide +kernel
set_option maxRecDepth 65536 in
theorem w_t2 : (words1.drop 24).all (fun c => isCode c || c.before args0 about1) = true := by decide +kernel
theorem w_tables : (allAtoms (Jvm.Cond.code x code maxLocals ret :: tables_1)).before args0 about1 = true := by
  rw [allAtoms_all]
  show words1.all (fun c => c.before args0 about1) = true
  refine all_split ?_ w_codes
  rw [← List.take_append_drop 24 words1, List.all_append, w_t1, w_t2]
  rfl
set_option maxRecDepth 65536 in
theorem w_case : (Jvm.Cond.and given_1 narrow_1).before args0 about1 = true := by decide +kernel
theorem w_applies : (headSpec (Jvm.Cond.code x code maxLocals ret :: tables_1) room_1).applies x e0.platform about1 = true :=
  (Spec.applies_iff w_frames).mpr ⟨w_running, w_runnable, w_alone, w_named, w_hears, w_ripe, w_room, w_tables⟩
theorem atStart : AtStart classFile x code maxLocals ret World_1 tables_1 room_1 Calls_1 rest_1 Pre_1 launch0 p0 e0 about1 theMethod args0 below0 :=
  ⟨lists_1, trivial, launch0.admits_env _ _ _, launch0.least_env, fairChoices_fair.cas, fairChoices_fair.clock, w_frames, w_args, w_heap, w_applies, trivial, trivial, w_case⟩
end start1
theorem witness_1 : WitnessClaimed_1 := ⟨start1.p0, start1.e0, start1.about1, start1.theMethod, start1.args0, start1.below0, start1.atStart⟩
end Jvm.Pilot.@@N@@
