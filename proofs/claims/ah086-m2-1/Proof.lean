import JvmDerived
import JvmDerived.Pilot.@@N@@Statement
import JvmDerived.Pilot.@@N@@Code
set_option linter.unusedVariables false
set_option linter.unusedSimpArgs false

namespace Jvm.RoadKit
open Sem ClassFile Op Lib Jvm.Stand Jvm.Free Jvm.LawKit
section New
variable {p : Program} {l : Launch} {e : Env} {R : Room} {s : State} {m : MethodId} {args : Array Value} {below : List Frame} {meth : Method} {c : Code} {T : State} {locs : List Loc} {cells slots : Nat}
theorem retI (X : Stand p l e R s m args below meth c T locs cells slots) (hx : p.tables.exec = Jvm.exec) {pc : Nat} {Ls : Array Slot} {z : Int32} {rest : List Value} (hret : meth.sig.returnType = some .int) (hd : decode c.code pc = .ok (.ireturn, 1)) {fs : List Frame}
    (hl : ∀ (f : JFrame) (acts : List Action), f.method = m → f.locked = none → f.entered = [] → (doReturn e (T.setTop f) acts (some (.int z))).1 = T.setFrames fs) : Steps p.tables e below (T.setTop (mkF m pc Ls (.int z :: rest))) (T.setFrames fs) :=
  retOut X hx hret rfl (Or.inl ⟨rfl, Or.inl rfl, z, rfl⟩) hd hl
theorem own_retL (X : Stand p l e R s m args below meth c T locs cells slots) (hx : p.tables.exec = Jvm.exec) {pc : Nat} {Ls : Array Slot} {z : Int64} {rest : List Value} (hret : meth.sig.returnType = some .long) (hd : decode c.code pc = .ok (.lreturn, 1)) {fs : List Frame}
    (hl : ∀ (f : JFrame) (acts : List Action), f.method = m → f.locked = none → f.entered = [] → (doReturn e (T.setTop f) acts (some (.long z))).1 = T.setFrames fs) : Steps p.tables e below (T.setTop (mkF m pc Ls (.long z :: rest))) (T.setFrames fs) :=
  retOut X hx hret rfl (Or.inr (Or.inl ⟨rfl, rfl, z, rfl⟩)) hd hl
theorem own_retA (X : Stand p l e R s m args below meth c T locs cells slots) (hx : p.tables.exec = Jvm.exec) {pc : Nat} {Ls : Array Slot} {w : Value} {t : FieldType} {rest : List Value} (hret : meth.sig.returnType = some t) (ht : t.isReference = true) (hw : w.isRef = true) (hd : decode c.code pc = .ok (.areturn, 1)) {fs : List Frame}
    (hl : ∀ (f : JFrame) (acts : List Action), f.method = m → f.locked = none → f.entered = [] → (doReturn e (T.setTop f) acts (some w)).1 = T.setFrames fs) : Steps p.tables e below (T.setTop (mkF m pc Ls (w :: rest))) (T.setFrames fs) :=
  retOut X hx hret (by cases t <;> first | (cases ht; done) | (cases w <;> first | rfl | cases hw)) (Or.inr (Or.inr (Or.inr (Or.inr ⟨rfl, ht, hw⟩)))) hd hl
theorem own_back {tb : Tables} {e : Env} {below : List Frame} {a b : State} {P : State → Outcome → Prop} (h : ∀ t, Steps tb e below b t → Steps tb e below a t) (k : ∃ t o, Steps tb e below b t ∧ P t o) : ∃ t o, Steps tb e below a t ∧ P t o := by
  obtain ⟨t, o, k1, k2⟩ := k
  exact ⟨t, o, h t k1, k2⟩
theorem own_sta_keep {Z : State} {h h' : Heap} {C n d : String} {v : Value} (F : Sta Z h C n d v) (K : Keep h h' []) : Sta Z h' C n d v := by
  obtain ⟨cf, i, k, f, st, cell, h1, h2, h3, h4, h5, r⟩ := F
  exact ⟨cf, i, k, f, st, cell, h1, h2, h3, h4, K.2.1 _ _ h5 nin0, r⟩
def ElA (Z : State) (h : Heap) (a : Addr) (ty : FieldType) (j : Int32) (v : Value) : Prop := ∃ c : Cell, Arr Z h a c ty ∧ ¬ (j < 0 ∨ c.slots.size ≤ j.toNatClampNeg) ∧ c.slots[j.toNatClampNeg]? = some v
theorem ElA.lt {Z : State} {h : Heap} {a : Addr} {ty : FieldType} {j : Int32} {v : Value} (F : ElA Z h a ty j v) : a < h.size := by obtain ⟨c, A, -⟩ := F; exact A.lt
theorem ElA.ext {Z : State} {h h' : Heap} {a : Addr} {ty : FieldType} {j : Int32} {v : Value} (F : ElA Z h a ty j v) (E : Ext h h') : ElA Z h' a ty j v := by obtain ⟨c, A, r⟩ := F; exact ⟨c, A.ext E, r⟩
theorem ElA.other {Z : State} {h h' : Heap} {a b : Addr} {ty : FieldType} {j : Int32} {v w : Value} {sl : Nat} (F : ElA Z h b ty j v) (W : Wr h h' a sl w) (q : b ≠ a) : ElA Z h' b ty j v := by obtain ⟨c, A, r⟩ := F; exact ⟨c, A.other W q, r⟩
theorem ElA.keep {Z : State} {h h' : Heap} {a : Addr} {ty : FieldType} {j : Int32} {v : Value} {ws : List Addr} (F : ElA Z h a ty j v) (K : Keep h h' ws) (q : a ∉ ws) : ElA Z h' a ty j v := by obtain ⟨c, A, r⟩ := F; exact ⟨c, ⟨K.2.1 a c A.1 q, A.2⟩, r⟩
theorem ElA.store {Z : State} {h h' : Heap} {a : Addr} {ty : FieldType} {j : Int32} {v : Value} {c : Cell} (A : Arr Z h a c ty) (hj : ¬ (j < 0 ∨ c.slots.size ≤ j.toNatClampNeg)) (W : Wr h h' a j.toNatClampNeg v) : ElA Z h' a ty j v :=
  ⟨_, A.same W, by rw [sz_set]; exact hj, get_hit hj rfl⟩
theorem own_sta_keepE {Z : State} {h h' : Heap} {C n d D : String} {v : Value} {a : Addr} (F : Sta Z h C n d v) (E : Exa Z h a D) (K : Keep h h' [a]) : Sta Z h' C n d v := by
  obtain ⟨cf, i, k, f, st, cell, h1, h2, h3, h4, h5, h6, r⟩ := F
  refine ⟨cf, i, k, f, st, cell, h1, h2, h3, h4, K.2.1 _ _ h5 (ninS (fun q => ?_) nin0), h6, r⟩
  obtain ⟨c2, k2, e1, e2, e3, e4, -⟩ := E
  rw [q, e1] at h5
  cases h5
  rw [e4] at h6
  cases h6
theorem own_endW {s t : State} {o : Outcome} {L : List Loc} {k n k' n' : Nat} (h : ReturnedEndW s o t L k n) (hk : k ≤ k') (hn : n ≤ n') : ReturnedEndW s o t L k' n' := ⟨h.1, h.2.1, h.2.2.1, h.2.2.2.mono hk hn⟩
theorem own_same {P : Prop} (h : P) : P := h
theorem own_irr (x : Int32) : ¬ x < x := by rw [Int32.lt_iff_toInt_lt]; omega
theorem own_irrL (x : Int64) : ¬ x < x := by rw [Int64.lt_iff_toInt_lt]; omega
end New
end Jvm.RoadKit
namespace Jvm.Pilot.@@N@@
open Jvm Jvm.ClassFile Sem Op Lib Jvm.Free Jvm.Stand Jvm.LawKit Jvm.RoadKit Bundle Jvm.Pilot.@@N@@.Jvm.D

def ICache (Z : State) (h : Heap) (wc : Addr) : Prop := ∃ c : Cell, Arr Z h wc c (.object "java/lang/Integer") ∧ c.slots.size = 256 ∧ ∀ i : Nat, i < 256 → ∃ b : Addr, c.slots[i]? = some (.ref b) ∧ Exa Z h b "java/lang/Integer" ∧ Fld Z h b "java/lang/Integer" "value" "I" (.int (i.toInt32 - 128))
theorem ICache.keep {Z : State} {h h' : Heap} {wc : Addr} (F : ICache Z h wc) (K : Keep h h' []) : ICache Z h' wc := by
  obtain ⟨c, A, S, H⟩ := F
  refine ⟨c, ⟨K.2.1 _ _ A.1 nin0, A.2⟩, S, fun i hi => ?_⟩
  obtain ⟨b, h1, h2, h3⟩ := H i hi
  exact ⟨b, h1, h2.keep K, h3.keep K nin0⟩
theorem own_ci (q : Int32) (h1 : ¬ (q < (-128 : Int32))) (h2 : ¬ ((127 : Int32) < q)) : ¬ (q + (128 : Int32)) < 0 ∧ (q + (128 : Int32)).toNatClampNeg < 256 ∧ (q + (128 : Int32)).toNatClampNeg.toInt32 - 128 = q := by
  have k1 : (-128 : Int32).toInt = -128 := rfl
  have k2 : (127 : Int32).toInt = 127 := rfl
  have k3 : (128 : Int32).toInt = 128 := rfl
  have k0 : (0 : Int32).toInt = 0 := rfl
  rw [Int32.lt_iff_toInt_lt, k1] at h1
  rw [Int32.lt_iff_toInt_lt, k2] at h2
  have h4 := c_iadd q 128
  have r1 := rng32 q
  have r2 := rng32 (q + 128)
  have n0 : ¬ (q + (128 : Int32)) < 0 := by rw [Int32.lt_iff_toInt_lt, k0]; omega
  have hn := nat_of n0
  refine ⟨n0, by omega, ?_⟩
  rw [(back32 n0).1]
  apply Int32.toInt_inj.mp
  have h5 := c_isub (q + 128) 128
  have r3 := rng32 (q + 128 - 128)
  omega
def own_hd (q w i : Int64) : Int64 := if q < w then w else q + i
theorem own_hd_t {q w i : Int64} (h : q < w) : own_hd q w i = w := if_pos h
theorem own_hd_f {q w i : Int64} (h : ¬ (q < w)) : own_hd q w i = q + i := if_neg h
theorem d2_0 : decode prog_19_method_2_code 0 = .ok (.aload_n 0, 1) := by decide +kernel
theorem d2_1 : decode prog_19_method_2_code 1 = .ok (.invokespecial 16, 3) := by decide +kernel
theorem d2_4 : decode prog_19_method_2_code 4 = .ok (.aload_n 0, 1) := by decide +kernel
theorem d2_5 : decode prog_19_method_2_code 5 = .ok (.lload_n 1, 1) := by decide +kernel
theorem d2_6 : decode prog_19_method_2_code 6 = .ok (.putfield 21, 3) := by decide +kernel
theorem d2_9 : decode prog_19_method_2_code 9 = .ok (.aload_n 0, 1) := by decide +kernel
theorem d2_10 : decode prog_19_method_2_code 10 = .ok (.lload_n 3, 1) := by decide +kernel
theorem d2_11 : decode prog_19_method_2_code 11 = .ok (.putfield 25, 3) := by decide +kernel
theorem d2_14 : decode prog_19_method_2_code 14 = .ok (.aload_n 0, 1) := by decide +kernel
theorem d2_15 : decode prog_19_method_2_code 15 = .ok (.lload 5, 2) := by decide +kernel
theorem d2_17 : decode prog_19_method_2_code 17 = .ok (.putfield 28, 3) := by decide +kernel
theorem d2_20 : decode prog_19_method_2_code 20 = .ok (.aload_n 0, 1) := by decide +kernel
theorem d2_21 : decode prog_19_method_2_code 21 = .ok (.lload 7, 2) := by decide +kernel
theorem d2_23 : decode prog_19_method_2_code 23 = .ok (.putfield 31, 3) := by decide +kernel
theorem d2_26 : decode prog_19_method_2_code 26 = .ok (.aload_n 0, 1) := by decide +kernel
theorem d2_27 : decode prog_19_method_2_code 27 = .ok (.lload 9, 2) := by decide +kernel
theorem d2_29 : decode prog_19_method_2_code 29 = .ok (.putfield 34, 3) := by decide +kernel
theorem d2_32 : decode prog_19_method_2_code 32 = .ok (.return_, 1) := by decide +kernel
theorem pn_2 : plainName "com/example/many_to_leader/manytoleader/bully/Timeouts" = true := by first | (simp [plainName, overriddenIn]; done) | decide +kernel
theorem ef_2 (m : MethodId) (x0 : Addr) (x1 : Int64) (x2 : Int64) (x3 : Int64) (x4 : Int64) (x5 : Int64) : entryFrame m #[(.ref x0), (.long x1), (.long x2), (.long x3), (.long x4), (.long x5)] 11 = mkF m 0 #[.val (.ref x0), .val (.long x1), .second, .val (.long x2), .second, .val (.long x3), .second, .val (.long x4), .second, .val (.long x5), .second] [] := by first | (simp [entryFrame, mkF, argsToLocals, Value.category]; done) | rfl
def Q2 (Z : State) (a0 : Addr) (q1 : Int64) (q2 : Int64) (q3 : Int64) (q4 : Int64) (q5 : Int64) (h0 : Heap) (n0 : Nat) (v : Option Value) (h : Heap) (L : List Loc) : Prop := v = none ∧ Fr n0 L ∧ Keep h0 h [a0] ∧ Exa Z h a0 "com/example/many_to_leader/manytoleader/bully/Timeouts" ∧ Fld Z h a0 "com/example/many_to_leader/manytoleader/bully/Timeouts" "answerMillis" "J" (.long q1) ∧ Fld Z h a0 "com/example/many_to_leader/manytoleader/bully/Timeouts" "coordinatorMillis" "J" (.long q2) ∧ Fld Z h a0 "com/example/many_to_leader/manytoleader/bully/Timeouts" "heartbeatIntervalMillis" "J" (.long q3) ∧ Fld Z h a0 "com/example/many_to_leader/manytoleader/bully/Timeouts" "heartbeatTimeoutMillis" "J" (.long q4) ∧ Fld Z h a0 "com/example/many_to_leader/manytoleader/bully/Timeouts" "invitationPeriodMillis" "J" (.long q5)
set_option maxRecDepth 65536 in
set_option maxHeartbeats 40000000 in
theorem rm2 (l : Launch) (Z : State) (aw : Array Value) (hw : ∀ d ∈ tables_1, d.before aw Z = true) (ws : List Jvm.Cond) (a0 : Addr) (q1 : Int64) (q2 : Int64) (q3 : Int64) (q4 : Int64) (q5 : Int64) (h0 : Heap) (n0 : Nat) (Z0 : n0 ≤ h0.size) (F_answerMillis_a0 : Fld Z h0 a0 "com/example/many_to_leader/manytoleader/bully/Timeouts" "answerMillis" "J" (.long (0 : Int64))) (F_coordinatorMillis_a0 : Fld Z h0 a0 "com/example/many_to_leader/manytoleader/bully/Timeouts" "coordinatorMillis" "J" (.long (0 : Int64))) (F_heartbeatIntervalMillis_a0 : Fld Z h0 a0 "com/example/many_to_leader/manytoleader/bully/Timeouts" "heartbeatIntervalMillis" "J" (.long (0 : Int64))) (F_heartbeatTimeoutMillis_a0 : Fld Z h0 a0 "com/example/many_to_leader/manytoleader/bully/Timeouts" "heartbeatTimeoutMillis" "J" (.long (0 : Int64))) (F_invitationPeriodMillis_a0 : Fld Z h0 a0 "com/example/many_to_leader/manytoleader/bully/Timeouts" "invitationPeriodMillis" "J" (.long (0 : Int64))) (E_a0 : Exa Z h0 a0 "com/example/many_to_leader/manytoleader/bully/Timeouts") (g_a0 : n0 ≤ a0) :
    MetFree l (⟨"com/example/many_to_leader/manytoleader/bully/Timeouts", "<init>", "(JJJJJ)V"⟩ : MethodName) (head1 (Jvm.Cond.code (⟨"com/example/many_to_leader/manytoleader/bully/Timeouts", "<init>", "(JJJJJ)V"⟩ : MethodName) prog_19_method_2_code 11 none :: ws) ({ frames := 1, cells := 0, slots := 0, locals := 12 } : Room)) (fun a U => a = #[(.ref a0), (.long q1), (.long q2), (.long q3), (.long q4), (.long q5)] ∧ Z.Warmed39 U.vm ∧ U.heap = h0) (fun _ _ _ _ _ => True) (fun _ U o U' => ∃ v L, o = .returned v ∧ Q2 Z a0 q1 q2 q3 q4 q5 h0 n0 v U'.heap L ∧ FrameEnd U o U' L ({ frames := 1, cells := 0, slots := 0, locals := 12 } : Room).cells ({ frames := 1, cells := 0, slots := 0, locals := 12 } : Room).slots) := by
  refine MetFree.of_bodySF (plainFor_of_name pn_2) hisR ?_
  intro p e s m args below meth c s₁ Bd hml0 hP hK
  obtain ⟨rfl, hZ, hh⟩ := hP
  have hx := Bd.exec
  have hby := Bd.bytes
  have hml : c.maxLocals = 11 := hml0
  have hown : s.vm.findClass "com/example/many_to_leader/manytoleader/bully/Timeouts" = some m.cls := findClass_of_methodNamed Bd.named
  have hnm := (name_of_methodNamed Bd.named Bd.method).1
  have X0 : Stand p l e ({ frames := 1, cells := 0, slots := 0, locals := 12 } : Room) s m #[(.ref a0), (.long q1), (.long q2), (.long q3), (.long q4), (.long q5)] below meth c s₁ [] 0 0 := Stand.of_body Bd
  have e0 : s₁.heap = h0 := by rw [← hh, Bd.state]; rfl
  have N0 := Fr.nil n0
  refine own_back (b := s₁.setTop (mkF m 0 #[.val (.ref a0), .val (.long q1), .second, .val (.long q2), .second, .val (.long q3), .second, .val (.long q4), .second, .val (.long q5), .second] [])) (fun t kt => castTop (ef_2 m a0 q1 q2 q3 q4 q5) kt) ?_
  obtain ⟨T1, X1, e1, st1⟩ := initO X0 hx hZ hown (hw _ (List.mem_of_getElem? (i := 10) rfl)) (hw _ (List.mem_of_getElem? (i := 11) rfl)) (hw _ (List.mem_of_getElem? (i := 12) rfl)) e0 (g := (mkF m 1 #[.val (.ref a0), .val (.long q1), .second, .val (.long q2), .second, .val (.long q3), .second, .val (.long q4), .second, .val (.long q5), .second] [(.ref a0)])) rfl (by rw [hml]; rfl) rfl (hb hby d2_1) (by decide) (W := 0) (by show 2 * 0 + _ ≤ _; exact Nat.le_of_eq rfl) (by decide)
  obtain ⟨T2, h2, X2, e2, W2, st2⟩ := putF X1 hx hZ hown (host := "") (Or.inl (hw _ (List.mem_of_getElem? (i := 13) rfl))) Via.refl e1 F_answerMillis_a0 E_a0 (Or.inr ⟨(hw _ (List.mem_of_getElem? (i := 14) rfl)), rfl, hnm⟩) (hw _ (List.mem_of_getElem? (i := 2) rfl)) (ty := .long) (by decide) rfl rfl (g := (mkF m 6 #[.val (.ref a0), .val (.long q1), .second, .val (.long q2), .second, .val (.long q3), .second, .val (.long q4), .second, .val (.long q5), .second] [(.long q1), (.ref a0)])) rfl rfl (hb hby d2_6)
  have Fw2 := F_answerMillis_a0.same W2
  have f2_0 := F_coordinatorMillis_a0.other W2 (Or.inr (slot_ne (Or.inr (hw _ (List.mem_of_getElem? (i := 16) rfl))) (Or.inr (hw _ (List.mem_of_getElem? (i := 14) rfl))) (by decide) (t := .long) (t' := .long) (by decide) (by decide)))
  have f2_1 := F_heartbeatIntervalMillis_a0.other W2 (Or.inr (slot_ne (Or.inr (hw _ (List.mem_of_getElem? (i := 18) rfl))) (Or.inr (hw _ (List.mem_of_getElem? (i := 14) rfl))) (by decide) (t := .long) (t' := .long) (by decide) (by decide)))
  have f2_2 := F_heartbeatTimeoutMillis_a0.other W2 (Or.inr (slot_ne (Or.inr (hw _ (List.mem_of_getElem? (i := 20) rfl))) (Or.inr (hw _ (List.mem_of_getElem? (i := 14) rfl))) (by decide) (t := .long) (t' := .long) (by decide) (by decide)))
  have f2_3 := F_invitationPeriodMillis_a0.other W2 (Or.inr (slot_ne (Or.inr (hw _ (List.mem_of_getElem? (i := 22) rfl))) (Or.inr (hw _ (List.mem_of_getElem? (i := 14) rfl))) (by decide) (t := .long) (t' := .long) (by decide) (by decide)))
  have f2_4 := E_a0.wr W2
  have K2 : Keep h0 h2 [a0] := (Keep.refl h0 _).wr W2 (Or.inl (List.mem_of_getElem? (i := 0) rfl))
  have Z2 : n0 ≤ h2.size := Nat.le_trans Z0 (Keep.of_wr W2).1
  have N2 := Fr.snoc X2 N0 g_a0
  obtain ⟨T3, h3, X3, e3, W3, st3⟩ := putF X2 hx hZ hown (host := "") (Or.inl (hw _ (List.mem_of_getElem? (i := 15) rfl))) Via.refl e2 f2_0 f2_4 (Or.inr ⟨(hw _ (List.mem_of_getElem? (i := 16) rfl)), rfl, hnm⟩) (hw _ (List.mem_of_getElem? (i := 2) rfl)) (ty := .long) (by decide) rfl rfl (g := (mkF m 11 #[.val (.ref a0), .val (.long q1), .second, .val (.long q2), .second, .val (.long q3), .second, .val (.long q4), .second, .val (.long q5), .second] [(.long q2), (.ref a0)])) rfl rfl (hb hby d2_11)
  have Fw3 := f2_0.same W3
  have f3_0 := f2_1.other W3 (Or.inr (slot_ne (Or.inr (hw _ (List.mem_of_getElem? (i := 18) rfl))) (Or.inr (hw _ (List.mem_of_getElem? (i := 16) rfl))) (by decide) (t := .long) (t' := .long) (by decide) (by decide)))
  have f3_1 := f2_2.other W3 (Or.inr (slot_ne (Or.inr (hw _ (List.mem_of_getElem? (i := 20) rfl))) (Or.inr (hw _ (List.mem_of_getElem? (i := 16) rfl))) (by decide) (t := .long) (t' := .long) (by decide) (by decide)))
  have f3_2 := f2_3.other W3 (Or.inr (slot_ne (Or.inr (hw _ (List.mem_of_getElem? (i := 22) rfl))) (Or.inr (hw _ (List.mem_of_getElem? (i := 16) rfl))) (by decide) (t := .long) (t' := .long) (by decide) (by decide)))
  have f3_3 := f2_4.wr W3
  have f3_4 := Fw2.other W3 (Or.inr (slot_ne (Or.inr (hw _ (List.mem_of_getElem? (i := 14) rfl))) (Or.inr (hw _ (List.mem_of_getElem? (i := 16) rfl))) (by decide) (t := .long) (t' := .long) (by decide) (by decide)))
  have K3 : Keep h0 h3 [a0] := K2.wr W3 (Or.inl (List.mem_of_getElem? (i := 0) rfl))
  have Z3 : n0 ≤ h3.size := Nat.le_trans Z2 (Keep.of_wr W3).1
  have N3 := Fr.snoc X3 N2 g_a0
  obtain ⟨T4, h4, X4, e4, W4, st4⟩ := putF X3 hx hZ hown (host := "") (Or.inl (hw _ (List.mem_of_getElem? (i := 17) rfl))) Via.refl e3 f3_0 f3_3 (Or.inr ⟨(hw _ (List.mem_of_getElem? (i := 18) rfl)), rfl, hnm⟩) (hw _ (List.mem_of_getElem? (i := 2) rfl)) (ty := .long) (by decide) rfl rfl (g := (mkF m 17 #[.val (.ref a0), .val (.long q1), .second, .val (.long q2), .second, .val (.long q3), .second, .val (.long q4), .second, .val (.long q5), .second] [(.long q3), (.ref a0)])) rfl rfl (hb hby d2_17)
  have Fw4 := f3_0.same W4
  have f4_0 := f3_1.other W4 (Or.inr (slot_ne (Or.inr (hw _ (List.mem_of_getElem? (i := 20) rfl))) (Or.inr (hw _ (List.mem_of_getElem? (i := 18) rfl))) (by decide) (t := .long) (t' := .long) (by decide) (by decide)))
  have f4_1 := f3_2.other W4 (Or.inr (slot_ne (Or.inr (hw _ (List.mem_of_getElem? (i := 22) rfl))) (Or.inr (hw _ (List.mem_of_getElem? (i := 18) rfl))) (by decide) (t := .long) (t' := .long) (by decide) (by decide)))
  have f4_2 := f3_3.wr W4
  have f4_3 := f3_4.other W4 (Or.inr (slot_ne (Or.inr (hw _ (List.mem_of_getElem? (i := 14) rfl))) (Or.inr (hw _ (List.mem_of_getElem? (i := 18) rfl))) (by decide) (t := .long) (t' := .long) (by decide) (by decide)))
  have f4_4 := Fw3.other W4 (Or.inr (slot_ne (Or.inr (hw _ (List.mem_of_getElem? (i := 16) rfl))) (Or.inr (hw _ (List.mem_of_getElem? (i := 18) rfl))) (by decide) (t := .long) (t' := .long) (by decide) (by decide)))
  have K4 : Keep h0 h4 [a0] := K3.wr W4 (Or.inl (List.mem_of_getElem? (i := 0) rfl))
  have Z4 : n0 ≤ h4.size := Nat.le_trans Z3 (Keep.of_wr W4).1
  have N4 := Fr.snoc X4 N3 g_a0
  obtain ⟨T5, h5, X5, e5, W5, st5⟩ := putF X4 hx hZ hown (host := "") (Or.inl (hw _ (List.mem_of_getElem? (i := 19) rfl))) Via.refl e4 f4_0 f4_2 (Or.inr ⟨(hw _ (List.mem_of_getElem? (i := 20) rfl)), rfl, hnm⟩) (hw _ (List.mem_of_getElem? (i := 2) rfl)) (ty := .long) (by decide) rfl rfl (g := (mkF m 23 #[.val (.ref a0), .val (.long q1), .second, .val (.long q2), .second, .val (.long q3), .second, .val (.long q4), .second, .val (.long q5), .second] [(.long q4), (.ref a0)])) rfl rfl (hb hby d2_23)
  have Fw5 := f4_0.same W5
  have f5_0 := f4_1.other W5 (Or.inr (slot_ne (Or.inr (hw _ (List.mem_of_getElem? (i := 22) rfl))) (Or.inr (hw _ (List.mem_of_getElem? (i := 20) rfl))) (by decide) (t := .long) (t' := .long) (by decide) (by decide)))
  have f5_1 := f4_2.wr W5
  have f5_2 := f4_3.other W5 (Or.inr (slot_ne (Or.inr (hw _ (List.mem_of_getElem? (i := 14) rfl))) (Or.inr (hw _ (List.mem_of_getElem? (i := 20) rfl))) (by decide) (t := .long) (t' := .long) (by decide) (by decide)))
  have f5_3 := f4_4.other W5 (Or.inr (slot_ne (Or.inr (hw _ (List.mem_of_getElem? (i := 16) rfl))) (Or.inr (hw _ (List.mem_of_getElem? (i := 20) rfl))) (by decide) (t := .long) (t' := .long) (by decide) (by decide)))
  have f5_4 := Fw4.other W5 (Or.inr (slot_ne (Or.inr (hw _ (List.mem_of_getElem? (i := 18) rfl))) (Or.inr (hw _ (List.mem_of_getElem? (i := 20) rfl))) (by decide) (t := .long) (t' := .long) (by decide) (by decide)))
  have K5 : Keep h0 h5 [a0] := K4.wr W5 (Or.inl (List.mem_of_getElem? (i := 0) rfl))
  have Z5 : n0 ≤ h5.size := Nat.le_trans Z4 (Keep.of_wr W5).1
  have N5 := Fr.snoc X5 N4 g_a0
  obtain ⟨T6, h6, X6, e6, W6, st6⟩ := putF X5 hx hZ hown (host := "") (Or.inl (hw _ (List.mem_of_getElem? (i := 21) rfl))) Via.refl e5 f5_0 f5_1 (Or.inr ⟨(hw _ (List.mem_of_getElem? (i := 22) rfl)), rfl, hnm⟩) (hw _ (List.mem_of_getElem? (i := 2) rfl)) (ty := .long) (by decide) rfl rfl (g := (mkF m 29 #[.val (.ref a0), .val (.long q1), .second, .val (.long q2), .second, .val (.long q3), .second, .val (.long q4), .second, .val (.long q5), .second] [(.long q5), (.ref a0)])) rfl rfl (hb hby d2_29)
  have Fw6 := f5_0.same W6
  have f6_0 := f5_1.wr W6
  have f6_1 := f5_2.other W6 (Or.inr (slot_ne (Or.inr (hw _ (List.mem_of_getElem? (i := 14) rfl))) (Or.inr (hw _ (List.mem_of_getElem? (i := 22) rfl))) (by decide) (t := .long) (t' := .long) (by decide) (by decide)))
  have f6_2 := f5_3.other W6 (Or.inr (slot_ne (Or.inr (hw _ (List.mem_of_getElem? (i := 16) rfl))) (Or.inr (hw _ (List.mem_of_getElem? (i := 22) rfl))) (by decide) (t := .long) (t' := .long) (by decide) (by decide)))
  have f6_3 := f5_4.other W6 (Or.inr (slot_ne (Or.inr (hw _ (List.mem_of_getElem? (i := 18) rfl))) (Or.inr (hw _ (List.mem_of_getElem? (i := 22) rfl))) (by decide) (t := .long) (t' := .long) (by decide) (by decide)))
  have f6_4 := Fw5.other W6 (Or.inr (slot_ne (Or.inr (hw _ (List.mem_of_getElem? (i := 20) rfl))) (Or.inr (hw _ (List.mem_of_getElem? (i := 22) rfl))) (by decide) (t := .long) (t' := .long) (by decide) (by decide)))
  have K6 : Keep h0 h6 [a0] := K5.wr W6 (Or.inl (List.mem_of_getElem? (i := 0) rfl))
  have Z6 : n0 ≤ h6.size := Nat.le_trans Z5 (Keep.of_wr W6).1
  have N6 := Fr.snoc X6 N5 g_a0
  refine own_back (b := T6.setTop (mkF m 32 #[.val (.ref a0), .val (.long q1), .second, .val (.long q2), .second, .val (.long q3), .second, .val (.long q4), .second, .val (.long q5), .second] [])) (fun t kt => ?_) ?_
  · show Steps p.tables e below (s₁.setTop (mkF m 0 #[.val (.ref a0), .val (.long q1), .second, .val (.long q2), .second, .val (.long q3), .second, .val (.long q4), .second, .val (.long q5), .second] [])) _
    refine XS.aloadN X0.here hx rfl (hb hby d2_0) rfl rfl ?_
    show Steps p.tables e below (s₁.setTop (mkF m 1 #[.val (.ref a0), .val (.long q1), .second, .val (.long q2), .second, .val (.long q3), .second, .val (.long q4), .second, .val (.long q5), .second] [(.ref a0)])) _
    refine st1 _ ?_
    refine XS.aloadN X1.here hx rfl (hb hby d2_4) rfl rfl ?_
    refine XS.lloadN X1.here hx rfl (hb hby d2_5) rfl ?_
    show Steps p.tables e below (T1.setTop (mkF m 6 #[.val (.ref a0), .val (.long q1), .second, .val (.long q2), .second, .val (.long q3), .second, .val (.long q4), .second, .val (.long q5), .second] [(.long q1), (.ref a0)])) _
    refine st2 _ ?_
    refine XS.aloadN X2.here hx rfl (hb hby d2_9) rfl rfl ?_
    refine XS.lloadN X2.here hx rfl (hb hby d2_10) rfl ?_
    show Steps p.tables e below (T2.setTop (mkF m 11 #[.val (.ref a0), .val (.long q1), .second, .val (.long q2), .second, .val (.long q3), .second, .val (.long q4), .second, .val (.long q5), .second] [(.long q2), (.ref a0)])) _
    refine st3 _ ?_
    refine XS.aloadN X3.here hx rfl (hb hby d2_14) rfl rfl ?_
    refine XS.lload X3.here hx rfl (hb hby d2_15) rfl ?_
    show Steps p.tables e below (T3.setTop (mkF m 17 #[.val (.ref a0), .val (.long q1), .second, .val (.long q2), .second, .val (.long q3), .second, .val (.long q4), .second, .val (.long q5), .second] [(.long q3), (.ref a0)])) _
    refine st4 _ ?_
    refine XS.aloadN X4.here hx rfl (hb hby d2_20) rfl rfl ?_
    refine XS.lload X4.here hx rfl (hb hby d2_21) rfl ?_
    show Steps p.tables e below (T4.setTop (mkF m 23 #[.val (.ref a0), .val (.long q1), .second, .val (.long q2), .second, .val (.long q3), .second, .val (.long q4), .second, .val (.long q5), .second] [(.long q4), (.ref a0)])) _
    refine st5 _ ?_
    refine XS.aloadN X5.here hx rfl (hb hby d2_26) rfl rfl ?_
    refine XS.lload X5.here hx rfl (hb hby d2_27) rfl ?_
    show Steps p.tables e below (T5.setTop (mkF m 29 #[.val (.ref a0), .val (.long q1), .second, .val (.long q2), .second, .val (.long q3), .second, .val (.long q4), .second, .val (.long q5), .second] [(.long q5), (.ref a0)])) _
    refine st6 _ ?_
    exact kt
  obtain ⟨fs, hr, hrun, hended, hW, hsame⟩ := X6.leave (v := none) (fun _ => rfl) (BodyLoose.notSynchronized Bd)
  refine ⟨_, _, ?_, hrun, hended, _, _, rfl, ?_, ⟨_, rfl⟩, hW, hsame.mono (by decide) (by decide)⟩
  · show Steps p.tables e below (T6.setTop (mkF m 32 #[.val (.ref a0), .val (.long q1), .second, .val (.long q2), .second, .val (.long q3), .second, .val (.long q4), .second, .val (.long q5), .second] [])) _
    exact X6.returnOut hx Bd.returns (hb hby d2_32) hr
  · show Q2 Z a0 q1 q2 q3 q4 q5 h0 n0 _ T6.heap _
    rw [e6]
    exact ⟨rfl, N6, K6, f6_0, f6_1, f6_2, f6_3, f6_4, Fw6⟩
theorem d1_0 : decode prog_19_method_1_code 0 = .ok (.aload_n 0, 1) := by decide +kernel
theorem d1_1 : decode prog_19_method_1_code 1 = .ok (.lload_n 1, 1) := by decide +kernel
theorem d1_2 : decode prog_19_method_1_code 2 = .ok (.lload_n 3, 1) := by decide +kernel
theorem d1_3 : decode prog_19_method_1_code 3 = .ok (.lconst 0, 1) := by decide +kernel
theorem d1_4 : decode prog_19_method_1_code 4 = .ok (.lconst 0, 1) := by decide +kernel
theorem d1_5 : decode prog_19_method_1_code 5 = .ok (.lconst 0, 1) := by decide +kernel
theorem d1_6 : decode prog_19_method_1_code 6 = .ok (.invokespecial 1, 3) := by decide +kernel
theorem d1_9 : decode prog_19_method_1_code 9 = .ok (.lload_n 1, 1) := by decide +kernel
theorem d1_10 : decode prog_19_method_1_code 10 = .ok (.lconst 1, 1) := by decide +kernel
theorem d1_11 : decode prog_19_method_1_code 11 = .ok (.lcmp, 1) := by decide +kernel
theorem d1_12 : decode prog_19_method_1_code 12 = .ok (.ifCond .lt 9, 3) := by decide +kernel
theorem d1_15 : decode prog_19_method_1_code 15 = .ok (.lload_n 3, 1) := by decide +kernel
theorem d1_16 : decode prog_19_method_1_code 16 = .ok (.lconst 1, 1) := by decide +kernel
theorem d1_17 : decode prog_19_method_1_code 17 = .ok (.lcmp, 1) := by decide +kernel
theorem d1_18 : decode prog_19_method_1_code 18 = .ok (.ifCond .ge 18, 3) := by decide +kernel
theorem d1_36 : decode prog_19_method_1_code 36 = .ok (.return_, 1) := by decide +kernel
theorem pn_1 : plainName "com/example/many_to_leader/manytoleader/bully/Timeouts" = true := by first | (simp [plainName, overriddenIn]; done) | decide +kernel
theorem pd_1_0 : parseMethodDescriptor "(JJJJJ)V" = some ⟨[.long, .long, .long, .long, .long], none⟩ := by decide +kernel
theorem ef_1 (m : MethodId) (x0 : Addr) (x1 : Int64) (x2 : Int64) : entryFrame m #[(.ref x0), (.long x1), (.long x2)] 5 = mkF m 0 #[.val (.ref x0), .val (.long x1), .second, .val (.long x2), .second] [] := by first | (simp [entryFrame, mkF, argsToLocals, Value.category]; done) | rfl
def Q1 (Z : State) (a0 : Addr) (q1 : Int64) (q2 : Int64) (h0 : Heap) (n0 : Nat) (v : Option Value) (h : Heap) (L : List Loc) : Prop := v = none ∧ Fr n0 L ∧ Keep h0 h [a0] ∧ Exa Z h a0 "com/example/many_to_leader/manytoleader/bully/Timeouts" ∧ Fld Z h a0 "com/example/many_to_leader/manytoleader/bully/Timeouts" "answerMillis" "J" (.long q1) ∧ Fld Z h a0 "com/example/many_to_leader/manytoleader/bully/Timeouts" "coordinatorMillis" "J" (.long q2) ∧ Fld Z h a0 "com/example/many_to_leader/manytoleader/bully/Timeouts" "heartbeatIntervalMillis" "J" (.long (0 : Int64)) ∧ Fld Z h a0 "com/example/many_to_leader/manytoleader/bully/Timeouts" "heartbeatTimeoutMillis" "J" (.long (0 : Int64)) ∧ Fld Z h a0 "com/example/many_to_leader/manytoleader/bully/Timeouts" "invitationPeriodMillis" "J" (.long (0 : Int64))
set_option maxRecDepth 65536 in
set_option maxHeartbeats 40000000 in
theorem rm1 (l : Launch) (Z : State) (aw : Array Value) (hw : ∀ d ∈ tables_1, d.before aw Z = true) (ws : List Jvm.Cond) (a0 : Addr) (q1 : Int64) (q2 : Int64) (h0 : Heap) (n0 : Nat) (Z0 : n0 ≤ h0.size) (F_answerMillis_a0 : Fld Z h0 a0 "com/example/many_to_leader/manytoleader/bully/Timeouts" "answerMillis" "J" (.long (0 : Int64))) (F_coordinatorMillis_a0 : Fld Z h0 a0 "com/example/many_to_leader/manytoleader/bully/Timeouts" "coordinatorMillis" "J" (.long (0 : Int64))) (F_heartbeatIntervalMillis_a0 : Fld Z h0 a0 "com/example/many_to_leader/manytoleader/bully/Timeouts" "heartbeatIntervalMillis" "J" (.long (0 : Int64))) (F_heartbeatTimeoutMillis_a0 : Fld Z h0 a0 "com/example/many_to_leader/manytoleader/bully/Timeouts" "heartbeatTimeoutMillis" "J" (.long (0 : Int64))) (F_invitationPeriodMillis_a0 : Fld Z h0 a0 "com/example/many_to_leader/manytoleader/bully/Timeouts" "invitationPeriodMillis" "J" (.long (0 : Int64))) (E_a0 : Exa Z h0 a0 "com/example/many_to_leader/manytoleader/bully/Timeouts") (g_a0 : n0 ≤ a0) (hq1 : ¬ (q1 < (1 : Int64))) (hq2 : ¬ (q2 < (1 : Int64))) :
    MetFree l (⟨"com/example/many_to_leader/manytoleader/bully/Timeouts", "<init>", "(JJ)V"⟩ : MethodName) (head1 (Jvm.Cond.code (⟨"com/example/many_to_leader/manytoleader/bully/Timeouts", "<init>", "(JJ)V"⟩ : MethodName) prog_19_method_1_code 5 none :: ws) ({ frames := 2, cells := 0, slots := 0, locals := 34 } : Room)) (fun a U => a = #[(.ref a0), (.long q1), (.long q2)] ∧ Z.Warmed39 U.vm ∧ U.heap = h0) (fun _ _ _ _ _ => True) (fun _ U o U' => ∃ v L, o = .returned v ∧ Q1 Z a0 q1 q2 h0 n0 v U'.heap L ∧ FrameEnd U o U' L ({ frames := 2, cells := 0, slots := 0, locals := 34 } : Room).cells ({ frames := 2, cells := 0, slots := 0, locals := 34 } : Room).slots) := by
  refine MetFree.of_bodySF (plainFor_of_name pn_1) hisR ?_
  intro p e s m args below meth c s₁ Bd hml0 hP hK
  obtain ⟨rfl, hZ, hh⟩ := hP
  have hx := Bd.exec
  have hby := Bd.bytes
  have hml : c.maxLocals = 5 := hml0
  have hown : s.vm.findClass "com/example/many_to_leader/manytoleader/bully/Timeouts" = some m.cls := findClass_of_methodNamed Bd.named
  have hnm := (name_of_methodNamed Bd.named Bd.method).1
  have X0 : Stand p l e ({ frames := 2, cells := 0, slots := 0, locals := 34 } : Room) s m #[(.ref a0), (.long q1), (.long q2)] below meth c s₁ [] 0 0 := Stand.of_body Bd
  have e0 : s₁.heap = h0 := by rw [← hh, Bd.state]; rfl
  have N0 := Fr.nil n0
  refine own_back (b := s₁.setTop (mkF m 0 #[.val (.ref a0), .val (.long q1), .second, .val (.long q2), .second] [])) (fun t kt => castTop (ef_1 m a0 q1 q2) kt) ?_
  obtain ⟨_, _, ⟨T1, L1, k1, n1⟩, -, X1, ⟨Lc1, hQ1, l1, y1, z1⟩, st1⟩ := X0.specialBack hx (y := (⟨"com/example/many_to_leader/manytoleader/bully/Timeouts", "<init>", "(JJJJJ)V"⟩ : MethodName)) rfl hown (mvT hZ (hw _ (List.mem_of_getElem? (i := 7) rfl))) (mvT hZ (hw _ (List.mem_of_getElem? (i := 8) rfl))) (mvT hZ (hw _ (List.mem_of_getElem? (i := 9) rfl))) (by decide) (backOf (W := 0) (rm2 l Z aw hw [] a0 q1 q2 (0 : Int64) (0 : Int64) (0 : Int64) h0 n0 Z0 F_answerMillis_a0 F_coordinatorMillis_a0 F_heartbeatIntervalMillis_a0 F_heartbeatTimeoutMillis_a0 F_invitationPeriodMillis_a0 E_a0 g_a0) hZ (hw _ (List.mem_of_getElem? (i := 9) rfl)) (hw _ (List.mem_of_getElem? (i := 3) rfl)) (by decide) (by decide)) (g := (mkF m 6 #[.val (.ref a0), .val (.long q1), .second, .val (.long q2), .second] [(.long (0 : Int64)), (.long (0 : Int64)), (.long (0 : Int64)), (.long q2), (.long q1), (.ref a0)])) rfl (by rw [hml]; rfl) (Steps.refl _) (a := a0) (argsL := [(.long q1), (.long q2), (.long (0 : Int64)), (.long (0 : Int64)), (.long (0 : Int64))]) (rest := []) (lenOf pd_1_0 rfl) rfl (by show 2 * 0 + _ ≤ _; exact Nat.le_of_eq rfl) (hb hby d1_6) (fun _ _ => ⟨rfl, e0, (by decide : 0 + 0 ≤ _), (by decide : 0 + 0 ≤ _)⟩)
  dsimp only [Pt.U, Pt.locs, Pt.cells, Pt.slots] at X1 l1 y1 z1 st1 hQ1
  rw [l1, y1, z1] at X1
  obtain ⟨rfl, Nq1, Kq1, P1_0, P1_1, P1_2, P1_3, P1_4, P1_5⟩ := hQ1
  have N1 := Fr.app N0 Nq1
  have K1 : Keep h0 T1.heap [a0] := (Keep.refl h0 _).trans Kq1 (allS (Or.inl (List.mem_of_getElem? (i := 0) rfl)) all0)
  have Z1 : n0 ≤ T1.heap.size := Nat.le_trans Z0 Kq1.1
  refine own_back (b := T1.setTop (mkF m 36 #[.val (.ref a0), .val (.long q1), .second, .val (.long q2), .second] [])) (fun t kt => ?_) ?_
  · show Steps p.tables e below (s₁.setTop (mkF m 0 #[.val (.ref a0), .val (.long q1), .second, .val (.long q2), .second] [])) _
    refine XS.aloadN X0.here hx rfl (hb hby d1_0) rfl rfl ?_
    refine XS.lloadN X0.here hx rfl (hb hby d1_1) rfl ?_
    refine XS.lloadN X0.here hx rfl (hb hby d1_2) rfl ?_
    refine XS.lconst X0.here hx rfl (hb hby d1_3) ?_
    refine XS.lconst X0.here hx rfl (hb hby d1_4) ?_
    refine XS.lconst X0.here hx rfl (hb hby d1_5) ?_
    show Steps p.tables e below (s₁.setTop (mkF m 6 #[.val (.ref a0), .val (.long q1), .second, .val (.long q2), .second] [(.long (0 : Int64)), (.long (0 : Int64)), (.long (0 : Int64)), (.long q2), (.long q1), (.ref a0)])) _
    refine st1.trans ?_
    refine XS.lloadN X1.here hx rfl (hb hby d1_9) rfl ?_
    refine XS.lconst X1.here hx rfl (hb hby d1_10) ?_
    refine XS.lcmp X1.here hx rfl (hb hby d1_11) rfl ?_
    refine XS.ifNo X1.here hx rfl (hb hby d1_12) rfl ((if0 _ _).trans (flt (fun q => hq1 ((lw_lt _ _).mp q))).1) ?_
    refine XS.lloadN X1.here hx rfl (hb hby d1_15) rfl ?_
    refine XS.lconst X1.here hx rfl (hb hby d1_16) ?_
    show Steps p.tables e below (T1.setTop (mkF m 17 #[.val (.ref a0), .val (.long q1), .second, .val (.long q2), .second] [(.long (1 : Int64)), (.long q2)])) _
    refine XS.lcmp X1.here hx rfl (hb hby d1_17) rfl ?_
    refine XS.ifYes X1.here hx rfl (pc0 := 18) (pc' := 36) rfl (hb hby d1_18) rfl ((if0 _ _).trans (flt (fun q => hq2 ((lw_lt _ _).mp q))).2.1) (by decide) (by decide) ?_
    exact kt
  obtain ⟨fs, hr, hrun, hended, hW, hsame⟩ := X1.leave (v := none) (fun _ => rfl) (BodyLoose.notSynchronized Bd)
  refine ⟨_, _, ?_, hrun, hended, _, _, rfl, ?_, ⟨_, rfl⟩, hW, hsame.mono (by decide) (by decide)⟩
  · show Steps p.tables e below (T1.setTop (mkF m 36 #[.val (.ref a0), .val (.long q1), .second, .val (.long q2), .second] [])) _
    exact X1.returnOut hx Bd.returns (hb hby d1_36) hr
  · show Q1 Z a0 q1 q2 h0 n0 _ T1.heap _
    exact ⟨rfl, N1, K1, P1_0, P1_1, P1_2, P1_3, P1_4, P1_5⟩
theorem d4_0 : decode prog_19_method_3_code 0 = .ok (.lload_n 1, 1) := by decide +kernel
theorem d4_1 : decode prog_19_method_3_code 1 = .ok (.lconst 1, 1) := by decide +kernel
theorem d4_2 : decode prog_19_method_3_code 2 = .ok (.lcmp, 1) := by decide +kernel
theorem d4_3 : decode prog_19_method_3_code 3 = .ok (.ifCond .lt 9, 3) := by decide +kernel
theorem d4_6 : decode prog_19_method_3_code 6 = .ok (.lload_n 3, 1) := by decide +kernel
theorem d4_7 : decode prog_19_method_3_code 7 = .ok (.lload_n 1, 1) := by decide +kernel
theorem d4_8 : decode prog_19_method_3_code 8 = .ok (.lcmp, 1) := by decide +kernel
theorem d4_9 : decode prog_19_method_3_code 9 = .ok (.ifCond .gt 18, 3) := by decide +kernel
theorem d4_27 : decode prog_19_method_3_code 27 = .ok (.new 2, 3) := by decide +kernel
theorem d4_30 : decode prog_19_method_3_code 30 = .ok (.dup, 1) := by decide +kernel
theorem d4_31 : decode prog_19_method_3_code 31 = .ok (.aload_n 0, 1) := by decide +kernel
theorem d4_32 : decode prog_19_method_3_code 32 = .ok (.getfield 21, 3) := by decide +kernel
theorem d4_35 : decode prog_19_method_3_code 35 = .ok (.aload_n 0, 1) := by decide +kernel
theorem d4_36 : decode prog_19_method_3_code 36 = .ok (.getfield 25, 3) := by decide +kernel
theorem d4_39 : decode prog_19_method_3_code 39 = .ok (.lload_n 1, 1) := by decide +kernel
theorem d4_40 : decode prog_19_method_3_code 40 = .ok (.lload_n 3, 1) := by decide +kernel
theorem d4_41 : decode prog_19_method_3_code 41 = .ok (.aload_n 0, 1) := by decide +kernel
theorem d4_42 : decode prog_19_method_3_code 42 = .ok (.getfield 34, 3) := by decide +kernel
theorem d4_45 : decode prog_19_method_3_code 45 = .ok (.invokespecial 1, 3) := by decide +kernel
theorem d4_48 : decode prog_19_method_3_code 48 = .ok (.areturn, 1) := by decide +kernel
theorem pn_4 : plainName "com/example/many_to_leader/manytoleader/bully/Timeouts" = true := by first | (simp [plainName, overriddenIn]; done) | decide +kernel
theorem pd_4_0 : parseMethodDescriptor "(JJJJJ)V" = some ⟨[.long, .long, .long, .long, .long], none⟩ := by decide +kernel
theorem ef_4 (m : MethodId) (x0 : Addr) (x1 : Int64) (x2 : Int64) : entryFrame m #[(.ref x0), (.long x1), (.long x2)] 5 = mkF m 0 #[.val (.ref x0), .val (.long x1), .second, .val (.long x2), .second] [] := by first | (simp [entryFrame, mkF, argsToLocals, Value.category]; done) | rfl
def Q4 (Z : State) (a0 : Addr) (q1 : Int64) (q2 : Int64) (w1 : Int64) (w2 : Int64) (w5 : Int64) (h0 : Heap) (n0 : Nat) (v : Option Value) (h : Heap) (L : List Loc) : Prop := ∃ b : Addr, v = some (.ref b) ∧ Fr n0 L ∧ Keep h0 h [] ∧ n0 ≤ b ∧ h0.size ≤ b ∧ Exa Z h b "com/example/many_to_leader/manytoleader/bully/Timeouts" ∧ Fld Z h b "com/example/many_to_leader/manytoleader/bully/Timeouts" "heartbeatIntervalMillis" "J" (.long q1) ∧ Fld Z h b "com/example/many_to_leader/manytoleader/bully/Timeouts" "heartbeatTimeoutMillis" "J" (.long q2)
set_option maxRecDepth 65536 in
set_option maxHeartbeats 40000000 in
theorem rm4 (l : Launch) (Z : State) (aw : Array Value) (hw : ∀ d ∈ tables_1, d.before aw Z = true) (ws : List Jvm.Cond) (a0 : Addr) (q1 : Int64) (q2 : Int64) (w1 : Int64) (w2 : Int64) (w5 : Int64) (h0 : Heap) (n0 : Nat) (Z0 : n0 ≤ h0.size) (F_answerMillis_a0 : Fld Z h0 a0 "com/example/many_to_leader/manytoleader/bully/Timeouts" "answerMillis" "J" (.long w1)) (F_coordinatorMillis_a0 : Fld Z h0 a0 "com/example/many_to_leader/manytoleader/bully/Timeouts" "coordinatorMillis" "J" (.long w2)) (F_invitationPeriodMillis_a0 : Fld Z h0 a0 "com/example/many_to_leader/manytoleader/bully/Timeouts" "invitationPeriodMillis" "J" (.long w5)) (hq1 : ¬ (q1 < (1 : Int64))) (hq2 : q1 < q2) :
    MetFree l (⟨"com/example/many_to_leader/manytoleader/bully/Timeouts", "withHeartbeats", "(JJ)Lcom/example/many_to_leader/manytoleader/bully/Timeouts;"⟩ : MethodName) (head1 (Jvm.Cond.code (⟨"com/example/many_to_leader/manytoleader/bully/Timeouts", "withHeartbeats", "(JJ)Lcom/example/many_to_leader/manytoleader/bully/Timeouts;"⟩ : MethodName) prog_19_method_3_code 5 (some (.object "com/example/many_to_leader/manytoleader/bully/Timeouts")) :: ws) ({ frames := 2, cells := 1, slots := 5, locals := 35 } : Room)) (fun a U => a = #[(.ref a0), (.long q1), (.long q2)] ∧ Z.Warmed39 U.vm ∧ U.heap = h0) (fun _ _ _ _ _ => True) (fun _ U o U' => ∃ v L, o = .returned v ∧ Q4 Z a0 q1 q2 w1 w2 w5 h0 n0 v U'.heap L ∧ FrameEnd U o U' L ({ frames := 2, cells := 1, slots := 5, locals := 35 } : Room).cells ({ frames := 2, cells := 1, slots := 5, locals := 35 } : Room).slots) := by
  refine MetFree.of_bodySF (plainFor_of_name pn_4) hisR ?_
  intro p e s m args below meth c s₁ Bd hml0 hP hK
  obtain ⟨rfl, hZ, hh⟩ := hP
  have hx := Bd.exec
  have hby := Bd.bytes
  have hml : c.maxLocals = 5 := hml0
  have hown : s.vm.findClass "com/example/many_to_leader/manytoleader/bully/Timeouts" = some m.cls := findClass_of_methodNamed Bd.named
  have hnm := (name_of_methodNamed Bd.named Bd.method).1
  have X0 : Stand p l e ({ frames := 2, cells := 1, slots := 5, locals := 35 } : Room) s m #[(.ref a0), (.long q1), (.long q2)] below meth c s₁ [] 0 0 := Stand.of_body Bd
  have e0 : s₁.heap = h0 := by rw [← hh, Bd.state]; rfl
  have N0 := Fr.nil n0
  refine own_back (b := s₁.setTop (mkF m 0 #[.val (.ref a0), .val (.long q1), .second, .val (.long q2), .second] [])) (fun t kt => castTop (ef_4 m a0 q1 q2) kt) ?_
  obtain ⟨T1, h1, X1, e1, E1, A1, D1, -, st1⟩ := newO X0 hx hZ hown (hw _ (List.mem_of_getElem? (i := 28) rfl)) (hw _ (List.mem_of_getElem? (i := 2) rfl)) (hw _ (List.mem_of_getElem? (i := 3) rfl)) e0 (g := (mkF m 27 #[.val (.ref a0), .val (.long q1), .second, .val (.long q2), .second] [])) rfl (hb hby d4_27) (by decide) (by decide)
  obtain ⟨b1, g1⟩ : ∃ z, z = h0.size := ⟨_, rfl⟩
  rw [← g1] at A1 D1 st1
  have ne1_a0 : a0 ≠ b1 := Nat.ne_of_lt (Nat.lt_of_lt_of_le F_answerMillis_a0.lt (Nat.le_of_eq g1.symm))
  have lo1 : n0 ≤ b1 := Nat.le_trans Z0 (Nat.le_of_eq g1.symm)
  have sz1 : h0.size ≤ b1 := Nat.le_trans (Nat.le_refl _) (Nat.le_of_eq g1.symm)
  have f1_0 := F_answerMillis_a0.ext E1
  have f1_1 := F_coordinatorMillis_a0.ext E1
  have f1_2 := F_invitationPeriodMillis_a0.ext E1
  have K1 : Keep h0 h1 [] := (Keep.refl h0 _).ext E1
  have Z1 : n0 ≤ h1.size := Nat.le_trans Z0 E1.1
  have F1_answerMillis : Fld Z h1 b1 "com/example/many_to_leader/manytoleader/bully/Timeouts" "answerMillis" "J" (.long (0 : Int64)) := D1 (Or.inr (hw _ (List.mem_of_getElem? (i := 14) rfl))) (ty := .long) (by decide)
  have F1_coordinatorMillis : Fld Z h1 b1 "com/example/many_to_leader/manytoleader/bully/Timeouts" "coordinatorMillis" "J" (.long (0 : Int64)) := D1 (Or.inr (hw _ (List.mem_of_getElem? (i := 16) rfl))) (ty := .long) (by decide)
  have F1_heartbeatIntervalMillis : Fld Z h1 b1 "com/example/many_to_leader/manytoleader/bully/Timeouts" "heartbeatIntervalMillis" "J" (.long (0 : Int64)) := D1 (Or.inr (hw _ (List.mem_of_getElem? (i := 18) rfl))) (ty := .long) (by decide)
  have F1_heartbeatTimeoutMillis : Fld Z h1 b1 "com/example/many_to_leader/manytoleader/bully/Timeouts" "heartbeatTimeoutMillis" "J" (.long (0 : Int64)) := D1 (Or.inr (hw _ (List.mem_of_getElem? (i := 20) rfl))) (ty := .long) (by decide)
  have F1_invitationPeriodMillis : Fld Z h1 b1 "com/example/many_to_leader/manytoleader/bully/Timeouts" "invitationPeriodMillis" "J" (.long (0 : Int64)) := D1 (Or.inr (hw _ (List.mem_of_getElem? (i := 22) rfl))) (ty := .long) (by decide)
  obtain ⟨T2, X2, e2, st2⟩ := getF X1 hx hZ hown (host := "") (Or.inl (hw _ (List.mem_of_getElem? (i := 13) rfl))) Via.refl e1 f1_0 (g := (mkF m 32 #[.val (.ref a0), .val (.long q1), .second, .val (.long q2), .second] [(.ref a0), (.ref b1), (.ref b1)])) rfl rfl (hb hby d4_32)
  obtain ⟨T3, X3, e3, st3⟩ := getF X2 hx hZ hown (host := "") (Or.inl (hw _ (List.mem_of_getElem? (i := 15) rfl))) Via.refl e2 f1_1 (g := (mkF m 36 #[.val (.ref a0), .val (.long q1), .second, .val (.long q2), .second] [(.ref a0), (.long w1), (.ref b1), (.ref b1)])) rfl rfl (hb hby d4_36)
  obtain ⟨T4, X4, e4, st4⟩ := getF X3 hx hZ hown (host := "") (Or.inl (hw _ (List.mem_of_getElem? (i := 21) rfl))) Via.refl e3 f1_2 (g := (mkF m 42 #[.val (.ref a0), .val (.long q1), .second, .val (.long q2), .second] [(.ref a0), (.long q2), (.long q1), (.long w2), (.long w1), (.ref b1), (.ref b1)])) rfl rfl (hb hby d4_42)
  obtain ⟨_, _, ⟨T5, L5, k5, n5⟩, -, X5, ⟨Lc5, hQ5, l5, y5, z5⟩, st5⟩ := X4.specialBack hx (y := (⟨"com/example/many_to_leader/manytoleader/bully/Timeouts", "<init>", "(JJJJJ)V"⟩ : MethodName)) rfl hown (mvT hZ (hw _ (List.mem_of_getElem? (i := 7) rfl))) (mvT hZ (hw _ (List.mem_of_getElem? (i := 8) rfl))) (mvT hZ (hw _ (List.mem_of_getElem? (i := 9) rfl))) (by decide) (backOf (W := 1) (rm2 l Z aw hw [] b1 w1 w2 q1 q2 w5 h1 n0 Z1 F1_answerMillis F1_coordinatorMillis F1_heartbeatIntervalMillis F1_heartbeatTimeoutMillis F1_invitationPeriodMillis A1 lo1) hZ (hw _ (List.mem_of_getElem? (i := 9) rfl)) (hw _ (List.mem_of_getElem? (i := 3) rfl)) (by decide) (by decide)) (g := (mkF m 45 #[.val (.ref a0), .val (.long q1), .second, .val (.long q2), .second] [(.long w5), (.long q2), (.long q1), (.long w2), (.long w1), (.ref b1), (.ref b1)])) rfl (by rw [hml]; rfl) (Steps.refl _) (a := b1) (argsL := [(.long w1), (.long w2), (.long q1), (.long q2), (.long w5)]) (rest := [(.ref b1)]) (lenOf pd_4_0 rfl) rfl (by show 2 * 0 + _ ≤ _; exact Nat.le_of_eq rfl) (hb hby d4_45) (fun _ _ => ⟨rfl, e4, (by decide : 1 + 0 ≤ _), (by decide : 5 + 0 ≤ _)⟩)
  dsimp only [Pt.U, Pt.locs, Pt.cells, Pt.slots] at X5 l5 y5 z5 st5 hQ5
  rw [l5, y5, z5] at X5
  obtain ⟨rfl, Nq5, Kq5, P5_0, P5_1, P5_2, P5_3, P5_4, P5_5⟩ := hQ5
  have N5 := Fr.app N0 Nq5
  have f5_0 := f1_0.keep Kq5 (ninS ne1_a0 nin0)
  have f5_1 := f1_1.keep Kq5 (ninS ne1_a0 nin0)
  have f5_2 := f1_2.keep Kq5 (ninS ne1_a0 nin0)
  have K5 : Keep h0 T5.heap [] := K1.trans Kq5 (allS (Or.inr sz1) all0)
  have Z5 : n0 ≤ T5.heap.size := Nat.le_trans Z1 Kq5.1
  refine own_back (b := T5.setTop (mkF m 48 #[.val (.ref a0), .val (.long q1), .second, .val (.long q2), .second] [(.ref b1)])) (fun t kt => ?_) ?_
  · show Steps p.tables e below (s₁.setTop (mkF m 0 #[.val (.ref a0), .val (.long q1), .second, .val (.long q2), .second] [])) _
    refine XS.lloadN X0.here hx rfl (hb hby d4_0) rfl ?_
    refine XS.lconst X0.here hx rfl (hb hby d4_1) ?_
    refine XS.lcmp X0.here hx rfl (hb hby d4_2) rfl ?_
    refine XS.ifNo X0.here hx rfl (hb hby d4_3) rfl ((if0 _ _).trans (flt (fun q => hq1 ((lw_lt _ _).mp q))).1) ?_
    refine XS.lloadN X0.here hx rfl (hb hby d4_6) rfl ?_
    refine XS.lloadN X0.here hx rfl (hb hby d4_7) rfl ?_
    refine XS.lcmp X0.here hx rfl (hb hby d4_8) rfl ?_
    show Steps p.tables e below (s₁.setTop (mkF m 9 #[.val (.ref a0), .val (.long q1), .second, .val (.long q2), .second] [(.int (lcmpW q2 q1))])) _
    refine XS.ifYes X0.here hx rfl (pc0 := 9) (pc' := 27) rfl (hb hby d4_9) rfl ((if0 _ _).trans (tlt ((lw_gt _ _).mpr hq2)).2.2.1) (by decide) (by decide) ?_
    show Steps p.tables e below (s₁.setTop (mkF m 27 #[.val (.ref a0), .val (.long q1), .second, .val (.long q2), .second] [])) _
    refine st1 _ ?_
    refine XS.dup X1.here hx rfl (hb hby d4_30) rfl rfl ?_
    refine XS.aloadN X1.here hx rfl (hb hby d4_31) rfl rfl ?_
    show Steps p.tables e below (T1.setTop (mkF m 32 #[.val (.ref a0), .val (.long q1), .second, .val (.long q2), .second] [(.ref a0), (.ref b1), (.ref b1)])) _
    refine st2 _ ?_
    refine XS.aloadN X2.here hx rfl (hb hby d4_35) rfl rfl ?_
    show Steps p.tables e below (T2.setTop (mkF m 36 #[.val (.ref a0), .val (.long q1), .second, .val (.long q2), .second] [(.ref a0), (.long w1), (.ref b1), (.ref b1)])) _
    refine st3 _ ?_
    refine XS.lloadN X3.here hx rfl (hb hby d4_39) rfl ?_
    refine XS.lloadN X3.here hx rfl (hb hby d4_40) rfl ?_
    refine XS.aloadN X3.here hx rfl (hb hby d4_41) rfl rfl ?_
    show Steps p.tables e below (T3.setTop (mkF m 42 #[.val (.ref a0), .val (.long q1), .second, .val (.long q2), .second] [(.ref a0), (.long q2), (.long q1), (.long w2), (.long w1), (.ref b1), (.ref b1)])) _
    refine st4 _ ?_
    show Steps p.tables e below (T4.setTop (mkF m 45 #[.val (.ref a0), .val (.long q1), .second, .val (.long q2), .second] [(.long w5), (.long q2), (.long q1), (.long w2), (.long w1), (.ref b1), (.ref b1)])) _
    refine st5.trans ?_
    exact kt
  obtain ⟨fs, hr, hrun, hended, hW, hsame⟩ := X5.leave (v := some (.ref b1)) (fun h => by rw [Bd.returns] at h; cases h) (BodyLoose.notSynchronized Bd)
  refine ⟨_, _, ?_, hrun, hended, _, _, rfl, ?_, ⟨_, rfl⟩, hW, hsame.mono (by decide) (by decide)⟩
  · show Steps p.tables e below (T5.setTop (mkF m 48 #[.val (.ref a0), .val (.long q1), .second, .val (.long q2), .second] [(.ref b1)])) _
    exact own_retA X5 hx Bd.returns rfl rfl (hb hby d4_48) hr
  · show Q4 Z a0 q1 q2 w1 w2 w5 h0 n0 _ T5.heap _
    exact ⟨b1, rfl, N5, K5, lo1, sz1, P5_0, P5_3, P5_4⟩
theorem d5_0 : decode prog_18_method_1_code 0 = .ok (.aload_n 0, 1) := by decide +kernel
theorem d5_1 : decode prog_18_method_1_code 1 = .ok (.invokespecial 1, 3) := by decide +kernel
theorem d5_4 : decode prog_18_method_1_code 4 = .ok (.iload_n 1, 1) := by decide +kernel
theorem d5_5 : decode prog_18_method_1_code 5 = .ok (.iconst 1, 1) := by decide +kernel
theorem d5_6 : decode prog_18_method_1_code 6 = .ok (.if_icmp .lt 8, 3) := by decide +kernel
theorem d5_9 : decode prog_18_method_1_code 9 = .ok (.iload_n 2, 1) := by decide +kernel
theorem d5_10 : decode prog_18_method_1_code 10 = .ok (.iload_n 1, 1) := by decide +kernel
theorem d5_11 : decode prog_18_method_1_code 11 = .ok (.if_icmp .ge 18, 3) := by decide +kernel
theorem d5_29 : decode prog_18_method_1_code 29 = .ok (.aload_n 0, 1) := by decide +kernel
theorem d5_30 : decode prog_18_method_1_code 30 = .ok (.iload_n 1, 1) := by decide +kernel
theorem d5_31 : decode prog_18_method_1_code 31 = .ok (.putfield 16, 3) := by decide +kernel
theorem d5_34 : decode prog_18_method_1_code 34 = .ok (.aload_n 0, 1) := by decide +kernel
theorem d5_35 : decode prog_18_method_1_code 35 = .ok (.iload_n 2, 1) := by decide +kernel
theorem d5_36 : decode prog_18_method_1_code 36 = .ok (.putfield 22, 3) := by decide +kernel
theorem d5_39 : decode prog_18_method_1_code 39 = .ok (.return_, 1) := by decide +kernel
theorem pn_5 : plainName "com/example/many_to_leader/manytoleader/bully/PoolSize" = true := by first | (simp [plainName, overriddenIn]; done) | decide +kernel
theorem ef_5 (m : MethodId) (x0 : Addr) (x1 : Int32) (x2 : Int32) : entryFrame m #[(.ref x0), (.int x1), (.int x2)] 3 = mkF m 0 #[.val (.ref x0), .val (.int x1), .val (.int x2)] [] := by first | (simp [entryFrame, mkF, argsToLocals, Value.category]; done) | rfl
def Q5 (Z : State) (a0 : Addr) (p1 : Int32) (p2 : Int32) (h0 : Heap) (n0 : Nat) (v : Option Value) (h : Heap) (L : List Loc) : Prop := v = none ∧ Fr n0 L ∧ Keep h0 h [a0] ∧ Exa Z h a0 "com/example/many_to_leader/manytoleader/bully/PoolSize"
set_option maxRecDepth 65536 in
set_option maxHeartbeats 40000000 in
theorem rm5 (l : Launch) (Z : State) (aw : Array Value) (hw : ∀ d ∈ tables_1, d.before aw Z = true) (ws : List Jvm.Cond) (a0 : Addr) (p1 : Int32) (p2 : Int32) (h0 : Heap) (n0 : Nat) (Z0 : n0 ≤ h0.size) (F_min_a0 : Fld Z h0 a0 "com/example/many_to_leader/manytoleader/bully/PoolSize" "min" "I" (.int (0 : Int32))) (F_max_a0 : Fld Z h0 a0 "com/example/many_to_leader/manytoleader/bully/PoolSize" "max" "I" (.int (0 : Int32))) (E_a0 : Exa Z h0 a0 "com/example/many_to_leader/manytoleader/bully/PoolSize") (g_a0 : n0 ≤ a0) (hp1 : ¬ (p1 < (1 : Int32))) (hp2 : ¬ (p2 < p1)) :
    MetFree l (⟨"com/example/many_to_leader/manytoleader/bully/PoolSize", "<init>", "(II)V"⟩ : MethodName) (head1 (Jvm.Cond.code (⟨"com/example/many_to_leader/manytoleader/bully/PoolSize", "<init>", "(II)V"⟩ : MethodName) prog_18_method_1_code 3 none :: ws) ({ frames := 1, cells := 0, slots := 0, locals := 12 } : Room)) (fun a U => a = #[(.ref a0), (.int p1), (.int p2)] ∧ Z.Warmed39 U.vm ∧ U.heap = h0) (fun _ _ _ _ _ => True) (fun _ U o U' => ∃ v L, o = .returned v ∧ Q5 Z a0 p1 p2 h0 n0 v U'.heap L ∧ FrameEnd U o U' L ({ frames := 1, cells := 0, slots := 0, locals := 12 } : Room).cells ({ frames := 1, cells := 0, slots := 0, locals := 12 } : Room).slots) := by
  refine MetFree.of_bodySF (plainFor_of_name pn_5) hisR ?_
  intro p e s m args below meth c s₁ Bd hml0 hP hK
  obtain ⟨rfl, hZ, hh⟩ := hP
  have hx := Bd.exec
  have hby := Bd.bytes
  have hml : c.maxLocals = 3 := hml0
  have hown : s.vm.findClass "com/example/many_to_leader/manytoleader/bully/PoolSize" = some m.cls := findClass_of_methodNamed Bd.named
  have hnm := (name_of_methodNamed Bd.named Bd.method).1
  have X0 : Stand p l e ({ frames := 1, cells := 0, slots := 0, locals := 12 } : Room) s m #[(.ref a0), (.int p1), (.int p2)] below meth c s₁ [] 0 0 := Stand.of_body Bd
  have e0 : s₁.heap = h0 := by rw [← hh, Bd.state]; rfl
  have N0 := Fr.nil n0
  refine own_back (b := s₁.setTop (mkF m 0 #[.val (.ref a0), .val (.int p1), .val (.int p2)] [])) (fun t kt => castTop (ef_5 m a0 p1 p2) kt) ?_
  obtain ⟨T1, X1, e1, st1⟩ := initO X0 hx hZ hown (hw _ (List.mem_of_getElem? (i := 38) rfl)) (hw _ (List.mem_of_getElem? (i := 11) rfl)) (hw _ (List.mem_of_getElem? (i := 12) rfl)) e0 (g := (mkF m 1 #[.val (.ref a0), .val (.int p1), .val (.int p2)] [(.ref a0)])) rfl (by rw [hml]; rfl) rfl (hb hby d5_1) (by decide) (W := 0) (by show 2 * 0 + _ ≤ _; exact Nat.le_of_eq rfl) (by decide)
  obtain ⟨T2, h2, X2, e2, W2, st2⟩ := putF X1 hx hZ hown (host := "") (Or.inl (hw _ (List.mem_of_getElem? (i := 39) rfl))) Via.refl e1 F_min_a0 E_a0 (Or.inr ⟨(hw _ (List.mem_of_getElem? (i := 40) rfl)), rfl, hnm⟩) (hw _ (List.mem_of_getElem? (i := 33) rfl)) (ty := .int) (by decide) rfl rfl (g := (mkF m 31 #[.val (.ref a0), .val (.int p1), .val (.int p2)] [(.int p1), (.ref a0)])) rfl rfl (hb hby d5_31)
  have Fw2 := F_min_a0.same W2
  have f2_0 := F_max_a0.other W2 (Or.inr (slot_ne (Or.inr (hw _ (List.mem_of_getElem? (i := 42) rfl))) (Or.inr (hw _ (List.mem_of_getElem? (i := 40) rfl))) (by decide) (t := .int) (t' := .int) (by decide) (by decide)))
  have f2_1 := E_a0.wr W2
  have K2 : Keep h0 h2 [a0] := (Keep.refl h0 _).wr W2 (Or.inl (List.mem_of_getElem? (i := 0) rfl))
  have Z2 : n0 ≤ h2.size := Nat.le_trans Z0 (Keep.of_wr W2).1
  have N2 := Fr.snoc X2 N0 g_a0
  obtain ⟨T3, h3, X3, e3, W3, st3⟩ := putF X2 hx hZ hown (host := "") (Or.inl (hw _ (List.mem_of_getElem? (i := 41) rfl))) Via.refl e2 f2_0 f2_1 (Or.inr ⟨(hw _ (List.mem_of_getElem? (i := 42) rfl)), rfl, hnm⟩) (hw _ (List.mem_of_getElem? (i := 33) rfl)) (ty := .int) (by decide) rfl rfl (g := (mkF m 36 #[.val (.ref a0), .val (.int p1), .val (.int p2)] [(.int p2), (.ref a0)])) rfl rfl (hb hby d5_36)
  have Fw3 := f2_0.same W3
  have f3_0 := f2_1.wr W3
  have f3_1 := Fw2.other W3 (Or.inr (slot_ne (Or.inr (hw _ (List.mem_of_getElem? (i := 40) rfl))) (Or.inr (hw _ (List.mem_of_getElem? (i := 42) rfl))) (by decide) (t := .int) (t' := .int) (by decide) (by decide)))
  have K3 : Keep h0 h3 [a0] := K2.wr W3 (Or.inl (List.mem_of_getElem? (i := 0) rfl))
  have Z3 : n0 ≤ h3.size := Nat.le_trans Z2 (Keep.of_wr W3).1
  have N3 := Fr.snoc X3 N2 g_a0
  refine own_back (b := T3.setTop (mkF m 39 #[.val (.ref a0), .val (.int p1), .val (.int p2)] [])) (fun t kt => ?_) ?_
  · show Steps p.tables e below (s₁.setTop (mkF m 0 #[.val (.ref a0), .val (.int p1), .val (.int p2)] [])) _
    refine XS.aloadN X0.here hx rfl (hb hby d5_0) rfl rfl ?_
    show Steps p.tables e below (s₁.setTop (mkF m 1 #[.val (.ref a0), .val (.int p1), .val (.int p2)] [(.ref a0)])) _
    refine st1 _ ?_
    refine XS.iloadN X1.here hx rfl (hb hby d5_4) rfl ?_
    refine XS.iconst X1.here hx rfl (hb hby d5_5) ?_
    refine XS.icmpNo X1.here hx rfl (hb hby d5_6) rfl (flt hp1).1 ?_
    refine XS.iloadN X1.here hx rfl (hb hby d5_9) rfl ?_
    refine XS.iloadN X1.here hx rfl (hb hby d5_10) rfl ?_
    refine XS.icmpYes X1.here hx rfl (pc0 := 11) (pc' := 29) rfl (hb hby d5_11) rfl (flt hp2).2.1 (by decide) (by decide) ?_
    show Steps p.tables e below (T1.setTop (mkF m 29 #[.val (.ref a0), .val (.int p1), .val (.int p2)] [])) _
    refine XS.aloadN X1.here hx rfl (hb hby d5_29) rfl rfl ?_
    refine XS.iloadN X1.here hx rfl (hb hby d5_30) rfl ?_
    show Steps p.tables e below (T1.setTop (mkF m 31 #[.val (.ref a0), .val (.int p1), .val (.int p2)] [(.int p1), (.ref a0)])) _
    refine st2 _ ?_
    refine XS.aloadN X2.here hx rfl (hb hby d5_34) rfl rfl ?_
    refine XS.iloadN X2.here hx rfl (hb hby d5_35) rfl ?_
    show Steps p.tables e below (T2.setTop (mkF m 36 #[.val (.ref a0), .val (.int p1), .val (.int p2)] [(.int p2), (.ref a0)])) _
    refine st3 _ ?_
    exact kt
  obtain ⟨fs, hr, hrun, hended, hW, hsame⟩ := X3.leave (v := none) (fun _ => rfl) (BodyLoose.notSynchronized Bd)
  refine ⟨_, _, ?_, hrun, hended, _, _, rfl, ?_, ⟨_, rfl⟩, hW, hsame.mono (by decide) (by decide)⟩
  · show Steps p.tables e below (T3.setTop (mkF m 39 #[.val (.ref a0), .val (.int p1), .val (.int p2)] [])) _
    exact X3.returnOut hx Bd.returns (hb hby d5_39) hr
  · show Q5 Z a0 p1 p2 h0 n0 _ T3.heap _
    rw [e3]
    exact ⟨rfl, N3, K3, f3_0⟩
theorem d8_0 : decode jdk_71_method_1_code 0 = .ok (.aload_n 0, 1) := by decide +kernel
theorem d8_1 : decode jdk_71_method_1_code 1 = .ok (.invokespecial 1, 3) := by decide +kernel
theorem d8_4 : decode jdk_71_method_1_code 4 = .ok (.return_, 1) := by decide +kernel
theorem pn_8 : plainName "java/util/AbstractMap" = true := by first | (simp [plainName, overriddenIn]; done) | decide +kernel
theorem ef_8 (m : MethodId) (x0 : Addr) : entryFrame m #[(.ref x0)] 1 = mkF m 0 #[.val (.ref x0)] [] := by first | (simp [entryFrame, mkF, argsToLocals, Value.category]; done) | rfl
def Q8 (Z : State) (a0 : Addr) (h0 : Heap) (n0 : Nat) (v : Option Value) (h : Heap) (L : List Loc) : Prop := v = none ∧ Fr n0 L ∧ h = h0
set_option maxRecDepth 65536 in
set_option maxHeartbeats 40000000 in
theorem rm8 (l : Launch) (Z : State) (aw : Array Value) (hw : ∀ d ∈ tables_1, d.before aw Z = true) (ws : List Jvm.Cond) (a0 : Addr) (h0 : Heap) (n0 : Nat) (Z0 : n0 ≤ h0.size) :
    MetFree l (⟨"java/util/AbstractMap", "<init>", "()V"⟩ : MethodName) (head1 (Jvm.Cond.code (⟨"java/util/AbstractMap", "<init>", "()V"⟩ : MethodName) jdk_71_method_1_code 1 none :: ws) ({ frames := 1, cells := 0, slots := 0, locals := 12 } : Room)) (fun a U => a = #[(.ref a0)] ∧ Z.Warmed39 U.vm ∧ U.heap = h0) (fun _ _ _ _ _ => True) (fun _ U o U' => ∃ v L, o = .returned v ∧ Q8 Z a0 h0 n0 v U'.heap L ∧ FrameEnd U o U' L ({ frames := 1, cells := 0, slots := 0, locals := 12 } : Room).cells ({ frames := 1, cells := 0, slots := 0, locals := 12 } : Room).slots) := by
  refine MetFree.of_bodySF (plainFor_of_name pn_8) hisR ?_
  intro p e s m args below meth c s₁ Bd hml0 hP hK
  obtain ⟨rfl, hZ, hh⟩ := hP
  have hx := Bd.exec
  have hby := Bd.bytes
  have hml : c.maxLocals = 1 := hml0
  have hown : s.vm.findClass "java/util/AbstractMap" = some m.cls := findClass_of_methodNamed Bd.named
  have hnm := (name_of_methodNamed Bd.named Bd.method).1
  have X0 : Stand p l e ({ frames := 1, cells := 0, slots := 0, locals := 12 } : Room) s m #[(.ref a0)] below meth c s₁ [] 0 0 := Stand.of_body Bd
  have e0 : s₁.heap = h0 := by rw [← hh, Bd.state]; rfl
  have N0 := Fr.nil n0
  refine own_back (b := s₁.setTop (mkF m 0 #[.val (.ref a0)] [])) (fun t kt => castTop (ef_8 m a0) kt) ?_
  obtain ⟨T1, X1, e1, st1⟩ := initO X0 hx hZ hown (hw _ (List.mem_of_getElem? (i := 59) rfl)) (hw _ (List.mem_of_getElem? (i := 11) rfl)) (hw _ (List.mem_of_getElem? (i := 12) rfl)) e0 (g := (mkF m 1 #[.val (.ref a0)] [(.ref a0)])) rfl (by rw [hml]; rfl) rfl (hb hby d8_1) (by decide) (W := 0) (by show 2 * 0 + _ ≤ _; exact Nat.le_of_eq rfl) (by decide)
  refine own_back (b := T1.setTop (mkF m 4 #[.val (.ref a0)] [])) (fun t kt => ?_) ?_
  · show Steps p.tables e below (s₁.setTop (mkF m 0 #[.val (.ref a0)] [])) _
    refine XS.aloadN X0.here hx rfl (hb hby d8_0) rfl rfl ?_
    show Steps p.tables e below (s₁.setTop (mkF m 1 #[.val (.ref a0)] [(.ref a0)])) _
    refine st1 _ ?_
    exact kt
  obtain ⟨fs, hr, hrun, hended, hW, hsame⟩ := X1.leave (v := none) (fun _ => rfl) (BodyLoose.notSynchronized Bd)
  refine ⟨_, _, ?_, hrun, hended, _, _, rfl, ?_, ⟨_, rfl⟩, hW, hsame.mono (by decide) (by decide)⟩
  · show Steps p.tables e below (T1.setTop (mkF m 4 #[.val (.ref a0)] [])) _
    exact X1.returnOut hx Bd.returns (hb hby d8_4) hr
  · show Q8 Z a0 h0 n0 _ T1.heap _
    rw [e1]
    exact ⟨rfl, N0, rfl⟩
theorem d7_0 : decode jdk_2729_method_1_code 0 = .ok (.aload_n 0, 1) := by decide +kernel
theorem d7_1 : decode jdk_2729_method_1_code 1 = .ok (.invokespecial 1, 3) := by decide +kernel
theorem d7_4 : decode jdk_2729_method_1_code 4 = .ok (.aload_n 0, 1) := by decide +kernel
theorem d7_5 : decode jdk_2729_method_1_code 5 = .ok (.iconst 0, 1) := by decide +kernel
theorem d7_6 : decode jdk_2729_method_1_code 6 = .ok (.putfield 7, 3) := by decide +kernel
theorem d7_9 : decode jdk_2729_method_1_code 9 = .ok (.aload_n 0, 1) := by decide +kernel
theorem d7_10 : decode jdk_2729_method_1_code 10 = .ok (.iconst 0, 1) := by decide +kernel
theorem d7_11 : decode jdk_2729_method_1_code 11 = .ok (.putfield 13, 3) := by decide +kernel
theorem d7_14 : decode jdk_2729_method_1_code 14 = .ok (.aload_n 0, 1) := by decide +kernel
theorem d7_15 : decode jdk_2729_method_1_code 15 = .ok (.aconst_null, 1) := by decide +kernel
theorem d7_16 : decode jdk_2729_method_1_code 16 = .ok (.putfield 16, 3) := by decide +kernel
theorem d7_19 : decode jdk_2729_method_1_code 19 = .ok (.return_, 1) := by decide +kernel
theorem pn_7 : plainName "java/util/TreeMap" = true := by first | (simp [plainName, overriddenIn]; done) | decide +kernel
theorem pd_7_0 : parseMethodDescriptor "()V" = some ⟨[], none⟩ := by decide +kernel
theorem ef_7 (m : MethodId) (x0 : Addr) : entryFrame m #[(.ref x0)] 1 = mkF m 0 #[.val (.ref x0)] [] := by first | (simp [entryFrame, mkF, argsToLocals, Value.category]; done) | rfl
def Q7 (Z : State) (a0 : Addr) (h0 : Heap) (n0 : Nat) (v : Option Value) (h : Heap) (L : List Loc) : Prop := v = none ∧ Fr n0 L ∧ Keep h0 h [a0] ∧ Exa Z h a0 "java/util/TreeMap"
set_option maxRecDepth 65536 in
set_option maxHeartbeats 40000000 in
theorem rm7 (l : Launch) (Z : State) (aw : Array Value) (hw : ∀ d ∈ tables_1, d.before aw Z = true) (ws : List Jvm.Cond) (a0 : Addr) (h0 : Heap) (n0 : Nat) (Z0 : n0 ≤ h0.size) (F_size_a0 : Fld Z h0 a0 "java/util/TreeMap" "size" "I" (.int (0 : Int32))) (F_modCount_a0 : Fld Z h0 a0 "java/util/TreeMap" "modCount" "I" (.int (0 : Int32))) (F_comparator_a0 : Fld Z h0 a0 "java/util/TreeMap" "comparator" "Ljava/util/Comparator;" .null) (E_a0 : Exa Z h0 a0 "java/util/TreeMap") (g_a0 : n0 ≤ a0) :
    MetFree l (⟨"java/util/TreeMap", "<init>", "()V"⟩ : MethodName) (head1 (Jvm.Cond.code (⟨"java/util/TreeMap", "<init>", "()V"⟩ : MethodName) jdk_2729_method_1_code 1 none :: ws) ({ frames := 2, cells := 0, slots := 0, locals := 24 } : Room)) (fun a U => a = #[(.ref a0)] ∧ Z.Warmed39 U.vm ∧ U.heap = h0) (fun _ _ _ _ _ => True) (fun _ U o U' => ∃ v L, o = .returned v ∧ Q7 Z a0 h0 n0 v U'.heap L ∧ FrameEnd U o U' L ({ frames := 2, cells := 0, slots := 0, locals := 24 } : Room).cells ({ frames := 2, cells := 0, slots := 0, locals := 24 } : Room).slots) := by
  refine MetFree.of_bodySF (plainFor_of_name pn_7) hisR ?_
  intro p e s m args below meth c s₁ Bd hml0 hP hK
  obtain ⟨rfl, hZ, hh⟩ := hP
  have hx := Bd.exec
  have hby := Bd.bytes
  have hml : c.maxLocals = 1 := hml0
  have hown : s.vm.findClass "java/util/TreeMap" = some m.cls := findClass_of_methodNamed Bd.named
  have hnm := (name_of_methodNamed Bd.named Bd.method).1
  have X0 : Stand p l e ({ frames := 2, cells := 0, slots := 0, locals := 24 } : Room) s m #[(.ref a0)] below meth c s₁ [] 0 0 := Stand.of_body Bd
  have e0 : s₁.heap = h0 := by rw [← hh, Bd.state]; rfl
  have N0 := Fr.nil n0
  refine own_back (b := s₁.setTop (mkF m 0 #[.val (.ref a0)] [])) (fun t kt => castTop (ef_7 m a0) kt) ?_
  obtain ⟨_, _, ⟨T1, L1, k1, n1⟩, -, X1, ⟨Lc1, hQ1, l1, y1, z1⟩, st1⟩ := X0.specialBack hx (y := (⟨"java/util/AbstractMap", "<init>", "()V"⟩ : MethodName)) rfl hown (mvT hZ (hw _ (List.mem_of_getElem? (i := 53) rfl))) (mvT hZ (hw _ (List.mem_of_getElem? (i := 54) rfl))) (mvT hZ (hw _ (List.mem_of_getElem? (i := 58) rfl))) (by decide) (backOf (W := 0) (rm8 l Z aw hw [] a0 h0 n0 Z0 ) hZ (hw _ (List.mem_of_getElem? (i := 58) rfl)) (hw _ (List.mem_of_getElem? (i := 57) rfl)) (by decide) (by decide)) (g := (mkF m 1 #[.val (.ref a0)] [(.ref a0)])) rfl (by rw [hml]; rfl) (Steps.refl _) (a := a0) (argsL := []) (rest := []) (lenOf pd_7_0 rfl) rfl (by show 2 * 0 + _ ≤ _; exact Nat.le_of_eq rfl) (hb hby d7_1) (fun _ _ => ⟨rfl, e0, (by decide : 0 + 0 ≤ _), (by decide : 0 + 0 ≤ _)⟩)
  dsimp only [Pt.U, Pt.locs, Pt.cells, Pt.slots] at X1 l1 y1 z1 st1 hQ1
  rw [l1, y1, z1] at X1
  obtain ⟨rfl, Nq1, e1⟩ := hQ1
  have N1 := Fr.app N0 Nq1
  obtain ⟨T2, h2, X2, e2, W2, st2⟩ := putF X1 hx hZ hown (host := "") (Or.inl (hw _ (List.mem_of_getElem? (i := 60) rfl))) Via.refl e1 F_size_a0 E_a0 (Or.inl (hw _ (List.mem_of_getElem? (i := 61) rfl))) (hw _ (List.mem_of_getElem? (i := 48) rfl)) (ty := .int) (by decide) rfl rfl (g := (mkF m 6 #[.val (.ref a0)] [(.int (0 : Int32)), (.ref a0)])) rfl rfl (hb hby d7_6)
  have Fw2 := F_size_a0.same W2
  have f2_0 := F_modCount_a0.other W2 (Or.inr (slot_ne (Or.inl (hw _ (List.mem_of_getElem? (i := 63) rfl))) (Or.inl (hw _ (List.mem_of_getElem? (i := 61) rfl))) (by decide) (t := .int) (t' := .int) (by decide) (by decide)))
  have f2_1 := F_comparator_a0.other W2 (Or.inr (slot_ne (Or.inr (hw _ (List.mem_of_getElem? (i := 65) rfl))) (Or.inl (hw _ (List.mem_of_getElem? (i := 61) rfl))) (by decide) (t := (.object "java/util/Comparator")) (t' := .int) (by decide) (by decide)))
  have f2_2 := E_a0.wr W2
  have K2 : Keep h0 h2 [a0] := (Keep.refl h0 _).wr W2 (Or.inl (List.mem_of_getElem? (i := 0) rfl))
  have Z2 : n0 ≤ h2.size := Nat.le_trans Z0 (Keep.of_wr W2).1
  have N2 := Fr.snoc X2 N1 g_a0
  obtain ⟨T3, h3, X3, e3, W3, st3⟩ := putF X2 hx hZ hown (host := "") (Or.inl (hw _ (List.mem_of_getElem? (i := 62) rfl))) Via.refl e2 f2_0 f2_2 (Or.inl (hw _ (List.mem_of_getElem? (i := 63) rfl))) (hw _ (List.mem_of_getElem? (i := 48) rfl)) (ty := .int) (by decide) rfl rfl (g := (mkF m 11 #[.val (.ref a0)] [(.int (0 : Int32)), (.ref a0)])) rfl rfl (hb hby d7_11)
  have Fw3 := f2_0.same W3
  have f3_0 := f2_1.other W3 (Or.inr (slot_ne (Or.inr (hw _ (List.mem_of_getElem? (i := 65) rfl))) (Or.inl (hw _ (List.mem_of_getElem? (i := 63) rfl))) (by decide) (t := (.object "java/util/Comparator")) (t' := .int) (by decide) (by decide)))
  have f3_1 := f2_2.wr W3
  have f3_2 := Fw2.other W3 (Or.inr (slot_ne (Or.inl (hw _ (List.mem_of_getElem? (i := 61) rfl))) (Or.inl (hw _ (List.mem_of_getElem? (i := 63) rfl))) (by decide) (t := .int) (t' := .int) (by decide) (by decide)))
  have K3 : Keep h0 h3 [a0] := K2.wr W3 (Or.inl (List.mem_of_getElem? (i := 0) rfl))
  have Z3 : n0 ≤ h3.size := Nat.le_trans Z2 (Keep.of_wr W3).1
  have N3 := Fr.snoc X3 N2 g_a0
  obtain ⟨T4, h4, X4, e4, W4, st4⟩ := putF X3 hx hZ hown (host := "") (Or.inl (hw _ (List.mem_of_getElem? (i := 64) rfl))) Via.refl e3 f3_0 f3_1 (Or.inr ⟨(hw _ (List.mem_of_getElem? (i := 65) rfl)), rfl, hnm⟩) (hw _ (List.mem_of_getElem? (i := 48) rfl)) (ty := (.object "java/util/Comparator")) (by decide) rfl rfl (g := (mkF m 16 #[.val (.ref a0)] [.null, (.ref a0)])) rfl rfl (hb hby d7_16)
  have Fw4 := f3_0.same W4
  have f4_0 := f3_1.wr W4
  have f4_1 := f3_2.other W4 (Or.inr (slot_ne (Or.inl (hw _ (List.mem_of_getElem? (i := 61) rfl))) (Or.inr (hw _ (List.mem_of_getElem? (i := 65) rfl))) (by decide) (t := .int) (t' := (.object "java/util/Comparator")) (by decide) (by decide)))
  have f4_2 := Fw3.other W4 (Or.inr (slot_ne (Or.inl (hw _ (List.mem_of_getElem? (i := 63) rfl))) (Or.inr (hw _ (List.mem_of_getElem? (i := 65) rfl))) (by decide) (t := .int) (t' := (.object "java/util/Comparator")) (by decide) (by decide)))
  have K4 : Keep h0 h4 [a0] := K3.wr W4 (Or.inl (List.mem_of_getElem? (i := 0) rfl))
  have Z4 : n0 ≤ h4.size := Nat.le_trans Z3 (Keep.of_wr W4).1
  have N4 := Fr.snoc X4 N3 g_a0
  refine own_back (b := T4.setTop (mkF m 19 #[.val (.ref a0)] [])) (fun t kt => ?_) ?_
  · show Steps p.tables e below (s₁.setTop (mkF m 0 #[.val (.ref a0)] [])) _
    refine XS.aloadN X0.here hx rfl (hb hby d7_0) rfl rfl ?_
    show Steps p.tables e below (s₁.setTop (mkF m 1 #[.val (.ref a0)] [(.ref a0)])) _
    refine st1.trans ?_
    refine XS.aloadN X1.here hx rfl (hb hby d7_4) rfl rfl ?_
    refine XS.iconst X1.here hx rfl (hb hby d7_5) ?_
    show Steps p.tables e below (T1.setTop (mkF m 6 #[.val (.ref a0)] [(.int (0 : Int32)), (.ref a0)])) _
    refine st2 _ ?_
    refine XS.aloadN X2.here hx rfl (hb hby d7_9) rfl rfl ?_
    refine XS.iconst X2.here hx rfl (hb hby d7_10) ?_
    show Steps p.tables e below (T2.setTop (mkF m 11 #[.val (.ref a0)] [(.int (0 : Int32)), (.ref a0)])) _
    refine st3 _ ?_
    refine XS.aloadN X3.here hx rfl (hb hby d7_14) rfl rfl ?_
    refine XS.aconstNull X3.here hx rfl (hb hby d7_15) ?_
    show Steps p.tables e below (T3.setTop (mkF m 16 #[.val (.ref a0)] [.null, (.ref a0)])) _
    refine st4 _ ?_
    exact kt
  obtain ⟨fs, hr, hrun, hended, hW, hsame⟩ := X4.leave (v := none) (fun _ => rfl) (BodyLoose.notSynchronized Bd)
  refine ⟨_, _, ?_, hrun, hended, _, _, rfl, ?_, ⟨_, rfl⟩, hW, hsame.mono (by decide) (by decide)⟩
  · show Steps p.tables e below (T4.setTop (mkF m 19 #[.val (.ref a0)] [])) _
    exact X4.returnOut hx Bd.returns (hb hby d7_19) hr
  · show Q7 Z a0 h0 n0 _ T4.heap _
    rw [e4]
    exact ⟨rfl, N4, K4, f4_0⟩
theorem d9_0 : decode prog_19_method_8_code 0 = .ok (.aload_n 0, 1) := by decide +kernel
theorem d9_1 : decode prog_19_method_8_code 1 = .ok (.getfield 28, 3) := by decide +kernel
theorem d9_4 : decode prog_19_method_8_code 4 = .ok (.lreturn, 1) := by decide +kernel
theorem pn_9 : plainName "com/example/many_to_leader/manytoleader/bully/Timeouts" = true := by first | (simp [plainName, overriddenIn]; done) | decide +kernel
theorem ef_9 (m : MethodId) (x0 : Addr) : entryFrame m #[(.ref x0)] 1 = mkF m 0 #[.val (.ref x0)] [] := by first | (simp [entryFrame, mkF, argsToLocals, Value.category]; done) | rfl
def Q9 (Z : State) (a0 : Addr) (w : Int64) (h0 : Heap) (n0 : Nat) (v : Option Value) (h : Heap) (L : List Loc) : Prop := v = some (.long w) ∧ Fr n0 L ∧ h = h0
set_option maxRecDepth 65536 in
set_option maxHeartbeats 40000000 in
theorem rm9 (l : Launch) (Z : State) (aw : Array Value) (hw : ∀ d ∈ tables_1, d.before aw Z = true) (ws : List Jvm.Cond) (a0 : Addr) (w : Int64) (h0 : Heap) (n0 : Nat) (Z0 : n0 ≤ h0.size) (F_heartbeatIntervalMillis_a0 : Fld Z h0 a0 "com/example/many_to_leader/manytoleader/bully/Timeouts" "heartbeatIntervalMillis" "J" (.long w)) :
    MetFree l (⟨"com/example/many_to_leader/manytoleader/bully/Timeouts", "heartbeatIntervalMillis", "()J"⟩ : MethodName) (head1 (Jvm.Cond.code (⟨"com/example/many_to_leader/manytoleader/bully/Timeouts", "heartbeatIntervalMillis", "()J"⟩ : MethodName) prog_19_method_8_code 1 (some .long) :: ws) ({ frames := 0, cells := 0, slots := 0, locals := 0 } : Room)) (fun a U => a = #[(.ref a0)] ∧ Z.Warmed39 U.vm ∧ U.heap = h0) (fun _ _ _ _ _ => True) (fun _ U o U' => ∃ v L, o = .returned v ∧ Q9 Z a0 w h0 n0 v U'.heap L ∧ FrameEnd U o U' L ({ frames := 0, cells := 0, slots := 0, locals := 0 } : Room).cells ({ frames := 0, cells := 0, slots := 0, locals := 0 } : Room).slots) := by
  refine MetFree.of_bodySF (plainFor_of_name pn_9) hisR ?_
  intro p e s m args below meth c s₁ Bd hml0 hP hK
  obtain ⟨rfl, hZ, hh⟩ := hP
  have hx := Bd.exec
  have hby := Bd.bytes
  have hml : c.maxLocals = 1 := hml0
  have hown : s.vm.findClass "com/example/many_to_leader/manytoleader/bully/Timeouts" = some m.cls := findClass_of_methodNamed Bd.named
  have hnm := (name_of_methodNamed Bd.named Bd.method).1
  have X0 : Stand p l e ({ frames := 0, cells := 0, slots := 0, locals := 0 } : Room) s m #[(.ref a0)] below meth c s₁ [] 0 0 := Stand.of_body Bd
  have e0 : s₁.heap = h0 := by rw [← hh, Bd.state]; rfl
  have N0 := Fr.nil n0
  refine own_back (b := s₁.setTop (mkF m 0 #[.val (.ref a0)] [])) (fun t kt => castTop (ef_9 m a0) kt) ?_
  obtain ⟨T1, X1, e1, st1⟩ := getF X0 hx hZ hown (host := "") (Or.inl (hw _ (List.mem_of_getElem? (i := 17) rfl))) Via.refl e0 F_heartbeatIntervalMillis_a0 (g := (mkF m 1 #[.val (.ref a0)] [(.ref a0)])) rfl rfl (hb hby d9_1)
  refine own_back (b := T1.setTop (mkF m 4 #[.val (.ref a0)] [(.long w)])) (fun t kt => ?_) ?_
  · show Steps p.tables e below (s₁.setTop (mkF m 0 #[.val (.ref a0)] [])) _
    refine XS.aloadN X0.here hx rfl (hb hby d9_0) rfl rfl ?_
    show Steps p.tables e below (s₁.setTop (mkF m 1 #[.val (.ref a0)] [(.ref a0)])) _
    refine st1 _ ?_
    exact kt
  obtain ⟨fs, hr, hrun, hended, hW, hsame⟩ := X1.leave (v := some (.long w)) (fun h => by rw [Bd.returns] at h; cases h) (BodyLoose.notSynchronized Bd)
  refine ⟨_, _, ?_, hrun, hended, _, _, rfl, ?_, ⟨_, rfl⟩, hW, hsame.mono (by decide) (by decide)⟩
  · show Steps p.tables e below (T1.setTop (mkF m 4 #[.val (.ref a0)] [(.long w)])) _
    exact own_retL X1 hx Bd.returns (hb hby d9_4) hr
  · show Q9 Z a0 w h0 n0 _ T1.heap _
    rw [e1]
    exact ⟨rfl, N0, rfl⟩
theorem d10_0 : decode prog_19_method_9_code 0 = .ok (.aload_n 0, 1) := by decide +kernel
theorem d10_1 : decode prog_19_method_9_code 1 = .ok (.getfield 31, 3) := by decide +kernel
theorem d10_4 : decode prog_19_method_9_code 4 = .ok (.lreturn, 1) := by decide +kernel
theorem pn_10 : plainName "com/example/many_to_leader/manytoleader/bully/Timeouts" = true := by first | (simp [plainName, overriddenIn]; done) | decide +kernel
theorem ef_10 (m : MethodId) (x0 : Addr) : entryFrame m #[(.ref x0)] 1 = mkF m 0 #[.val (.ref x0)] [] := by first | (simp [entryFrame, mkF, argsToLocals, Value.category]; done) | rfl
def Q10 (Z : State) (a0 : Addr) (w : Int64) (h0 : Heap) (n0 : Nat) (v : Option Value) (h : Heap) (L : List Loc) : Prop := v = some (.long w) ∧ Fr n0 L ∧ h = h0
set_option maxRecDepth 65536 in
set_option maxHeartbeats 40000000 in
theorem rm10 (l : Launch) (Z : State) (aw : Array Value) (hw : ∀ d ∈ tables_1, d.before aw Z = true) (ws : List Jvm.Cond) (a0 : Addr) (w : Int64) (h0 : Heap) (n0 : Nat) (Z0 : n0 ≤ h0.size) (F_heartbeatTimeoutMillis_a0 : Fld Z h0 a0 "com/example/many_to_leader/manytoleader/bully/Timeouts" "heartbeatTimeoutMillis" "J" (.long w)) :
    MetFree l (⟨"com/example/many_to_leader/manytoleader/bully/Timeouts", "heartbeatTimeoutMillis", "()J"⟩ : MethodName) (head1 (Jvm.Cond.code (⟨"com/example/many_to_leader/manytoleader/bully/Timeouts", "heartbeatTimeoutMillis", "()J"⟩ : MethodName) prog_19_method_9_code 1 (some .long) :: ws) ({ frames := 0, cells := 0, slots := 0, locals := 0 } : Room)) (fun a U => a = #[(.ref a0)] ∧ Z.Warmed39 U.vm ∧ U.heap = h0) (fun _ _ _ _ _ => True) (fun _ U o U' => ∃ v L, o = .returned v ∧ Q10 Z a0 w h0 n0 v U'.heap L ∧ FrameEnd U o U' L ({ frames := 0, cells := 0, slots := 0, locals := 0 } : Room).cells ({ frames := 0, cells := 0, slots := 0, locals := 0 } : Room).slots) := by
  refine MetFree.of_bodySF (plainFor_of_name pn_10) hisR ?_
  intro p e s m args below meth c s₁ Bd hml0 hP hK
  obtain ⟨rfl, hZ, hh⟩ := hP
  have hx := Bd.exec
  have hby := Bd.bytes
  have hml : c.maxLocals = 1 := hml0
  have hown : s.vm.findClass "com/example/many_to_leader/manytoleader/bully/Timeouts" = some m.cls := findClass_of_methodNamed Bd.named
  have hnm := (name_of_methodNamed Bd.named Bd.method).1
  have X0 : Stand p l e ({ frames := 0, cells := 0, slots := 0, locals := 0 } : Room) s m #[(.ref a0)] below meth c s₁ [] 0 0 := Stand.of_body Bd
  have e0 : s₁.heap = h0 := by rw [← hh, Bd.state]; rfl
  have N0 := Fr.nil n0
  refine own_back (b := s₁.setTop (mkF m 0 #[.val (.ref a0)] [])) (fun t kt => castTop (ef_10 m a0) kt) ?_
  obtain ⟨T1, X1, e1, st1⟩ := getF X0 hx hZ hown (host := "") (Or.inl (hw _ (List.mem_of_getElem? (i := 19) rfl))) Via.refl e0 F_heartbeatTimeoutMillis_a0 (g := (mkF m 1 #[.val (.ref a0)] [(.ref a0)])) rfl rfl (hb hby d10_1)
  refine own_back (b := T1.setTop (mkF m 4 #[.val (.ref a0)] [(.long w)])) (fun t kt => ?_) ?_
  · show Steps p.tables e below (s₁.setTop (mkF m 0 #[.val (.ref a0)] [])) _
    refine XS.aloadN X0.here hx rfl (hb hby d10_0) rfl rfl ?_
    show Steps p.tables e below (s₁.setTop (mkF m 1 #[.val (.ref a0)] [(.ref a0)])) _
    refine st1 _ ?_
    exact kt
  obtain ⟨fs, hr, hrun, hended, hW, hsame⟩ := X1.leave (v := some (.long w)) (fun h => by rw [Bd.returns] at h; cases h) (BodyLoose.notSynchronized Bd)
  refine ⟨_, _, ?_, hrun, hended, _, _, rfl, ?_, ⟨_, rfl⟩, hW, hsame.mono (by decide) (by decide)⟩
  · show Steps p.tables e below (T1.setTop (mkF m 4 #[.val (.ref a0)] [(.long w)])) _
    exact own_retL X1 hx Bd.returns (hb hby d10_4) hr
  · show Q10 Z a0 w h0 n0 _ T1.heap _
    rw [e1]
    exact ⟨rfl, N0, rfl⟩
theorem d6_0 : decode prog_12_method_1_code 0 = .ok (.aload_n 0, 1) := by decide +kernel
theorem d6_1 : decode prog_12_method_1_code 1 = .ok (.invokespecial 3, 3) := by decide +kernel
theorem d6_4 : decode prog_12_method_1_code 4 = .ok (.aload_n 0, 1) := by decide +kernel
theorem d6_5 : decode prog_12_method_1_code 5 = .ok (.new 9, 3) := by decide +kernel
theorem d6_8 : decode prog_12_method_1_code 8 = .ok (.dup, 1) := by decide +kernel
theorem d6_9 : decode prog_12_method_1_code 9 = .ok (.invokespecial 11, 3) := by decide +kernel
theorem d6_12 : decode prog_12_method_1_code 12 = .ok (.putfield 12, 3) := by decide +kernel
theorem d6_15 : decode prog_12_method_1_code 15 = .ok (.aload_n 0, 1) := by decide +kernel
theorem d6_16 : decode prog_12_method_1_code 16 = .ok (.ldc2_w 18, 3) := by decide +kernel
theorem d6_19 : decode prog_12_method_1_code 19 = .ok (.putfield 20, 3) := by decide +kernel
theorem d6_22 : decode prog_12_method_1_code 22 = .ok (.aload_n 0, 1) := by decide +kernel
theorem d6_23 : decode prog_12_method_1_code 23 = .ok (.ldc2_w 18, 3) := by decide +kernel
theorem d6_26 : decode prog_12_method_1_code 26 = .ok (.putfield 24, 3) := by decide +kernel
theorem d6_29 : decode prog_12_method_1_code 29 = .ok (.aload_n 0, 1) := by decide +kernel
theorem d6_30 : decode prog_12_method_1_code 30 = .ok (.ldc2_w 18, 3) := by decide +kernel
theorem d6_33 : decode prog_12_method_1_code 33 = .ok (.putfield 27, 3) := by decide +kernel
theorem d6_36 : decode prog_12_method_1_code 36 = .ok (.aload_n 0, 1) := by decide +kernel
theorem d6_37 : decode prog_12_method_1_code 37 = .ok (.iload_n 1, 1) := by decide +kernel
theorem d6_38 : decode prog_12_method_1_code 38 = .ok (.putfield 30, 3) := by decide +kernel
theorem d6_41 : decode prog_12_method_1_code 41 = .ok (.aload_n 0, 1) := by decide +kernel
theorem d6_42 : decode prog_12_method_1_code 42 = .ok (.iload_n 2, 1) := by decide +kernel
theorem d6_43 : decode prog_12_method_1_code 43 = .ok (.putfield 34, 3) := by decide +kernel
theorem d6_46 : decode prog_12_method_1_code 46 = .ok (.aload_n 0, 1) := by decide +kernel
theorem d6_47 : decode prog_12_method_1_code 47 = .ok (.aload_n 3, 1) := by decide +kernel
theorem d6_48 : decode prog_12_method_1_code 48 = .ok (.putfield 37, 3) := by decide +kernel
theorem d6_51 : decode prog_12_method_1_code 51 = .ok (.aload_n 0, 1) := by decide +kernel
theorem d6_52 : decode prog_12_method_1_code 52 = .ok (.aload 4, 2) := by decide +kernel
theorem d6_54 : decode prog_12_method_1_code 54 = .ok (.invokevirtual 41, 3) := by decide +kernel
theorem d6_57 : decode prog_12_method_1_code 57 = .ok (.putfield 47, 3) := by decide +kernel
theorem d6_60 : decode prog_12_method_1_code 60 = .ok (.aload_n 0, 1) := by decide +kernel
theorem d6_61 : decode prog_12_method_1_code 61 = .ok (.aload 4, 2) := by decide +kernel
theorem d6_63 : decode prog_12_method_1_code 63 = .ok (.invokevirtual 50, 3) := by decide +kernel
theorem d6_66 : decode prog_12_method_1_code 66 = .ok (.putfield 53, 3) := by decide +kernel
theorem d6_69 : decode prog_12_method_1_code 69 = .ok (.return_, 1) := by decide +kernel
theorem pn_6 : plainName "com/example/many_to_leader/manytoleader/bully/CandidatePool" = true := by first | (simp [plainName, overriddenIn]; done) | decide +kernel
theorem pd_6_0 : parseMethodDescriptor "()V" = some ⟨[], none⟩ := by decide +kernel
theorem pd_6_1 : parseMethodDescriptor "()J" = some ⟨[], some .long⟩ := by decide +kernel
theorem ef_6 (m : MethodId) (x0 : Addr) (x1 : Int32) (x2 : Int32) (x3 : Addr) (x4 : Addr) : entryFrame m #[(.ref x0), (.int x1), (.int x2), (.ref x3), (.ref x4)] 5 = mkF m 0 #[.val (.ref x0), .val (.int x1), .val (.int x2), .val (.ref x3), .val (.ref x4)] [] := by first | (simp [entryFrame, mkF, argsToLocals, Value.category]; done) | rfl
def Q6 (Z : State) (a0 : Addr) (p1 : Int32) (p2 : Int32) (a3 : Addr) (a4 : Addr) (wI : Int64) (wT : Int64) (h0 : Heap) (n0 : Nat) (v : Option Value) (h : Heap) (L : List Loc) : Prop := v = none ∧ Fr n0 L ∧ Keep h0 h [a0] ∧ Exa Z h a0 "com/example/many_to_leader/manytoleader/bully/CandidatePool" ∧ Fld Z h a0 "com/example/many_to_leader/manytoleader/bully/CandidatePool" "heartbeatDeadline" "J" (.long (9223372036854775807 : Int64)) ∧ Fld Z h a0 "com/example/many_to_leader/manytoleader/bully/CandidatePool" "checkDeadline" "J" (.long (9223372036854775807 : Int64)) ∧ Fld Z h a0 "com/example/many_to_leader/manytoleader/bully/CandidatePool" "id" "I" (.int p1) ∧ Fld Z h a0 "com/example/many_to_leader/manytoleader/bully/CandidatePool" "intervalMillis" "J" (.long wI) ∧ Fld Z h a0 "com/example/many_to_leader/manytoleader/bully/CandidatePool" "candidate" "Z" (.int (0 : Int32))
set_option maxRecDepth 65536 in
set_option maxHeartbeats 40000000 in
theorem rm6 (l : Launch) (Z : State) (aw : Array Value) (hw : ∀ d ∈ tables_1, d.before aw Z = true) (ws : List Jvm.Cond) (a0 : Addr) (p1 : Int32) (p2 : Int32) (a3 : Addr) (a4 : Addr) (wI : Int64) (wT : Int64) (h0 : Heap) (n0 : Nat) (Z0 : n0 ≤ h0.size) (F_known_a0 : Fld Z h0 a0 "com/example/many_to_leader/manytoleader/bully/CandidatePool" "known" "Ljava/util/TreeMap;" .null) (F_heartbeatDeadline_a0 : Fld Z h0 a0 "com/example/many_to_leader/manytoleader/bully/CandidatePool" "heartbeatDeadline" "J" (.long (0 : Int64))) (F_outOfBoundsSince_a0 : Fld Z h0 a0 "com/example/many_to_leader/manytoleader/bully/CandidatePool" "outOfBoundsSince" "J" (.long (0 : Int64))) (F_checkDeadline_a0 : Fld Z h0 a0 "com/example/many_to_leader/manytoleader/bully/CandidatePool" "checkDeadline" "J" (.long (0 : Int64))) (F_id_a0 : Fld Z h0 a0 "com/example/many_to_leader/manytoleader/bully/CandidatePool" "id" "I" (.int (0 : Int32))) (F_membersAbove_a0 : Fld Z h0 a0 "com/example/many_to_leader/manytoleader/bully/CandidatePool" "membersAbove" "I" (.int (0 : Int32))) (F_size_a0 : Fld Z h0 a0 "com/example/many_to_leader/manytoleader/bully/CandidatePool" "size" "Lcom/example/many_to_leader/manytoleader/bully/PoolSize;" .null) (F_intervalMillis_a0 : Fld Z h0 a0 "com/example/many_to_leader/manytoleader/bully/CandidatePool" "intervalMillis" "J" (.long (0 : Int64))) (F_timeoutMillis_a0 : Fld Z h0 a0 "com/example/many_to_leader/manytoleader/bully/CandidatePool" "timeoutMillis" "J" (.long (0 : Int64))) (F_candidate_a0 : Fld Z h0 a0 "com/example/many_to_leader/manytoleader/bully/CandidatePool" "candidate" "Z" (.int (0 : Int32))) (E_a0 : Exa Z h0 a0 "com/example/many_to_leader/manytoleader/bully/CandidatePool") (g_a0 : n0 ≤ a0) (E_a4 : Exa Z h0 a4 "com/example/many_to_leader/manytoleader/bully/Timeouts") (F_heartbeatIntervalMillis_a4 : Fld Z h0 a4 "com/example/many_to_leader/manytoleader/bully/Timeouts" "heartbeatIntervalMillis" "J" (.long wI)) (F_heartbeatTimeoutMillis_a4 : Fld Z h0 a4 "com/example/many_to_leader/manytoleader/bully/Timeouts" "heartbeatTimeoutMillis" "J" (.long wT)) :
    MetFree l (⟨"com/example/many_to_leader/manytoleader/bully/CandidatePool", "<init>", "(IILcom/example/many_to_leader/manytoleader/bully/PoolSize;Lcom/example/many_to_leader/manytoleader/bully/Timeouts;)V"⟩ : MethodName) (head1 (Jvm.Cond.code (⟨"com/example/many_to_leader/manytoleader/bully/CandidatePool", "<init>", "(IILcom/example/many_to_leader/manytoleader/bully/PoolSize;Lcom/example/many_to_leader/manytoleader/bully/Timeouts;)V"⟩ : MethodName) prog_12_method_1_code 5 none :: ws) ({ frames := 3, cells := 1, slots := 9, locals := 38 } : Room)) (fun a U => a = #[(.ref a0), (.int p1), (.int p2), (.ref a3), (.ref a4)] ∧ Z.Warmed39 U.vm ∧ U.heap = h0) (fun _ _ _ _ _ => True) (fun _ U o U' => ∃ v L, o = .returned v ∧ Q6 Z a0 p1 p2 a3 a4 wI wT h0 n0 v U'.heap L ∧ FrameEnd U o U' L ({ frames := 3, cells := 1, slots := 9, locals := 38 } : Room).cells ({ frames := 3, cells := 1, slots := 9, locals := 38 } : Room).slots) := by
  refine MetFree.of_bodySF (plainFor_of_name pn_6) hisR ?_
  intro p e s m args below meth c s₁ Bd hml0 hP hK
  obtain ⟨rfl, hZ, hh⟩ := hP
  have hx := Bd.exec
  have hby := Bd.bytes
  have hml : c.maxLocals = 5 := hml0
  have hown : s.vm.findClass "com/example/many_to_leader/manytoleader/bully/CandidatePool" = some m.cls := findClass_of_methodNamed Bd.named
  have hnm := (name_of_methodNamed Bd.named Bd.method).1
  have X0 : Stand p l e ({ frames := 3, cells := 1, slots := 9, locals := 38 } : Room) s m #[(.ref a0), (.int p1), (.int p2), (.ref a3), (.ref a4)] below meth c s₁ [] 0 0 := Stand.of_body Bd
  have e0 : s₁.heap = h0 := by rw [← hh, Bd.state]; rfl
  have N0 := Fr.nil n0
  refine own_back (b := s₁.setTop (mkF m 0 #[.val (.ref a0), .val (.int p1), .val (.int p2), .val (.ref a3), .val (.ref a4)] [])) (fun t kt => castTop (ef_6 m a0 p1 p2 a3 a4) kt) ?_
  obtain ⟨T1, X1, e1, st1⟩ := initO X0 hx hZ hown (hw _ (List.mem_of_getElem? (i := 46) rfl)) (hw _ (List.mem_of_getElem? (i := 11) rfl)) (hw _ (List.mem_of_getElem? (i := 12) rfl)) e0 (g := (mkF m 1 #[.val (.ref a0), .val (.int p1), .val (.int p2), .val (.ref a3), .val (.ref a4)] [(.ref a0)])) rfl (by rw [hml]; rfl) rfl (hb hby d6_1) (by decide) (W := 0) (by show 2 * 0 + _ ≤ _; exact Nat.le_of_eq rfl) (by decide)
  obtain ⟨T2, h2, X2, e2, E2, A2, D2, -, st2⟩ := newO X1 hx hZ hown (hw _ (List.mem_of_getElem? (i := 47) rfl)) (hw _ (List.mem_of_getElem? (i := 48) rfl)) (hw _ (List.mem_of_getElem? (i := 49) rfl)) e1 (g := (mkF m 5 #[.val (.ref a0), .val (.int p1), .val (.int p2), .val (.ref a3), .val (.ref a4)] [(.ref a0)])) rfl (hb hby d6_5) (by decide) (by decide)
  obtain ⟨b2, g2⟩ : ∃ z, z = h0.size := ⟨_, rfl⟩
  rw [← g2] at A2 D2 st2
  have ne2_a0 : a0 ≠ b2 := Nat.ne_of_lt (Nat.lt_of_lt_of_le F_known_a0.lt (Nat.le_of_eq g2.symm))
  have ne2_a4 : a4 ≠ b2 := Nat.ne_of_lt (Nat.lt_of_lt_of_le E_a4.lt (Nat.le_of_eq g2.symm))
  have lo2 : n0 ≤ b2 := Nat.le_trans Z0 (Nat.le_of_eq g2.symm)
  have sz2 : h0.size ≤ b2 := Nat.le_trans (Nat.le_refl _) (Nat.le_of_eq g2.symm)
  have f2_0 := F_known_a0.ext E2
  have f2_1 := F_heartbeatDeadline_a0.ext E2
  have f2_2 := F_outOfBoundsSince_a0.ext E2
  have f2_3 := F_checkDeadline_a0.ext E2
  have f2_4 := F_id_a0.ext E2
  have f2_5 := F_membersAbove_a0.ext E2
  have f2_6 := F_size_a0.ext E2
  have f2_7 := F_intervalMillis_a0.ext E2
  have f2_8 := F_timeoutMillis_a0.ext E2
  have f2_9 := F_candidate_a0.ext E2
  have f2_10 := E_a0.ext E2
  have f2_11 := E_a4.ext E2
  have f2_12 := F_heartbeatIntervalMillis_a4.ext E2
  have f2_13 := F_heartbeatTimeoutMillis_a4.ext E2
  have K2 : Keep h0 h2 [a0] := (Keep.refl h0 _).ext E2
  have Z2 : n0 ≤ h2.size := Nat.le_trans Z0 E2.1
  have F2_size : Fld Z h2 b2 "java/util/TreeMap" "size" "I" (.int (0 : Int32)) := D2 (Or.inl (hw _ (List.mem_of_getElem? (i := 61) rfl))) (ty := .int) (by decide)
  have F2_modCount : Fld Z h2 b2 "java/util/TreeMap" "modCount" "I" (.int (0 : Int32)) := D2 (Or.inl (hw _ (List.mem_of_getElem? (i := 63) rfl))) (ty := .int) (by decide)
  have F2_comparator : Fld Z h2 b2 "java/util/TreeMap" "comparator" "Ljava/util/Comparator;" .null := D2 (Or.inr (hw _ (List.mem_of_getElem? (i := 65) rfl))) (ty := (.object "java/util/Comparator")) (by decide)
  obtain ⟨_, _, ⟨T3, L3, k3, n3⟩, -, X3, ⟨Lc3, hQ3, l3, y3, z3⟩, st3⟩ := X2.specialBack hx (y := (⟨"java/util/TreeMap", "<init>", "()V"⟩ : MethodName)) rfl hown (mvT hZ (hw _ (List.mem_of_getElem? (i := 50) rfl))) (mvT hZ (hw _ (List.mem_of_getElem? (i := 51) rfl))) (mvT hZ (hw _ (List.mem_of_getElem? (i := 52) rfl))) (by decide) (backOf (W := 2) (rm7 l Z aw hw [] b2 h2 n0 Z2 F2_size F2_modCount F2_comparator A2 lo2) hZ (hw _ (List.mem_of_getElem? (i := 52) rfl)) (hw _ (List.mem_of_getElem? (i := 49) rfl)) (by decide) (by decide)) (g := (mkF m 9 #[.val (.ref a0), .val (.int p1), .val (.int p2), .val (.ref a3), .val (.ref a4)] [(.ref b2), (.ref b2), (.ref a0)])) rfl (by rw [hml]; rfl) (Steps.refl _) (a := b2) (argsL := []) (rest := [(.ref b2), (.ref a0)]) (lenOf pd_6_0 rfl) rfl (by show 2 * 0 + _ ≤ _; exact Nat.le_of_eq rfl) (hb hby d6_9) (fun _ _ => ⟨rfl, e2, (by decide : 1 + 0 ≤ _), (by decide : 9 + 0 ≤ _)⟩)
  dsimp only [Pt.U, Pt.locs, Pt.cells, Pt.slots] at X3 l3 y3 z3 st3 hQ3
  rw [l3, y3, z3] at X3
  obtain ⟨rfl, Nq3, Kq3, P3_0⟩ := hQ3
  have N3 := Fr.app N0 Nq3
  have f3_0 := f2_0.keep Kq3 (ninS ne2_a0 nin0)
  have f3_1 := f2_1.keep Kq3 (ninS ne2_a0 nin0)
  have f3_2 := f2_2.keep Kq3 (ninS ne2_a0 nin0)
  have f3_3 := f2_3.keep Kq3 (ninS ne2_a0 nin0)
  have f3_4 := f2_4.keep Kq3 (ninS ne2_a0 nin0)
  have f3_5 := f2_5.keep Kq3 (ninS ne2_a0 nin0)
  have f3_6 := f2_6.keep Kq3 (ninS ne2_a0 nin0)
  have f3_7 := f2_7.keep Kq3 (ninS ne2_a0 nin0)
  have f3_8 := f2_8.keep Kq3 (ninS ne2_a0 nin0)
  have f3_9 := f2_9.keep Kq3 (ninS ne2_a0 nin0)
  have f3_10 := f2_10.keep Kq3
  have f3_11 := f2_11.keep Kq3
  have f3_12 := f2_12.keep Kq3 (ninS ne2_a4 nin0)
  have f3_13 := f2_13.keep Kq3 (ninS ne2_a4 nin0)
  have K3 : Keep h0 T3.heap [a0] := K2.trans Kq3 (allS (Or.inr sz2) all0)
  have Z3 : n0 ≤ T3.heap.size := Nat.le_trans Z2 Kq3.1
  obtain ⟨T4, h4, X4, e4, W4, st4⟩ := putF X3 hx hZ hown (host := "") (Or.inl (hw _ (List.mem_of_getElem? (i := 66) rfl))) Via.refl rfl f3_0 f3_10 (Or.inr ⟨(hw _ (List.mem_of_getElem? (i := 67) rfl)), rfl, hnm⟩) (hw _ (List.mem_of_getElem? (i := 30) rfl)) (ty := (.object "java/util/TreeMap")) (by decide) rfl rfl (g := (mkF m 12 #[.val (.ref a0), .val (.int p1), .val (.int p2), .val (.ref a3), .val (.ref a4)] [(.ref b2), (.ref a0)])) rfl rfl (hb hby d6_12)
  have Fw4 := f3_0.same W4
  have f4_0 := f3_1.other W4 (Or.inr (slot_ne (Or.inl (hw _ (List.mem_of_getElem? (i := 70) rfl))) (Or.inr (hw _ (List.mem_of_getElem? (i := 67) rfl))) (by decide) (t := .long) (t' := (.object "java/util/TreeMap")) (by decide) (by decide)))
  have f4_1 := f3_2.other W4 (Or.inr (slot_ne (Or.inl (hw _ (List.mem_of_getElem? (i := 72) rfl))) (Or.inr (hw _ (List.mem_of_getElem? (i := 67) rfl))) (by decide) (t := .long) (t' := (.object "java/util/TreeMap")) (by decide) (by decide)))
  have f4_2 := f3_3.other W4 (Or.inr (slot_ne (Or.inl (hw _ (List.mem_of_getElem? (i := 74) rfl))) (Or.inr (hw _ (List.mem_of_getElem? (i := 67) rfl))) (by decide) (t := .long) (t' := (.object "java/util/TreeMap")) (by decide) (by decide)))
  have f4_3 := f3_4.other W4 (Or.inr (slot_ne (Or.inr (hw _ (List.mem_of_getElem? (i := 76) rfl))) (Or.inr (hw _ (List.mem_of_getElem? (i := 67) rfl))) (by decide) (t := .int) (t' := (.object "java/util/TreeMap")) (by decide) (by decide)))
  have f4_4 := f3_5.other W4 (Or.inr (slot_ne (Or.inr (hw _ (List.mem_of_getElem? (i := 78) rfl))) (Or.inr (hw _ (List.mem_of_getElem? (i := 67) rfl))) (by decide) (t := .int) (t' := (.object "java/util/TreeMap")) (by decide) (by decide)))
  have f4_5 := f3_6.other W4 (Or.inr (slot_ne (Or.inr (hw _ (List.mem_of_getElem? (i := 80) rfl))) (Or.inr (hw _ (List.mem_of_getElem? (i := 67) rfl))) (by decide) (t := (.object "com/example/many_to_leader/manytoleader/bully/PoolSize")) (t' := (.object "java/util/TreeMap")) (by decide) (by decide)))
  have f4_6 := f3_7.other W4 (Or.inr (slot_ne (Or.inr (hw _ (List.mem_of_getElem? (i := 87) rfl))) (Or.inr (hw _ (List.mem_of_getElem? (i := 67) rfl))) (by decide) (t := .long) (t' := (.object "java/util/TreeMap")) (by decide) (by decide)))
  have f4_7 := f3_8.other W4 (Or.inr (slot_ne (Or.inr (hw _ (List.mem_of_getElem? (i := 94) rfl))) (Or.inr (hw _ (List.mem_of_getElem? (i := 67) rfl))) (by decide) (t := .long) (t' := (.object "java/util/TreeMap")) (by decide) (by decide)))
  have f4_8 := f3_9.other W4 (Or.inr (slot_ne (Or.inl (hw _ (List.mem_of_getElem? (i := 140) rfl))) (Or.inr (hw _ (List.mem_of_getElem? (i := 67) rfl))) (by decide) (t := .boolean) (t' := (.object "java/util/TreeMap")) (by decide) (by decide)))
  have f4_9 := f3_10.wr W4
  have f4_10 := f3_11.wr W4
  have f4_11 := f3_12.other W4 (Or.inl (ne_exa f3_11 f3_10 (by decide)))
  have f4_12 := f3_13.other W4 (Or.inl (ne_exa f3_11 f3_10 (by decide)))
  have f4_13 := P3_0.wr W4
  have K4 : Keep h0 h4 [a0] := K3.wr W4 (Or.inl (List.mem_of_getElem? (i := 0) rfl))
  have Z4 : n0 ≤ h4.size := Nat.le_trans Z3 (Keep.of_wr W4).1
  have N4 := Fr.snoc X4 N3 g_a0
  obtain ⟨T5, h5, X5, e5, W5, st5⟩ := putF X4 hx hZ hown (host := "") (Or.inl (hw _ (List.mem_of_getElem? (i := 69) rfl))) Via.refl e4 f4_0 f4_9 (Or.inl (hw _ (List.mem_of_getElem? (i := 70) rfl))) (hw _ (List.mem_of_getElem? (i := 30) rfl)) (ty := .long) (by decide) rfl rfl (g := (mkF m 19 #[.val (.ref a0), .val (.int p1), .val (.int p2), .val (.ref a3), .val (.ref a4)] [(.long (9223372036854775807 : Int64)), (.ref a0)])) rfl rfl (hb hby d6_19)
  have Fw5 := f4_0.same W5
  have f5_0 := f4_1.other W5 (Or.inr (slot_ne (Or.inl (hw _ (List.mem_of_getElem? (i := 72) rfl))) (Or.inl (hw _ (List.mem_of_getElem? (i := 70) rfl))) (by decide) (t := .long) (t' := .long) (by decide) (by decide)))
  have f5_1 := f4_2.other W5 (Or.inr (slot_ne (Or.inl (hw _ (List.mem_of_getElem? (i := 74) rfl))) (Or.inl (hw _ (List.mem_of_getElem? (i := 70) rfl))) (by decide) (t := .long) (t' := .long) (by decide) (by decide)))
  have f5_2 := f4_3.other W5 (Or.inr (slot_ne (Or.inr (hw _ (List.mem_of_getElem? (i := 76) rfl))) (Or.inl (hw _ (List.mem_of_getElem? (i := 70) rfl))) (by decide) (t := .int) (t' := .long) (by decide) (by decide)))
  have f5_3 := f4_4.other W5 (Or.inr (slot_ne (Or.inr (hw _ (List.mem_of_getElem? (i := 78) rfl))) (Or.inl (hw _ (List.mem_of_getElem? (i := 70) rfl))) (by decide) (t := .int) (t' := .long) (by decide) (by decide)))
  have f5_4 := f4_5.other W5 (Or.inr (slot_ne (Or.inr (hw _ (List.mem_of_getElem? (i := 80) rfl))) (Or.inl (hw _ (List.mem_of_getElem? (i := 70) rfl))) (by decide) (t := (.object "com/example/many_to_leader/manytoleader/bully/PoolSize")) (t' := .long) (by decide) (by decide)))
  have f5_5 := f4_6.other W5 (Or.inr (slot_ne (Or.inr (hw _ (List.mem_of_getElem? (i := 87) rfl))) (Or.inl (hw _ (List.mem_of_getElem? (i := 70) rfl))) (by decide) (t := .long) (t' := .long) (by decide) (by decide)))
  have f5_6 := f4_7.other W5 (Or.inr (slot_ne (Or.inr (hw _ (List.mem_of_getElem? (i := 94) rfl))) (Or.inl (hw _ (List.mem_of_getElem? (i := 70) rfl))) (by decide) (t := .long) (t' := .long) (by decide) (by decide)))
  have f5_7 := f4_8.other W5 (Or.inr (slot_ne (Or.inl (hw _ (List.mem_of_getElem? (i := 140) rfl))) (Or.inl (hw _ (List.mem_of_getElem? (i := 70) rfl))) (by decide) (t := .boolean) (t' := .long) (by decide) (by decide)))
  have f5_8 := f4_9.wr W5
  have f5_9 := f4_10.wr W5
  have f5_10 := f4_11.other W5 (Or.inl (ne_exa f4_10 f4_9 (by decide)))
  have f5_11 := f4_12.other W5 (Or.inl (ne_exa f4_10 f4_9 (by decide)))
  have f5_12 := f4_13.wr W5
  have f5_13 := Fw4.other W5 (Or.inr (slot_ne (Or.inr (hw _ (List.mem_of_getElem? (i := 67) rfl))) (Or.inl (hw _ (List.mem_of_getElem? (i := 70) rfl))) (by decide) (t := (.object "java/util/TreeMap")) (t' := .long) (by decide) (by decide)))
  have K5 : Keep h0 h5 [a0] := K4.wr W5 (Or.inl (List.mem_of_getElem? (i := 0) rfl))
  have Z5 : n0 ≤ h5.size := Nat.le_trans Z4 (Keep.of_wr W5).1
  have N5 := Fr.snoc X5 N4 g_a0
  obtain ⟨T6, h6, X6, e6, W6, st6⟩ := putF X5 hx hZ hown (host := "") (Or.inl (hw _ (List.mem_of_getElem? (i := 71) rfl))) Via.refl e5 f5_0 f5_8 (Or.inl (hw _ (List.mem_of_getElem? (i := 72) rfl))) (hw _ (List.mem_of_getElem? (i := 30) rfl)) (ty := .long) (by decide) rfl rfl (g := (mkF m 26 #[.val (.ref a0), .val (.int p1), .val (.int p2), .val (.ref a3), .val (.ref a4)] [(.long (9223372036854775807 : Int64)), (.ref a0)])) rfl rfl (hb hby d6_26)
  have Fw6 := f5_0.same W6
  have f6_0 := f5_1.other W6 (Or.inr (slot_ne (Or.inl (hw _ (List.mem_of_getElem? (i := 74) rfl))) (Or.inl (hw _ (List.mem_of_getElem? (i := 72) rfl))) (by decide) (t := .long) (t' := .long) (by decide) (by decide)))
  have f6_1 := f5_2.other W6 (Or.inr (slot_ne (Or.inr (hw _ (List.mem_of_getElem? (i := 76) rfl))) (Or.inl (hw _ (List.mem_of_getElem? (i := 72) rfl))) (by decide) (t := .int) (t' := .long) (by decide) (by decide)))
  have f6_2 := f5_3.other W6 (Or.inr (slot_ne (Or.inr (hw _ (List.mem_of_getElem? (i := 78) rfl))) (Or.inl (hw _ (List.mem_of_getElem? (i := 72) rfl))) (by decide) (t := .int) (t' := .long) (by decide) (by decide)))
  have f6_3 := f5_4.other W6 (Or.inr (slot_ne (Or.inr (hw _ (List.mem_of_getElem? (i := 80) rfl))) (Or.inl (hw _ (List.mem_of_getElem? (i := 72) rfl))) (by decide) (t := (.object "com/example/many_to_leader/manytoleader/bully/PoolSize")) (t' := .long) (by decide) (by decide)))
  have f6_4 := f5_5.other W6 (Or.inr (slot_ne (Or.inr (hw _ (List.mem_of_getElem? (i := 87) rfl))) (Or.inl (hw _ (List.mem_of_getElem? (i := 72) rfl))) (by decide) (t := .long) (t' := .long) (by decide) (by decide)))
  have f6_5 := f5_6.other W6 (Or.inr (slot_ne (Or.inr (hw _ (List.mem_of_getElem? (i := 94) rfl))) (Or.inl (hw _ (List.mem_of_getElem? (i := 72) rfl))) (by decide) (t := .long) (t' := .long) (by decide) (by decide)))
  have f6_6 := f5_7.other W6 (Or.inr (slot_ne (Or.inl (hw _ (List.mem_of_getElem? (i := 140) rfl))) (Or.inl (hw _ (List.mem_of_getElem? (i := 72) rfl))) (by decide) (t := .boolean) (t' := .long) (by decide) (by decide)))
  have f6_7 := f5_8.wr W6
  have f6_8 := f5_9.wr W6
  have f6_9 := f5_10.other W6 (Or.inl (ne_exa f5_9 f5_8 (by decide)))
  have f6_10 := f5_11.other W6 (Or.inl (ne_exa f5_9 f5_8 (by decide)))
  have f6_11 := f5_12.wr W6
  have f6_12 := f5_13.other W6 (Or.inr (slot_ne (Or.inr (hw _ (List.mem_of_getElem? (i := 67) rfl))) (Or.inl (hw _ (List.mem_of_getElem? (i := 72) rfl))) (by decide) (t := (.object "java/util/TreeMap")) (t' := .long) (by decide) (by decide)))
  have f6_13 := Fw5.other W6 (Or.inr (slot_ne (Or.inl (hw _ (List.mem_of_getElem? (i := 70) rfl))) (Or.inl (hw _ (List.mem_of_getElem? (i := 72) rfl))) (by decide) (t := .long) (t' := .long) (by decide) (by decide)))
  have K6 : Keep h0 h6 [a0] := K5.wr W6 (Or.inl (List.mem_of_getElem? (i := 0) rfl))
  have Z6 : n0 ≤ h6.size := Nat.le_trans Z5 (Keep.of_wr W6).1
  have N6 := Fr.snoc X6 N5 g_a0
  obtain ⟨T7, h7, X7, e7, W7, st7⟩ := putF X6 hx hZ hown (host := "") (Or.inl (hw _ (List.mem_of_getElem? (i := 73) rfl))) Via.refl e6 f6_0 f6_7 (Or.inl (hw _ (List.mem_of_getElem? (i := 74) rfl))) (hw _ (List.mem_of_getElem? (i := 30) rfl)) (ty := .long) (by decide) rfl rfl (g := (mkF m 33 #[.val (.ref a0), .val (.int p1), .val (.int p2), .val (.ref a3), .val (.ref a4)] [(.long (9223372036854775807 : Int64)), (.ref a0)])) rfl rfl (hb hby d6_33)
  have Fw7 := f6_0.same W7
  have f7_0 := f6_1.other W7 (Or.inr (slot_ne (Or.inr (hw _ (List.mem_of_getElem? (i := 76) rfl))) (Or.inl (hw _ (List.mem_of_getElem? (i := 74) rfl))) (by decide) (t := .int) (t' := .long) (by decide) (by decide)))
  have f7_1 := f6_2.other W7 (Or.inr (slot_ne (Or.inr (hw _ (List.mem_of_getElem? (i := 78) rfl))) (Or.inl (hw _ (List.mem_of_getElem? (i := 74) rfl))) (by decide) (t := .int) (t' := .long) (by decide) (by decide)))
  have f7_2 := f6_3.other W7 (Or.inr (slot_ne (Or.inr (hw _ (List.mem_of_getElem? (i := 80) rfl))) (Or.inl (hw _ (List.mem_of_getElem? (i := 74) rfl))) (by decide) (t := (.object "com/example/many_to_leader/manytoleader/bully/PoolSize")) (t' := .long) (by decide) (by decide)))
  have f7_3 := f6_4.other W7 (Or.inr (slot_ne (Or.inr (hw _ (List.mem_of_getElem? (i := 87) rfl))) (Or.inl (hw _ (List.mem_of_getElem? (i := 74) rfl))) (by decide) (t := .long) (t' := .long) (by decide) (by decide)))
  have f7_4 := f6_5.other W7 (Or.inr (slot_ne (Or.inr (hw _ (List.mem_of_getElem? (i := 94) rfl))) (Or.inl (hw _ (List.mem_of_getElem? (i := 74) rfl))) (by decide) (t := .long) (t' := .long) (by decide) (by decide)))
  have f7_5 := f6_6.other W7 (Or.inr (slot_ne (Or.inl (hw _ (List.mem_of_getElem? (i := 140) rfl))) (Or.inl (hw _ (List.mem_of_getElem? (i := 74) rfl))) (by decide) (t := .boolean) (t' := .long) (by decide) (by decide)))
  have f7_6 := f6_7.wr W7
  have f7_7 := f6_8.wr W7
  have f7_8 := f6_9.other W7 (Or.inl (ne_exa f6_8 f6_7 (by decide)))
  have f7_9 := f6_10.other W7 (Or.inl (ne_exa f6_8 f6_7 (by decide)))
  have f7_10 := f6_11.wr W7
  have f7_11 := f6_12.other W7 (Or.inr (slot_ne (Or.inr (hw _ (List.mem_of_getElem? (i := 67) rfl))) (Or.inl (hw _ (List.mem_of_getElem? (i := 74) rfl))) (by decide) (t := (.object "java/util/TreeMap")) (t' := .long) (by decide) (by decide)))
  have f7_12 := f6_13.other W7 (Or.inr (slot_ne (Or.inl (hw _ (List.mem_of_getElem? (i := 70) rfl))) (Or.inl (hw _ (List.mem_of_getElem? (i := 74) rfl))) (by decide) (t := .long) (t' := .long) (by decide) (by decide)))
  have f7_13 := Fw6.other W7 (Or.inr (slot_ne (Or.inl (hw _ (List.mem_of_getElem? (i := 72) rfl))) (Or.inl (hw _ (List.mem_of_getElem? (i := 74) rfl))) (by decide) (t := .long) (t' := .long) (by decide) (by decide)))
  have K7 : Keep h0 h7 [a0] := K6.wr W7 (Or.inl (List.mem_of_getElem? (i := 0) rfl))
  have Z7 : n0 ≤ h7.size := Nat.le_trans Z6 (Keep.of_wr W7).1
  have N7 := Fr.snoc X7 N6 g_a0
  obtain ⟨T8, h8, X8, e8, W8, st8⟩ := putF X7 hx hZ hown (host := "") (Or.inl (hw _ (List.mem_of_getElem? (i := 75) rfl))) Via.refl e7 f7_0 f7_6 (Or.inr ⟨(hw _ (List.mem_of_getElem? (i := 76) rfl)), rfl, hnm⟩) (hw _ (List.mem_of_getElem? (i := 30) rfl)) (ty := .int) (by decide) rfl rfl (g := (mkF m 38 #[.val (.ref a0), .val (.int p1), .val (.int p2), .val (.ref a3), .val (.ref a4)] [(.int p1), (.ref a0)])) rfl rfl (hb hby d6_38)
  have Fw8 := f7_0.same W8
  have f8_0 := f7_1.other W8 (Or.inr (slot_ne (Or.inr (hw _ (List.mem_of_getElem? (i := 78) rfl))) (Or.inr (hw _ (List.mem_of_getElem? (i := 76) rfl))) (by decide) (t := .int) (t' := .int) (by decide) (by decide)))
  have f8_1 := f7_2.other W8 (Or.inr (slot_ne (Or.inr (hw _ (List.mem_of_getElem? (i := 80) rfl))) (Or.inr (hw _ (List.mem_of_getElem? (i := 76) rfl))) (by decide) (t := (.object "com/example/many_to_leader/manytoleader/bully/PoolSize")) (t' := .int) (by decide) (by decide)))
  have f8_2 := f7_3.other W8 (Or.inr (slot_ne (Or.inr (hw _ (List.mem_of_getElem? (i := 87) rfl))) (Or.inr (hw _ (List.mem_of_getElem? (i := 76) rfl))) (by decide) (t := .long) (t' := .int) (by decide) (by decide)))
  have f8_3 := f7_4.other W8 (Or.inr (slot_ne (Or.inr (hw _ (List.mem_of_getElem? (i := 94) rfl))) (Or.inr (hw _ (List.mem_of_getElem? (i := 76) rfl))) (by decide) (t := .long) (t' := .int) (by decide) (by decide)))
  have f8_4 := f7_5.other W8 (Or.inr (slot_ne (Or.inl (hw _ (List.mem_of_getElem? (i := 140) rfl))) (Or.inr (hw _ (List.mem_of_getElem? (i := 76) rfl))) (by decide) (t := .boolean) (t' := .int) (by decide) (by decide)))
  have f8_5 := f7_6.wr W8
  have f8_6 := f7_7.wr W8
  have f8_7 := f7_8.other W8 (Or.inl (ne_exa f7_7 f7_6 (by decide)))
  have f8_8 := f7_9.other W8 (Or.inl (ne_exa f7_7 f7_6 (by decide)))
  have f8_9 := f7_10.wr W8
  have f8_10 := f7_11.other W8 (Or.inr (slot_ne (Or.inr (hw _ (List.mem_of_getElem? (i := 67) rfl))) (Or.inr (hw _ (List.mem_of_getElem? (i := 76) rfl))) (by decide) (t := (.object "java/util/TreeMap")) (t' := .int) (by decide) (by decide)))
  have f8_11 := f7_12.other W8 (Or.inr (slot_ne (Or.inl (hw _ (List.mem_of_getElem? (i := 70) rfl))) (Or.inr (hw _ (List.mem_of_getElem? (i := 76) rfl))) (by decide) (t := .long) (t' := .int) (by decide) (by decide)))
  have f8_12 := f7_13.other W8 (Or.inr (slot_ne (Or.inl (hw _ (List.mem_of_getElem? (i := 72) rfl))) (Or.inr (hw _ (List.mem_of_getElem? (i := 76) rfl))) (by decide) (t := .long) (t' := .int) (by decide) (by decide)))
  have f8_13 := Fw7.other W8 (Or.inr (slot_ne (Or.inl (hw _ (List.mem_of_getElem? (i := 74) rfl))) (Or.inr (hw _ (List.mem_of_getElem? (i := 76) rfl))) (by decide) (t := .long) (t' := .int) (by decide) (by decide)))
  have K8 : Keep h0 h8 [a0] := K7.wr W8 (Or.inl (List.mem_of_getElem? (i := 0) rfl))
  have Z8 : n0 ≤ h8.size := Nat.le_trans Z7 (Keep.of_wr W8).1
  have N8 := Fr.snoc X8 N7 g_a0
  obtain ⟨T9, h9, X9, e9, W9, st9⟩ := putF X8 hx hZ hown (host := "") (Or.inl (hw _ (List.mem_of_getElem? (i := 77) rfl))) Via.refl e8 f8_0 f8_5 (Or.inr ⟨(hw _ (List.mem_of_getElem? (i := 78) rfl)), rfl, hnm⟩) (hw _ (List.mem_of_getElem? (i := 30) rfl)) (ty := .int) (by decide) rfl rfl (g := (mkF m 43 #[.val (.ref a0), .val (.int p1), .val (.int p2), .val (.ref a3), .val (.ref a4)] [(.int p2), (.ref a0)])) rfl rfl (hb hby d6_43)
  have Fw9 := f8_0.same W9
  have f9_0 := f8_1.other W9 (Or.inr (slot_ne (Or.inr (hw _ (List.mem_of_getElem? (i := 80) rfl))) (Or.inr (hw _ (List.mem_of_getElem? (i := 78) rfl))) (by decide) (t := (.object "com/example/many_to_leader/manytoleader/bully/PoolSize")) (t' := .int) (by decide) (by decide)))
  have f9_1 := f8_2.other W9 (Or.inr (slot_ne (Or.inr (hw _ (List.mem_of_getElem? (i := 87) rfl))) (Or.inr (hw _ (List.mem_of_getElem? (i := 78) rfl))) (by decide) (t := .long) (t' := .int) (by decide) (by decide)))
  have f9_2 := f8_3.other W9 (Or.inr (slot_ne (Or.inr (hw _ (List.mem_of_getElem? (i := 94) rfl))) (Or.inr (hw _ (List.mem_of_getElem? (i := 78) rfl))) (by decide) (t := .long) (t' := .int) (by decide) (by decide)))
  have f9_3 := f8_4.other W9 (Or.inr (slot_ne (Or.inl (hw _ (List.mem_of_getElem? (i := 140) rfl))) (Or.inr (hw _ (List.mem_of_getElem? (i := 78) rfl))) (by decide) (t := .boolean) (t' := .int) (by decide) (by decide)))
  have f9_4 := f8_5.wr W9
  have f9_5 := f8_6.wr W9
  have f9_6 := f8_7.other W9 (Or.inl (ne_exa f8_6 f8_5 (by decide)))
  have f9_7 := f8_8.other W9 (Or.inl (ne_exa f8_6 f8_5 (by decide)))
  have f9_8 := f8_9.wr W9
  have f9_9 := f8_10.other W9 (Or.inr (slot_ne (Or.inr (hw _ (List.mem_of_getElem? (i := 67) rfl))) (Or.inr (hw _ (List.mem_of_getElem? (i := 78) rfl))) (by decide) (t := (.object "java/util/TreeMap")) (t' := .int) (by decide) (by decide)))
  have f9_10 := f8_11.other W9 (Or.inr (slot_ne (Or.inl (hw _ (List.mem_of_getElem? (i := 70) rfl))) (Or.inr (hw _ (List.mem_of_getElem? (i := 78) rfl))) (by decide) (t := .long) (t' := .int) (by decide) (by decide)))
  have f9_11 := f8_12.other W9 (Or.inr (slot_ne (Or.inl (hw _ (List.mem_of_getElem? (i := 72) rfl))) (Or.inr (hw _ (List.mem_of_getElem? (i := 78) rfl))) (by decide) (t := .long) (t' := .int) (by decide) (by decide)))
  have f9_12 := f8_13.other W9 (Or.inr (slot_ne (Or.inl (hw _ (List.mem_of_getElem? (i := 74) rfl))) (Or.inr (hw _ (List.mem_of_getElem? (i := 78) rfl))) (by decide) (t := .long) (t' := .int) (by decide) (by decide)))
  have f9_13 := Fw8.other W9 (Or.inr (slot_ne (Or.inr (hw _ (List.mem_of_getElem? (i := 76) rfl))) (Or.inr (hw _ (List.mem_of_getElem? (i := 78) rfl))) (by decide) (t := .int) (t' := .int) (by decide) (by decide)))
  have K9 : Keep h0 h9 [a0] := K8.wr W9 (Or.inl (List.mem_of_getElem? (i := 0) rfl))
  have Z9 : n0 ≤ h9.size := Nat.le_trans Z8 (Keep.of_wr W9).1
  have N9 := Fr.snoc X9 N8 g_a0
  obtain ⟨T10, h10, X10, e10, W10, st10⟩ := putF X9 hx hZ hown (host := "") (Or.inl (hw _ (List.mem_of_getElem? (i := 79) rfl))) Via.refl e9 f9_0 f9_4 (Or.inr ⟨(hw _ (List.mem_of_getElem? (i := 80) rfl)), rfl, hnm⟩) (hw _ (List.mem_of_getElem? (i := 30) rfl)) (ty := (.object "com/example/many_to_leader/manytoleader/bully/PoolSize")) (by decide) rfl rfl (g := (mkF m 48 #[.val (.ref a0), .val (.int p1), .val (.int p2), .val (.ref a3), .val (.ref a4)] [(.ref a3), (.ref a0)])) rfl rfl (hb hby d6_48)
  have Fw10 := f9_0.same W10
  have f10_0 := f9_1.other W10 (Or.inr (slot_ne (Or.inr (hw _ (List.mem_of_getElem? (i := 87) rfl))) (Or.inr (hw _ (List.mem_of_getElem? (i := 80) rfl))) (by decide) (t := .long) (t' := (.object "com/example/many_to_leader/manytoleader/bully/PoolSize")) (by decide) (by decide)))
  have f10_1 := f9_2.other W10 (Or.inr (slot_ne (Or.inr (hw _ (List.mem_of_getElem? (i := 94) rfl))) (Or.inr (hw _ (List.mem_of_getElem? (i := 80) rfl))) (by decide) (t := .long) (t' := (.object "com/example/many_to_leader/manytoleader/bully/PoolSize")) (by decide) (by decide)))
  have f10_2 := f9_3.other W10 (Or.inr (slot_ne (Or.inl (hw _ (List.mem_of_getElem? (i := 140) rfl))) (Or.inr (hw _ (List.mem_of_getElem? (i := 80) rfl))) (by decide) (t := .boolean) (t' := (.object "com/example/many_to_leader/manytoleader/bully/PoolSize")) (by decide) (by decide)))
  have f10_3 := f9_4.wr W10
  have f10_4 := f9_5.wr W10
  have f10_5 := f9_6.other W10 (Or.inl (ne_exa f9_5 f9_4 (by decide)))
  have f10_6 := f9_7.other W10 (Or.inl (ne_exa f9_5 f9_4 (by decide)))
  have f10_7 := f9_8.wr W10
  have f10_8 := f9_9.other W10 (Or.inr (slot_ne (Or.inr (hw _ (List.mem_of_getElem? (i := 67) rfl))) (Or.inr (hw _ (List.mem_of_getElem? (i := 80) rfl))) (by decide) (t := (.object "java/util/TreeMap")) (t' := (.object "com/example/many_to_leader/manytoleader/bully/PoolSize")) (by decide) (by decide)))
  have f10_9 := f9_10.other W10 (Or.inr (slot_ne (Or.inl (hw _ (List.mem_of_getElem? (i := 70) rfl))) (Or.inr (hw _ (List.mem_of_getElem? (i := 80) rfl))) (by decide) (t := .long) (t' := (.object "com/example/many_to_leader/manytoleader/bully/PoolSize")) (by decide) (by decide)))
  have f10_10 := f9_11.other W10 (Or.inr (slot_ne (Or.inl (hw _ (List.mem_of_getElem? (i := 72) rfl))) (Or.inr (hw _ (List.mem_of_getElem? (i := 80) rfl))) (by decide) (t := .long) (t' := (.object "com/example/many_to_leader/manytoleader/bully/PoolSize")) (by decide) (by decide)))
  have f10_11 := f9_12.other W10 (Or.inr (slot_ne (Or.inl (hw _ (List.mem_of_getElem? (i := 74) rfl))) (Or.inr (hw _ (List.mem_of_getElem? (i := 80) rfl))) (by decide) (t := .long) (t' := (.object "com/example/many_to_leader/manytoleader/bully/PoolSize")) (by decide) (by decide)))
  have f10_12 := f9_13.other W10 (Or.inr (slot_ne (Or.inr (hw _ (List.mem_of_getElem? (i := 76) rfl))) (Or.inr (hw _ (List.mem_of_getElem? (i := 80) rfl))) (by decide) (t := .int) (t' := (.object "com/example/many_to_leader/manytoleader/bully/PoolSize")) (by decide) (by decide)))
  have f10_13 := Fw9.other W10 (Or.inr (slot_ne (Or.inr (hw _ (List.mem_of_getElem? (i := 78) rfl))) (Or.inr (hw _ (List.mem_of_getElem? (i := 80) rfl))) (by decide) (t := .int) (t' := (.object "com/example/many_to_leader/manytoleader/bully/PoolSize")) (by decide) (by decide)))
  have K10 : Keep h0 h10 [a0] := K9.wr W10 (Or.inl (List.mem_of_getElem? (i := 0) rfl))
  have Z10 : n0 ≤ h10.size := Nat.le_trans Z9 (Keep.of_wr W10).1
  have N10 := Fr.snoc X10 N9 g_a0
  obtain ⟨cq11, kq11, q11a, q11b, q11c⟩ := isOf hZ e10 f10_4
  obtain ⟨_, _, ⟨T11, L11, k11, n11⟩, -, X11, ⟨Lc11, hQ11, l11, y11, z11⟩, st11⟩ := X10.virtualBack hx (y := (⟨"com/example/many_to_leader/manytoleader/bully/Timeouts", "heartbeatIntervalMillis", "()J"⟩ : MethodName)) (z := (⟨"com/example/many_to_leader/manytoleader/bully/Timeouts", "heartbeatIntervalMillis", "()J"⟩ : MethodName)) hown (mvT hZ (hw _ (List.mem_of_getElem? (i := 81) rfl))) (mvT hZ (hw _ (List.mem_of_getElem? (i := 82) rfl))) (notFace_of_selects (args := #[]) (mvT hZ (hw _ (List.mem_of_getElem? (i := 84) rfl)))) (mvT hZ (hw _ (List.mem_of_getElem? (i := 84) rfl))) (mvT hZ (hw _ (List.mem_of_getElem? (i := 83) rfl))) (by decide) (backOf (W := 1) (rm9 l Z aw hw [] a4 wI h10 n0 Z10 f10_5) hZ (hw _ (List.mem_of_getElem? (i := 85) rfl)) (hw _ (List.mem_of_getElem? (i := 3) rfl)) (by decide) (by decide)) q11a q11c (g := (mkF m 54 #[.val (.ref a0), .val (.int p1), .val (.int p2), .val (.ref a3), .val (.ref a4)] [(.ref a4), (.ref a0)])) rfl (by rw [hml]; rfl) (Steps.refl _) (argsL := []) (rest := [(.ref a0)]) (lenOf pd_6_1 rfl) rfl (by show 2 * 0 + _ ≤ _; exact Nat.le_of_eq rfl) (hb hby d6_54) (fun _ _ => ⟨rfl, e10, (by decide : 1 + 0 ≤ _), (by decide : 9 + 0 ≤ _)⟩)
  dsimp only [Pt.U, Pt.locs, Pt.cells, Pt.slots] at X11 l11 y11 z11 st11 hQ11
  rw [l11, y11, z11] at X11
  obtain ⟨rfl, Nq11, e11⟩ := hQ11
  have N11 := Fr.app N10 Nq11
  obtain ⟨T12, h12, X12, e12, W12, st12⟩ := putF X11 hx hZ hown (host := "") (Or.inl (hw _ (List.mem_of_getElem? (i := 86) rfl))) Via.refl e11 f10_0 f10_3 (Or.inr ⟨(hw _ (List.mem_of_getElem? (i := 87) rfl)), rfl, hnm⟩) (hw _ (List.mem_of_getElem? (i := 30) rfl)) (ty := .long) (by decide) rfl rfl (g := (mkF m 57 #[.val (.ref a0), .val (.int p1), .val (.int p2), .val (.ref a3), .val (.ref a4)] [(.long wI), (.ref a0)])) rfl rfl (hb hby d6_57)
  have Fw12 := f10_0.same W12
  have f12_0 := f10_1.other W12 (Or.inr (slot_ne (Or.inr (hw _ (List.mem_of_getElem? (i := 94) rfl))) (Or.inr (hw _ (List.mem_of_getElem? (i := 87) rfl))) (by decide) (t := .long) (t' := .long) (by decide) (by decide)))
  have f12_1 := f10_2.other W12 (Or.inr (slot_ne (Or.inl (hw _ (List.mem_of_getElem? (i := 140) rfl))) (Or.inr (hw _ (List.mem_of_getElem? (i := 87) rfl))) (by decide) (t := .boolean) (t' := .long) (by decide) (by decide)))
  have f12_2 := f10_3.wr W12
  have f12_3 := f10_4.wr W12
  have f12_4 := f10_5.other W12 (Or.inl (ne_exa f10_4 f10_3 (by decide)))
  have f12_5 := f10_6.other W12 (Or.inl (ne_exa f10_4 f10_3 (by decide)))
  have f12_6 := f10_7.wr W12
  have f12_7 := f10_8.other W12 (Or.inr (slot_ne (Or.inr (hw _ (List.mem_of_getElem? (i := 67) rfl))) (Or.inr (hw _ (List.mem_of_getElem? (i := 87) rfl))) (by decide) (t := (.object "java/util/TreeMap")) (t' := .long) (by decide) (by decide)))
  have f12_8 := f10_9.other W12 (Or.inr (slot_ne (Or.inl (hw _ (List.mem_of_getElem? (i := 70) rfl))) (Or.inr (hw _ (List.mem_of_getElem? (i := 87) rfl))) (by decide) (t := .long) (t' := .long) (by decide) (by decide)))
  have f12_9 := f10_10.other W12 (Or.inr (slot_ne (Or.inl (hw _ (List.mem_of_getElem? (i := 72) rfl))) (Or.inr (hw _ (List.mem_of_getElem? (i := 87) rfl))) (by decide) (t := .long) (t' := .long) (by decide) (by decide)))
  have f12_10 := f10_11.other W12 (Or.inr (slot_ne (Or.inl (hw _ (List.mem_of_getElem? (i := 74) rfl))) (Or.inr (hw _ (List.mem_of_getElem? (i := 87) rfl))) (by decide) (t := .long) (t' := .long) (by decide) (by decide)))
  have f12_11 := f10_12.other W12 (Or.inr (slot_ne (Or.inr (hw _ (List.mem_of_getElem? (i := 76) rfl))) (Or.inr (hw _ (List.mem_of_getElem? (i := 87) rfl))) (by decide) (t := .int) (t' := .long) (by decide) (by decide)))
  have f12_12 := f10_13.other W12 (Or.inr (slot_ne (Or.inr (hw _ (List.mem_of_getElem? (i := 78) rfl))) (Or.inr (hw _ (List.mem_of_getElem? (i := 87) rfl))) (by decide) (t := .int) (t' := .long) (by decide) (by decide)))
  have f12_13 := Fw10.other W12 (Or.inr (slot_ne (Or.inr (hw _ (List.mem_of_getElem? (i := 80) rfl))) (Or.inr (hw _ (List.mem_of_getElem? (i := 87) rfl))) (by decide) (t := (.object "com/example/many_to_leader/manytoleader/bully/PoolSize")) (t' := .long) (by decide) (by decide)))
  have K12 : Keep h0 h12 [a0] := K10.wr W12 (Or.inl (List.mem_of_getElem? (i := 0) rfl))
  have Z12 : n0 ≤ h12.size := Nat.le_trans Z10 (Keep.of_wr W12).1
  have N12 := Fr.snoc X12 N11 g_a0
  obtain ⟨cq13, kq13, q13a, q13b, q13c⟩ := isOf hZ e12 f12_3
  obtain ⟨_, _, ⟨T13, L13, k13, n13⟩, -, X13, ⟨Lc13, hQ13, l13, y13, z13⟩, st13⟩ := X12.virtualBack hx (y := (⟨"com/example/many_to_leader/manytoleader/bully/Timeouts", "heartbeatTimeoutMillis", "()J"⟩ : MethodName)) (z := (⟨"com/example/many_to_leader/manytoleader/bully/Timeouts", "heartbeatTimeoutMillis", "()J"⟩ : MethodName)) hown (mvT hZ (hw _ (List.mem_of_getElem? (i := 88) rfl))) (mvT hZ (hw _ (List.mem_of_getElem? (i := 89) rfl))) (notFace_of_selects (args := #[]) (mvT hZ (hw _ (List.mem_of_getElem? (i := 91) rfl)))) (mvT hZ (hw _ (List.mem_of_getElem? (i := 91) rfl))) (mvT hZ (hw _ (List.mem_of_getElem? (i := 90) rfl))) (by decide) (backOf (W := 1) (rm10 l Z aw hw [] a4 wT h12 n0 Z12 f12_5) hZ (hw _ (List.mem_of_getElem? (i := 92) rfl)) (hw _ (List.mem_of_getElem? (i := 3) rfl)) (by decide) (by decide)) q13a q13c (g := (mkF m 63 #[.val (.ref a0), .val (.int p1), .val (.int p2), .val (.ref a3), .val (.ref a4)] [(.ref a4), (.ref a0)])) rfl (by rw [hml]; rfl) (Steps.refl _) (argsL := []) (rest := [(.ref a0)]) (lenOf pd_6_1 rfl) rfl (by show 2 * 0 + _ ≤ _; exact Nat.le_of_eq rfl) (hb hby d6_63) (fun _ _ => ⟨rfl, e12, (by decide : 1 + 0 ≤ _), (by decide : 9 + 0 ≤ _)⟩)
  dsimp only [Pt.U, Pt.locs, Pt.cells, Pt.slots] at X13 l13 y13 z13 st13 hQ13
  rw [l13, y13, z13] at X13
  obtain ⟨rfl, Nq13, e13⟩ := hQ13
  have N13 := Fr.app N12 Nq13
  obtain ⟨T14, h14, X14, e14, W14, st14⟩ := putF X13 hx hZ hown (host := "") (Or.inl (hw _ (List.mem_of_getElem? (i := 93) rfl))) Via.refl e13 f12_0 f12_2 (Or.inr ⟨(hw _ (List.mem_of_getElem? (i := 94) rfl)), rfl, hnm⟩) (hw _ (List.mem_of_getElem? (i := 30) rfl)) (ty := .long) (by decide) rfl rfl (g := (mkF m 66 #[.val (.ref a0), .val (.int p1), .val (.int p2), .val (.ref a3), .val (.ref a4)] [(.long wT), (.ref a0)])) rfl rfl (hb hby d6_66)
  have Fw14 := f12_0.same W14
  have f14_0 := f12_1.other W14 (Or.inr (slot_ne (Or.inl (hw _ (List.mem_of_getElem? (i := 140) rfl))) (Or.inr (hw _ (List.mem_of_getElem? (i := 94) rfl))) (by decide) (t := .boolean) (t' := .long) (by decide) (by decide)))
  have f14_1 := f12_2.wr W14
  have f14_2 := f12_3.wr W14
  have f14_3 := f12_4.other W14 (Or.inl (ne_exa f12_3 f12_2 (by decide)))
  have f14_4 := f12_5.other W14 (Or.inl (ne_exa f12_3 f12_2 (by decide)))
  have f14_5 := f12_6.wr W14
  have f14_6 := f12_7.other W14 (Or.inr (slot_ne (Or.inr (hw _ (List.mem_of_getElem? (i := 67) rfl))) (Or.inr (hw _ (List.mem_of_getElem? (i := 94) rfl))) (by decide) (t := (.object "java/util/TreeMap")) (t' := .long) (by decide) (by decide)))
  have f14_7 := f12_8.other W14 (Or.inr (slot_ne (Or.inl (hw _ (List.mem_of_getElem? (i := 70) rfl))) (Or.inr (hw _ (List.mem_of_getElem? (i := 94) rfl))) (by decide) (t := .long) (t' := .long) (by decide) (by decide)))
  have f14_8 := f12_9.other W14 (Or.inr (slot_ne (Or.inl (hw _ (List.mem_of_getElem? (i := 72) rfl))) (Or.inr (hw _ (List.mem_of_getElem? (i := 94) rfl))) (by decide) (t := .long) (t' := .long) (by decide) (by decide)))
  have f14_9 := f12_10.other W14 (Or.inr (slot_ne (Or.inl (hw _ (List.mem_of_getElem? (i := 74) rfl))) (Or.inr (hw _ (List.mem_of_getElem? (i := 94) rfl))) (by decide) (t := .long) (t' := .long) (by decide) (by decide)))
  have f14_10 := f12_11.other W14 (Or.inr (slot_ne (Or.inr (hw _ (List.mem_of_getElem? (i := 76) rfl))) (Or.inr (hw _ (List.mem_of_getElem? (i := 94) rfl))) (by decide) (t := .int) (t' := .long) (by decide) (by decide)))
  have f14_11 := f12_12.other W14 (Or.inr (slot_ne (Or.inr (hw _ (List.mem_of_getElem? (i := 78) rfl))) (Or.inr (hw _ (List.mem_of_getElem? (i := 94) rfl))) (by decide) (t := .int) (t' := .long) (by decide) (by decide)))
  have f14_12 := f12_13.other W14 (Or.inr (slot_ne (Or.inr (hw _ (List.mem_of_getElem? (i := 80) rfl))) (Or.inr (hw _ (List.mem_of_getElem? (i := 94) rfl))) (by decide) (t := (.object "com/example/many_to_leader/manytoleader/bully/PoolSize")) (t' := .long) (by decide) (by decide)))
  have f14_13 := Fw12.other W14 (Or.inr (slot_ne (Or.inr (hw _ (List.mem_of_getElem? (i := 87) rfl))) (Or.inr (hw _ (List.mem_of_getElem? (i := 94) rfl))) (by decide) (t := .long) (t' := .long) (by decide) (by decide)))
  have K14 : Keep h0 h14 [a0] := K12.wr W14 (Or.inl (List.mem_of_getElem? (i := 0) rfl))
  have Z14 : n0 ≤ h14.size := Nat.le_trans Z12 (Keep.of_wr W14).1
  have N14 := Fr.snoc X14 N13 g_a0
  refine own_back (b := T14.setTop (mkF m 69 #[.val (.ref a0), .val (.int p1), .val (.int p2), .val (.ref a3), .val (.ref a4)] [])) (fun t kt => ?_) ?_
  · show Steps p.tables e below (s₁.setTop (mkF m 0 #[.val (.ref a0), .val (.int p1), .val (.int p2), .val (.ref a3), .val (.ref a4)] [])) _
    refine XS.aloadN X0.here hx rfl (hb hby d6_0) rfl rfl ?_
    show Steps p.tables e below (s₁.setTop (mkF m 1 #[.val (.ref a0), .val (.int p1), .val (.int p2), .val (.ref a3), .val (.ref a4)] [(.ref a0)])) _
    refine st1 _ ?_
    refine XS.aloadN X1.here hx rfl (hb hby d6_4) rfl rfl ?_
    show Steps p.tables e below (T1.setTop (mkF m 5 #[.val (.ref a0), .val (.int p1), .val (.int p2), .val (.ref a3), .val (.ref a4)] [(.ref a0)])) _
    refine st2 _ ?_
    refine XS.dup X2.here hx rfl (hb hby d6_8) rfl rfl ?_
    show Steps p.tables e below (T2.setTop (mkF m 9 #[.val (.ref a0), .val (.int p1), .val (.int p2), .val (.ref a3), .val (.ref a4)] [(.ref b2), (.ref b2), (.ref a0)])) _
    refine st3.trans ?_
    show Steps p.tables e below (T3.setTop (mkF m 12 #[.val (.ref a0), .val (.int p1), .val (.int p2), .val (.ref a3), .val (.ref a4)] [(.ref b2), (.ref a0)])) _
    refine st4 _ ?_
    refine XS.aloadN X4.here hx rfl (hb hby d6_15) rfl rfl ?_
    show Steps p.tables e below (T4.setTop (mkF m 16 #[.val (.ref a0), .val (.int p1), .val (.int p2), .val (.ref a3), .val (.ref a4)] [(.ref a0)])) _
    refine X4.ldc2Long hx hown (mvT hZ (hw _ (List.mem_of_getElem? (i := 68) rfl))) (g := (mkF m 16 #[.val (.ref a0), .val (.int p1), .val (.int p2), .val (.ref a3), .val (.ref a4)] [(.ref a0)])) rfl (hb hby d6_16) _ ?_
    show Steps p.tables e below (T4.setTop (mkF m 19 #[.val (.ref a0), .val (.int p1), .val (.int p2), .val (.ref a3), .val (.ref a4)] [(.long (9223372036854775807 : Int64)), (.ref a0)])) _
    refine st5 _ ?_
    refine XS.aloadN X5.here hx rfl (hb hby d6_22) rfl rfl ?_
    show Steps p.tables e below (T5.setTop (mkF m 23 #[.val (.ref a0), .val (.int p1), .val (.int p2), .val (.ref a3), .val (.ref a4)] [(.ref a0)])) _
    refine X5.ldc2Long hx hown (mvT hZ (hw _ (List.mem_of_getElem? (i := 68) rfl))) (g := (mkF m 23 #[.val (.ref a0), .val (.int p1), .val (.int p2), .val (.ref a3), .val (.ref a4)] [(.ref a0)])) rfl (hb hby d6_23) _ ?_
    show Steps p.tables e below (T5.setTop (mkF m 26 #[.val (.ref a0), .val (.int p1), .val (.int p2), .val (.ref a3), .val (.ref a4)] [(.long (9223372036854775807 : Int64)), (.ref a0)])) _
    refine st6 _ ?_
    refine XS.aloadN X6.here hx rfl (hb hby d6_29) rfl rfl ?_
    show Steps p.tables e below (T6.setTop (mkF m 30 #[.val (.ref a0), .val (.int p1), .val (.int p2), .val (.ref a3), .val (.ref a4)] [(.ref a0)])) _
    refine X6.ldc2Long hx hown (mvT hZ (hw _ (List.mem_of_getElem? (i := 68) rfl))) (g := (mkF m 30 #[.val (.ref a0), .val (.int p1), .val (.int p2), .val (.ref a3), .val (.ref a4)] [(.ref a0)])) rfl (hb hby d6_30) _ ?_
    show Steps p.tables e below (T6.setTop (mkF m 33 #[.val (.ref a0), .val (.int p1), .val (.int p2), .val (.ref a3), .val (.ref a4)] [(.long (9223372036854775807 : Int64)), (.ref a0)])) _
    refine st7 _ ?_
    refine XS.aloadN X7.here hx rfl (hb hby d6_36) rfl rfl ?_
    refine XS.iloadN X7.here hx rfl (hb hby d6_37) rfl ?_
    show Steps p.tables e below (T7.setTop (mkF m 38 #[.val (.ref a0), .val (.int p1), .val (.int p2), .val (.ref a3), .val (.ref a4)] [(.int p1), (.ref a0)])) _
    refine st8 _ ?_
    refine XS.aloadN X8.here hx rfl (hb hby d6_41) rfl rfl ?_
    refine XS.iloadN X8.here hx rfl (hb hby d6_42) rfl ?_
    show Steps p.tables e below (T8.setTop (mkF m 43 #[.val (.ref a0), .val (.int p1), .val (.int p2), .val (.ref a3), .val (.ref a4)] [(.int p2), (.ref a0)])) _
    refine st9 _ ?_
    refine XS.aloadN X9.here hx rfl (hb hby d6_46) rfl rfl ?_
    refine XS.aloadN X9.here hx rfl (hb hby d6_47) rfl rfl ?_
    show Steps p.tables e below (T9.setTop (mkF m 48 #[.val (.ref a0), .val (.int p1), .val (.int p2), .val (.ref a3), .val (.ref a4)] [(.ref a3), (.ref a0)])) _
    refine st10 _ ?_
    refine XS.aloadN X10.here hx rfl (hb hby d6_51) rfl rfl ?_
    refine XS.aload X10.here hx rfl (hb hby d6_52) rfl rfl ?_
    show Steps p.tables e below (T10.setTop (mkF m 54 #[.val (.ref a0), .val (.int p1), .val (.int p2), .val (.ref a3), .val (.ref a4)] [(.ref a4), (.ref a0)])) _
    refine st11.trans ?_
    show Steps p.tables e below (T11.setTop (mkF m 57 #[.val (.ref a0), .val (.int p1), .val (.int p2), .val (.ref a3), .val (.ref a4)] [(.long wI), (.ref a0)])) _
    refine st12 _ ?_
    refine XS.aloadN X12.here hx rfl (hb hby d6_60) rfl rfl ?_
    refine XS.aload X12.here hx rfl (hb hby d6_61) rfl rfl ?_
    show Steps p.tables e below (T12.setTop (mkF m 63 #[.val (.ref a0), .val (.int p1), .val (.int p2), .val (.ref a3), .val (.ref a4)] [(.ref a4), (.ref a0)])) _
    refine st13.trans ?_
    show Steps p.tables e below (T13.setTop (mkF m 66 #[.val (.ref a0), .val (.int p1), .val (.int p2), .val (.ref a3), .val (.ref a4)] [(.long wT), (.ref a0)])) _
    refine st14 _ ?_
    exact kt
  obtain ⟨fs, hr, hrun, hended, hW, hsame⟩ := X14.leave (v := none) (fun _ => rfl) (BodyLoose.notSynchronized Bd)
  refine ⟨_, _, ?_, hrun, hended, _, _, rfl, ?_, ⟨_, rfl⟩, hW, hsame.mono (by decide) (by decide)⟩
  · show Steps p.tables e below (T14.setTop (mkF m 69 #[.val (.ref a0), .val (.int p1), .val (.int p2), .val (.ref a3), .val (.ref a4)] [])) _
    exact X14.returnOut hx Bd.returns (hb hby d6_69) hr
  · show Q6 Z a0 p1 p2 a3 a4 wI wT h0 n0 _ T14.heap _
    rw [e14]
    exact ⟨rfl, N14, K14, f14_1, f14_7, f14_9, f14_10, f14_13, f14_0⟩
theorem d13_0 : decode jdk_22_method_1_code 0 = .ok (.aload_n 0, 1) := by decide +kernel
theorem d13_1 : decode jdk_22_method_1_code 1 = .ok (.invokespecial 1, 3) := by decide +kernel
theorem d13_4 : decode jdk_22_method_1_code 4 = .ok (.return_, 1) := by decide +kernel
theorem pn_13 : plainName "java/util/AbstractCollection" = true := by first | (simp [plainName, overriddenIn]; done) | decide +kernel
theorem ef_13 (m : MethodId) (x0 : Addr) : entryFrame m #[(.ref x0)] 1 = mkF m 0 #[.val (.ref x0)] [] := by first | (simp [entryFrame, mkF, argsToLocals, Value.category]; done) | rfl
def Q13 (Z : State) (a0 : Addr) (h0 : Heap) (n0 : Nat) (v : Option Value) (h : Heap) (L : List Loc) : Prop := v = none ∧ Fr n0 L ∧ h = h0
set_option maxRecDepth 65536 in
set_option maxHeartbeats 40000000 in
theorem rm13 (l : Launch) (Z : State) (aw : Array Value) (hw : ∀ d ∈ tables_1, d.before aw Z = true) (ws : List Jvm.Cond) (a0 : Addr) (h0 : Heap) (n0 : Nat) (Z0 : n0 ≤ h0.size) :
    MetFree l (⟨"java/util/AbstractCollection", "<init>", "()V"⟩ : MethodName) (head1 (Jvm.Cond.code (⟨"java/util/AbstractCollection", "<init>", "()V"⟩ : MethodName) jdk_22_method_1_code 1 none :: ws) ({ frames := 1, cells := 0, slots := 0, locals := 12 } : Room)) (fun a U => a = #[(.ref a0)] ∧ Z.Warmed39 U.vm ∧ U.heap = h0) (fun _ _ _ _ _ => True) (fun _ U o U' => ∃ v L, o = .returned v ∧ Q13 Z a0 h0 n0 v U'.heap L ∧ FrameEnd U o U' L ({ frames := 1, cells := 0, slots := 0, locals := 12 } : Room).cells ({ frames := 1, cells := 0, slots := 0, locals := 12 } : Room).slots) := by
  refine MetFree.of_bodySF (plainFor_of_name pn_13) hisR ?_
  intro p e s m args below meth c s₁ Bd hml0 hP hK
  obtain ⟨rfl, hZ, hh⟩ := hP
  have hx := Bd.exec
  have hby := Bd.bytes
  have hml : c.maxLocals = 1 := hml0
  have hown : s.vm.findClass "java/util/AbstractCollection" = some m.cls := findClass_of_methodNamed Bd.named
  have hnm := (name_of_methodNamed Bd.named Bd.method).1
  have X0 : Stand p l e ({ frames := 1, cells := 0, slots := 0, locals := 12 } : Room) s m #[(.ref a0)] below meth c s₁ [] 0 0 := Stand.of_body Bd
  have e0 : s₁.heap = h0 := by rw [← hh, Bd.state]; rfl
  have N0 := Fr.nil n0
  refine own_back (b := s₁.setTop (mkF m 0 #[.val (.ref a0)] [])) (fun t kt => castTop (ef_13 m a0) kt) ?_
  obtain ⟨T1, X1, e1, st1⟩ := initO X0 hx hZ hown (hw _ (List.mem_of_getElem? (i := 113) rfl)) (hw _ (List.mem_of_getElem? (i := 11) rfl)) (hw _ (List.mem_of_getElem? (i := 12) rfl)) e0 (g := (mkF m 1 #[.val (.ref a0)] [(.ref a0)])) rfl (by rw [hml]; rfl) rfl (hb hby d13_1) (by decide) (W := 0) (by show 2 * 0 + _ ≤ _; exact Nat.le_of_eq rfl) (by decide)
  refine own_back (b := T1.setTop (mkF m 4 #[.val (.ref a0)] [])) (fun t kt => ?_) ?_
  · show Steps p.tables e below (s₁.setTop (mkF m 0 #[.val (.ref a0)] [])) _
    refine XS.aloadN X0.here hx rfl (hb hby d13_0) rfl rfl ?_
    show Steps p.tables e below (s₁.setTop (mkF m 1 #[.val (.ref a0)] [(.ref a0)])) _
    refine st1 _ ?_
    exact kt
  obtain ⟨fs, hr, hrun, hended, hW, hsame⟩ := X1.leave (v := none) (fun _ => rfl) (BodyLoose.notSynchronized Bd)
  refine ⟨_, _, ?_, hrun, hended, _, _, rfl, ?_, ⟨_, rfl⟩, hW, hsame.mono (by decide) (by decide)⟩
  · show Steps p.tables e below (T1.setTop (mkF m 4 #[.val (.ref a0)] [])) _
    exact X1.returnOut hx Bd.returns (hb hby d13_4) hr
  · show Q13 Z a0 h0 n0 _ T1.heap _
    rw [e1]
    exact ⟨rfl, N0, rfl⟩
theorem d12_0 : decode jdk_39_method_1_code 0 = .ok (.aload_n 0, 1) := by decide +kernel
theorem d12_1 : decode jdk_39_method_1_code 1 = .ok (.invokespecial 1, 3) := by decide +kernel
theorem d12_4 : decode jdk_39_method_1_code 4 = .ok (.aload_n 0, 1) := by decide +kernel
theorem d12_5 : decode jdk_39_method_1_code 5 = .ok (.iconst 0, 1) := by decide +kernel
theorem d12_6 : decode jdk_39_method_1_code 6 = .ok (.putfield 7, 3) := by decide +kernel
theorem d12_9 : decode jdk_39_method_1_code 9 = .ok (.return_, 1) := by decide +kernel
theorem pn_12 : plainName "java/util/AbstractList" = true := by first | (simp [plainName, overriddenIn]; done) | decide +kernel
theorem pd_12_0 : parseMethodDescriptor "()V" = some ⟨[], none⟩ := by decide +kernel
theorem ef_12 (m : MethodId) (x0 : Addr) : entryFrame m #[(.ref x0)] 1 = mkF m 0 #[.val (.ref x0)] [] := by first | (simp [entryFrame, mkF, argsToLocals, Value.category]; done) | rfl
def Q12 (Z : State) (a0 : Addr) (h0 : Heap) (n0 : Nat) (v : Option Value) (h : Heap) (L : List Loc) : Prop := v = none ∧ Fr n0 L ∧ Keep h0 h [a0] ∧ Exa Z h a0 "java/util/ArrayList" ∧ Fld Z h a0 "java/util/AbstractList" "modCount" "I" (.int (0 : Int32)) ∧ Fld Z h a0 "java/util/ArrayList" "elementData" "[Ljava/lang/Object;" .null ∧ Fld Z h a0 "java/util/ArrayList" "size" "I" (.int (0 : Int32))
set_option maxRecDepth 65536 in
set_option maxHeartbeats 40000000 in
theorem rm12 (l : Launch) (Z : State) (aw : Array Value) (hw : ∀ d ∈ tables_1, d.before aw Z = true) (ws : List Jvm.Cond) (a0 : Addr) (h0 : Heap) (n0 : Nat) (Z0 : n0 ≤ h0.size) (F_modCount_a0 : Fld Z h0 a0 "java/util/AbstractList" "modCount" "I" (.int (0 : Int32))) (E_a0 : Exa Z h0 a0 "java/util/ArrayList") (g_a0 : n0 ≤ a0) (F_elementData_a0 : Fld Z h0 a0 "java/util/ArrayList" "elementData" "[Ljava/lang/Object;" .null) (F_size_a0 : Fld Z h0 a0 "java/util/ArrayList" "size" "I" (.int (0 : Int32))) :
    MetFree l (⟨"java/util/AbstractList", "<init>", "()V"⟩ : MethodName) (head1 (Jvm.Cond.code (⟨"java/util/AbstractList", "<init>", "()V"⟩ : MethodName) jdk_39_method_1_code 1 none :: ws) ({ frames := 2, cells := 0, slots := 0, locals := 24 } : Room)) (fun a U => a = #[(.ref a0)] ∧ Z.Warmed39 U.vm ∧ U.heap = h0) (fun _ _ _ _ _ => True) (fun _ U o U' => ∃ v L, o = .returned v ∧ Q12 Z a0 h0 n0 v U'.heap L ∧ FrameEnd U o U' L ({ frames := 2, cells := 0, slots := 0, locals := 24 } : Room).cells ({ frames := 2, cells := 0, slots := 0, locals := 24 } : Room).slots) := by
  refine MetFree.of_bodySF (plainFor_of_name pn_12) hisR ?_
  intro p e s m args below meth c s₁ Bd hml0 hP hK
  obtain ⟨rfl, hZ, hh⟩ := hP
  have hx := Bd.exec
  have hby := Bd.bytes
  have hml : c.maxLocals = 1 := hml0
  have hown : s.vm.findClass "java/util/AbstractList" = some m.cls := findClass_of_methodNamed Bd.named
  have hnm := (name_of_methodNamed Bd.named Bd.method).1
  have X0 : Stand p l e ({ frames := 2, cells := 0, slots := 0, locals := 24 } : Room) s m #[(.ref a0)] below meth c s₁ [] 0 0 := Stand.of_body Bd
  have e0 : s₁.heap = h0 := by rw [← hh, Bd.state]; rfl
  have N0 := Fr.nil n0
  refine own_back (b := s₁.setTop (mkF m 0 #[.val (.ref a0)] [])) (fun t kt => castTop (ef_12 m a0) kt) ?_
  obtain ⟨_, _, ⟨T1, L1, k1, n1⟩, -, X1, ⟨Lc1, hQ1, l1, y1, z1⟩, st1⟩ := X0.specialBack hx (y := (⟨"java/util/AbstractCollection", "<init>", "()V"⟩ : MethodName)) rfl hown (mvT hZ (hw _ (List.mem_of_getElem? (i := 107) rfl))) (mvT hZ (hw _ (List.mem_of_getElem? (i := 108) rfl))) (mvT hZ (hw _ (List.mem_of_getElem? (i := 112) rfl))) (by decide) (backOf (W := 0) (rm13 l Z aw hw [] a0 h0 n0 Z0 ) hZ (hw _ (List.mem_of_getElem? (i := 112) rfl)) (hw _ (List.mem_of_getElem? (i := 111) rfl)) (by decide) (by decide)) (g := (mkF m 1 #[.val (.ref a0)] [(.ref a0)])) rfl (by rw [hml]; rfl) (Steps.refl _) (a := a0) (argsL := []) (rest := []) (lenOf pd_12_0 rfl) rfl (by show 2 * 0 + _ ≤ _; exact Nat.le_of_eq rfl) (hb hby d12_1) (fun _ _ => ⟨rfl, e0, (by decide : 0 + 0 ≤ _), (by decide : 0 + 0 ≤ _)⟩)
  dsimp only [Pt.U, Pt.locs, Pt.cells, Pt.slots] at X1 l1 y1 z1 st1 hQ1
  rw [l1, y1, z1] at X1
  obtain ⟨rfl, Nq1, e1⟩ := hQ1
  have N1 := Fr.app N0 Nq1
  obtain ⟨T2, h2, X2, e2, W2, st2⟩ := putF X1 hx hZ hown (host := "") (Or.inl (hw _ (List.mem_of_getElem? (i := 114) rfl))) Via.refl e1 F_modCount_a0 E_a0 (Or.inl (hw _ (List.mem_of_getElem? (i := 115) rfl))) (hw _ (List.mem_of_getElem? (i := 96) rfl)) (ty := .int) (by decide) rfl rfl (g := (mkF m 6 #[.val (.ref a0)] [(.int (0 : Int32)), (.ref a0)])) rfl rfl (hb hby d12_6)
  have Fw2 := F_modCount_a0.same W2
  have f2_0 := E_a0.wr W2
  have f2_1 := F_elementData_a0.other W2 (Or.inr (slot_ne (Or.inl (hw _ (List.mem_of_getElem? (i := 118) rfl))) (Or.inl (hw _ (List.mem_of_getElem? (i := 115) rfl))) (by decide) (t := (.array (.object "java/lang/Object"))) (t' := .int) (by decide) (by decide)))
  have f2_2 := F_size_a0.other W2 (Or.inr (slot_ne (Or.inl (hw _ (List.mem_of_getElem? (i := 156) rfl))) (Or.inl (hw _ (List.mem_of_getElem? (i := 115) rfl))) (by decide) (t := .int) (t' := .int) (by decide) (by decide)))
  have K2 : Keep h0 h2 [a0] := (Keep.refl h0 _).wr W2 (Or.inl (List.mem_of_getElem? (i := 0) rfl))
  have Z2 : n0 ≤ h2.size := Nat.le_trans Z0 (Keep.of_wr W2).1
  have N2 := Fr.snoc X2 N1 g_a0
  refine own_back (b := T2.setTop (mkF m 9 #[.val (.ref a0)] [])) (fun t kt => ?_) ?_
  · show Steps p.tables e below (s₁.setTop (mkF m 0 #[.val (.ref a0)] [])) _
    refine XS.aloadN X0.here hx rfl (hb hby d12_0) rfl rfl ?_
    show Steps p.tables e below (s₁.setTop (mkF m 1 #[.val (.ref a0)] [(.ref a0)])) _
    refine st1.trans ?_
    refine XS.aloadN X1.here hx rfl (hb hby d12_4) rfl rfl ?_
    refine XS.iconst X1.here hx rfl (hb hby d12_5) ?_
    show Steps p.tables e below (T1.setTop (mkF m 6 #[.val (.ref a0)] [(.int (0 : Int32)), (.ref a0)])) _
    refine st2 _ ?_
    exact kt
  obtain ⟨fs, hr, hrun, hended, hW, hsame⟩ := X2.leave (v := none) (fun _ => rfl) (BodyLoose.notSynchronized Bd)
  refine ⟨_, _, ?_, hrun, hended, _, _, rfl, ?_, ⟨_, rfl⟩, hW, hsame.mono (by decide) (by decide)⟩
  · show Steps p.tables e below (T2.setTop (mkF m 9 #[.val (.ref a0)] [])) _
    exact X2.returnOut hx Bd.returns (hb hby d12_9) hr
  · show Q12 Z a0 h0 n0 _ T2.heap _
    rw [e2]
    exact ⟨rfl, N2, K2, f2_0, Fw2, f2_1, f2_2⟩
theorem d11_0 : decode jdk_38_method_2_code 0 = .ok (.aload_n 0, 1) := by decide +kernel
theorem d11_1 : decode jdk_38_method_2_code 1 = .ok (.invokespecial 1, 3) := by decide +kernel
theorem d11_4 : decode jdk_38_method_2_code 4 = .ok (.aload_n 0, 1) := by decide +kernel
theorem d11_5 : decode jdk_38_method_2_code 5 = .ok (.getstatic 39, 3) := by decide +kernel
theorem d11_8 : decode jdk_38_method_2_code 8 = .ok (.putfield 9, 3) := by decide +kernel
theorem d11_11 : decode jdk_38_method_2_code 11 = .ok (.return_, 1) := by decide +kernel
theorem pn_11 : plainName "java/util/ArrayList" = true := by first | (simp [plainName, overriddenIn]; done) | decide +kernel
theorem pd_11_0 : parseMethodDescriptor "()V" = some ⟨[], none⟩ := by decide +kernel
theorem ef_11 (m : MethodId) (x0 : Addr) : entryFrame m #[(.ref x0)] 1 = mkF m 0 #[.val (.ref x0)] [] := by first | (simp [entryFrame, mkF, argsToLocals, Value.category]; done) | rfl
def Q11 (Z : State) (a0 : Addr) (wd : Addr) (h0 : Heap) (n0 : Nat) (v : Option Value) (h : Heap) (L : List Loc) : Prop := v = none ∧ Fr n0 L ∧ Keep h0 h [a0] ∧ Exa Z h a0 "java/util/ArrayList" ∧ Fld Z h a0 "java/util/AbstractList" "modCount" "I" (.int (0 : Int32)) ∧ Fld Z h a0 "java/util/ArrayList" "size" "I" (.int (0 : Int32)) ∧ Fld Z h a0 "java/util/ArrayList" "elementData" "[Ljava/lang/Object;" (.ref wd)
set_option maxRecDepth 65536 in
set_option maxHeartbeats 40000000 in
theorem rm11 (l : Launch) (Z : State) (aw : Array Value) (hw : ∀ d ∈ tables_1, d.before aw Z = true) (ws : List Jvm.Cond) (a0 : Addr) (wd : Addr) (h0 : Heap) (n0 : Nat) (Z0 : n0 ≤ h0.size) (F_modCount_a0 : Fld Z h0 a0 "java/util/AbstractList" "modCount" "I" (.int (0 : Int32))) (F_size_a0 : Fld Z h0 a0 "java/util/ArrayList" "size" "I" (.int (0 : Int32))) (F_elementData_a0 : Fld Z h0 a0 "java/util/ArrayList" "elementData" "[Ljava/lang/Object;" .null) (E_a0 : Exa Z h0 a0 "java/util/ArrayList") (g_a0 : n0 ≤ a0) (S_DEFAULTCAPACITY_EMPTY_ELEMENTDATA : Sta Z h0 "java/util/ArrayList" "DEFAULTCAPACITY_EMPTY_ELEMENTDATA" "[Ljava/lang/Object;" (.ref wd)) :
    MetFree l (⟨"java/util/ArrayList", "<init>", "()V"⟩ : MethodName) (head1 (Jvm.Cond.code (⟨"java/util/ArrayList", "<init>", "()V"⟩ : MethodName) jdk_38_method_2_code 1 none :: ws) ({ frames := 3, cells := 0, slots := 0, locals := 36 } : Room)) (fun a U => a = #[(.ref a0)] ∧ Z.Warmed39 U.vm ∧ U.heap = h0) (fun _ _ _ _ _ => True) (fun _ U o U' => ∃ v L, o = .returned v ∧ Q11 Z a0 wd h0 n0 v U'.heap L ∧ FrameEnd U o U' L ({ frames := 3, cells := 0, slots := 0, locals := 36 } : Room).cells ({ frames := 3, cells := 0, slots := 0, locals := 36 } : Room).slots) := by
  refine MetFree.of_bodySF (plainFor_of_name pn_11) hisR ?_
  intro p e s m args below meth c s₁ Bd hml0 hP hK
  obtain ⟨rfl, hZ, hh⟩ := hP
  have hx := Bd.exec
  have hby := Bd.bytes
  have hml : c.maxLocals = 1 := hml0
  have hown : s.vm.findClass "java/util/ArrayList" = some m.cls := findClass_of_methodNamed Bd.named
  have hnm := (name_of_methodNamed Bd.named Bd.method).1
  have X0 : Stand p l e ({ frames := 3, cells := 0, slots := 0, locals := 36 } : Room) s m #[(.ref a0)] below meth c s₁ [] 0 0 := Stand.of_body Bd
  have e0 : s₁.heap = h0 := by rw [← hh, Bd.state]; rfl
  have N0 := Fr.nil n0
  refine own_back (b := s₁.setTop (mkF m 0 #[.val (.ref a0)] [])) (fun t kt => castTop (ef_11 m a0) kt) ?_
  obtain ⟨_, _, ⟨T1, L1, k1, n1⟩, -, X1, ⟨Lc1, hQ1, l1, y1, z1⟩, st1⟩ := X0.specialBack hx (y := (⟨"java/util/AbstractList", "<init>", "()V"⟩ : MethodName)) rfl hown (mvT hZ (hw _ (List.mem_of_getElem? (i := 101) rfl))) (mvT hZ (hw _ (List.mem_of_getElem? (i := 102) rfl))) (mvT hZ (hw _ (List.mem_of_getElem? (i := 106) rfl))) (by decide) (backOf (W := 0) (rm12 l Z aw hw [] a0 h0 n0 Z0 F_modCount_a0 E_a0 g_a0 F_elementData_a0 F_size_a0) hZ (hw _ (List.mem_of_getElem? (i := 106) rfl)) (hw _ (List.mem_of_getElem? (i := 105) rfl)) (by decide) (by decide)) (g := (mkF m 1 #[.val (.ref a0)] [(.ref a0)])) rfl (by rw [hml]; rfl) (Steps.refl _) (a := a0) (argsL := []) (rest := []) (lenOf pd_11_0 rfl) rfl (by show 2 * 0 + _ ≤ _; exact Nat.le_of_eq rfl) (hb hby d11_1) (fun _ _ => ⟨rfl, e0, (by decide : 0 + 0 ≤ _), (by decide : 0 + 0 ≤ _)⟩)
  dsimp only [Pt.U, Pt.locs, Pt.cells, Pt.slots] at X1 l1 y1 z1 st1 hQ1
  rw [l1, y1, z1] at X1
  obtain ⟨rfl, Nq1, Kq1, P1_0, P1_1, P1_2, P1_3⟩ := hQ1
  have N1 := Fr.app N0 Nq1
  have f1_0 := own_sta_keepE S_DEFAULTCAPACITY_EMPTY_ELEMENTDATA E_a0 Kq1
  have K1 : Keep h0 T1.heap [a0] := (Keep.refl h0 _).trans Kq1 (allS (Or.inl (List.mem_of_getElem? (i := 0) rfl)) all0)
  have Z1 : n0 ≤ T1.heap.size := Nat.le_trans Z0 Kq1.1
  obtain ⟨T2, X2, e2, st2⟩ := getS2 X1 hx hZ hown (host := "") (Or.inl (hw _ (List.mem_of_getElem? (i := 116) rfl))) Via.refl rfl f1_0 (g := (mkF m 5 #[.val (.ref a0)] [(.ref a0)])) rfl (hb hby d11_5)
  obtain ⟨T3, h3, X3, e3, W3, st3⟩ := putF X2 hx hZ hown (host := "") (Or.inl (hw _ (List.mem_of_getElem? (i := 117) rfl))) Via.refl e2 P1_2 P1_0 (Or.inl (hw _ (List.mem_of_getElem? (i := 118) rfl))) (hw _ (List.mem_of_getElem? (i := 96) rfl)) (ty := (.array (.object "java/lang/Object"))) (by decide) rfl rfl (g := (mkF m 8 #[.val (.ref a0)] [(.ref wd), (.ref a0)])) rfl rfl (hb hby d11_8)
  have Fw3 := P1_2.same W3
  have f3_0 := f1_0.wr W3
  have f3_1 := P1_0.wr W3
  have f3_2 := P1_1.other W3 (Or.inr (slot_ne (Or.inl (hw _ (List.mem_of_getElem? (i := 115) rfl))) (Or.inl (hw _ (List.mem_of_getElem? (i := 118) rfl))) (by decide) (t := .int) (t' := (.array (.object "java/lang/Object"))) (by decide) (by decide)))
  have f3_3 := P1_3.other W3 (Or.inr (slot_ne (Or.inl (hw _ (List.mem_of_getElem? (i := 156) rfl))) (Or.inl (hw _ (List.mem_of_getElem? (i := 118) rfl))) (by decide) (t := .int) (t' := (.array (.object "java/lang/Object"))) (by decide) (by decide)))
  have K3 : Keep h0 h3 [a0] := K1.wr W3 (Or.inl (List.mem_of_getElem? (i := 0) rfl))
  have Z3 : n0 ≤ h3.size := Nat.le_trans Z1 (Keep.of_wr W3).1
  have N3 := Fr.snoc X3 N1 g_a0
  refine own_back (b := T3.setTop (mkF m 11 #[.val (.ref a0)] [])) (fun t kt => ?_) ?_
  · show Steps p.tables e below (s₁.setTop (mkF m 0 #[.val (.ref a0)] [])) _
    refine XS.aloadN X0.here hx rfl (hb hby d11_0) rfl rfl ?_
    show Steps p.tables e below (s₁.setTop (mkF m 1 #[.val (.ref a0)] [(.ref a0)])) _
    refine st1.trans ?_
    refine XS.aloadN X1.here hx rfl (hb hby d11_4) rfl rfl ?_
    show Steps p.tables e below (T1.setTop (mkF m 5 #[.val (.ref a0)] [(.ref a0)])) _
    refine st2 _ ?_
    show Steps p.tables e below (T2.setTop (mkF m 8 #[.val (.ref a0)] [(.ref wd), (.ref a0)])) _
    refine st3 _ ?_
    exact kt
  obtain ⟨fs, hr, hrun, hended, hW, hsame⟩ := X3.leave (v := none) (fun _ => rfl) (BodyLoose.notSynchronized Bd)
  refine ⟨_, _, ?_, hrun, hended, _, _, rfl, ?_, ⟨_, rfl⟩, hW, hsame.mono (by decide) (by decide)⟩
  · show Steps p.tables e below (T3.setTop (mkF m 11 #[.val (.ref a0)] [])) _
    exact X3.returnOut hx Bd.returns (hb hby d11_11) hr
  · show Q11 Z a0 wd h0 n0 _ T3.heap _
    rw [e3]
    exact ⟨rfl, N3, K3, f3_1, f3_2, f3_3, Fw3⟩
theorem d32_0 : decode jdk_18_method_1_code 0 = .ok (.aload_n 0, 1) := by decide +kernel
theorem d32_1 : decode jdk_18_method_1_code 1 = .ok (.invokespecial 1, 3) := by decide +kernel
theorem d32_4 : decode jdk_18_method_1_code 4 = .ok (.return_, 1) := by decide +kernel
theorem pn_32 : plainName "java/lang/Number" = true := by first | (simp [plainName, overriddenIn]; done) | decide +kernel
theorem ef_32 (m : MethodId) (x0 : Addr) : entryFrame m #[(.ref x0)] 1 = mkF m 0 #[.val (.ref x0)] [] := by first | (simp [entryFrame, mkF, argsToLocals, Value.category]; done) | rfl
def Q32 (Z : State) (a0 : Addr) (h0 : Heap) (n0 : Nat) (v : Option Value) (h : Heap) (L : List Loc) : Prop := v = none ∧ Fr n0 L ∧ h = h0
set_option maxRecDepth 65536 in
set_option maxHeartbeats 40000000 in
theorem rm32 (l : Launch) (Z : State) (aw : Array Value) (hw : ∀ d ∈ tables_1, d.before aw Z = true) (ws : List Jvm.Cond) (a0 : Addr) (h0 : Heap) (n0 : Nat) (Z0 : n0 ≤ h0.size) :
    MetFree l (⟨"java/lang/Number", "<init>", "()V"⟩ : MethodName) (head1 (Jvm.Cond.code (⟨"java/lang/Number", "<init>", "()V"⟩ : MethodName) jdk_18_method_1_code 1 none :: ws) ({ frames := 1, cells := 0, slots := 0, locals := 12 } : Room)) (fun a U => a = #[(.ref a0)] ∧ Z.Warmed39 U.vm ∧ U.heap = h0) (fun _ _ _ _ _ => True) (fun _ U o U' => ∃ v L, o = .returned v ∧ Q32 Z a0 h0 n0 v U'.heap L ∧ FrameEnd U o U' L ({ frames := 1, cells := 0, slots := 0, locals := 12 } : Room).cells ({ frames := 1, cells := 0, slots := 0, locals := 12 } : Room).slots) := by
  refine MetFree.of_bodySF (plainFor_of_name pn_32) hisR ?_
  intro p e s m args below meth c s₁ Bd hml0 hP hK
  obtain ⟨rfl, hZ, hh⟩ := hP
  have hx := Bd.exec
  have hby := Bd.bytes
  have hml : c.maxLocals = 1 := hml0
  have hown : s.vm.findClass "java/lang/Number" = some m.cls := findClass_of_methodNamed Bd.named
  have hnm := (name_of_methodNamed Bd.named Bd.method).1
  have X0 : Stand p l e ({ frames := 1, cells := 0, slots := 0, locals := 12 } : Room) s m #[(.ref a0)] below meth c s₁ [] 0 0 := Stand.of_body Bd
  have e0 : s₁.heap = h0 := by rw [← hh, Bd.state]; rfl
  have N0 := Fr.nil n0
  refine own_back (b := s₁.setTop (mkF m 0 #[.val (.ref a0)] [])) (fun t kt => castTop (ef_32 m a0) kt) ?_
  obtain ⟨T1, X1, e1, st1⟩ := initO X0 hx hZ hown (hw _ (List.mem_of_getElem? (i := 253) rfl)) (hw _ (List.mem_of_getElem? (i := 11) rfl)) (hw _ (List.mem_of_getElem? (i := 12) rfl)) e0 (g := (mkF m 1 #[.val (.ref a0)] [(.ref a0)])) rfl (by rw [hml]; rfl) rfl (hb hby d32_1) (by decide) (W := 0) (by show 2 * 0 + _ ≤ _; exact Nat.le_of_eq rfl) (by decide)
  refine own_back (b := T1.setTop (mkF m 4 #[.val (.ref a0)] [])) (fun t kt => ?_) ?_
  · show Steps p.tables e below (s₁.setTop (mkF m 0 #[.val (.ref a0)] [])) _
    refine XS.aloadN X0.here hx rfl (hb hby d32_0) rfl rfl ?_
    show Steps p.tables e below (s₁.setTop (mkF m 1 #[.val (.ref a0)] [(.ref a0)])) _
    refine st1 _ ?_
    exact kt
  obtain ⟨fs, hr, hrun, hended, hW, hsame⟩ := X1.leave (v := none) (fun _ => rfl) (BodyLoose.notSynchronized Bd)
  refine ⟨_, _, ?_, hrun, hended, _, _, rfl, ?_, ⟨_, rfl⟩, hW, hsame.mono (by decide) (by decide)⟩
  · show Steps p.tables e below (T1.setTop (mkF m 4 #[.val (.ref a0)] [])) _
    exact X1.returnOut hx Bd.returns (hb hby d32_4) hr
  · show Q32 Z a0 h0 n0 _ T1.heap _
    rw [e1]
    exact ⟨rfl, N0, rfl⟩
theorem d31_0 : decode jdk_33_method_23_code 0 = .ok (.aload_n 0, 1) := by decide +kernel
theorem d31_1 : decode jdk_33_method_23_code 1 = .ok (.invokespecial 202, 3) := by decide +kernel
theorem d31_4 : decode jdk_33_method_23_code 4 = .ok (.aload_n 0, 1) := by decide +kernel
theorem d31_5 : decode jdk_33_method_23_code 5 = .ok (.iload_n 1, 1) := by decide +kernel
theorem d31_6 : decode jdk_33_method_23_code 6 = .ok (.putfield 205, 3) := by decide +kernel
theorem d31_9 : decode jdk_33_method_23_code 9 = .ok (.return_, 1) := by decide +kernel
theorem pn_31 : plainName "java/lang/Integer" = true := by first | (simp [plainName, overriddenIn]; done) | decide +kernel
theorem pd_31_0 : parseMethodDescriptor "()V" = some ⟨[], none⟩ := by decide +kernel
theorem ef_31 (m : MethodId) (x0 : Addr) (x1 : Int32) : entryFrame m #[(.ref x0), (.int x1)] 2 = mkF m 0 #[.val (.ref x0), .val (.int x1)] [] := by first | (simp [entryFrame, mkF, argsToLocals, Value.category]; done) | rfl
def Q31 (Z : State) (a0 : Addr) (p1 : Int32) (h0 : Heap) (n0 : Nat) (v : Option Value) (h : Heap) (L : List Loc) : Prop := v = none ∧ Fr n0 L ∧ Keep h0 h [a0] ∧ Exa Z h a0 "java/lang/Integer" ∧ Fld Z h a0 "java/lang/Integer" "value" "I" (.int p1)
set_option maxRecDepth 65536 in
set_option maxHeartbeats 40000000 in
theorem rm31 (l : Launch) (Z : State) (aw : Array Value) (hw : ∀ d ∈ tables_1, d.before aw Z = true) (ws : List Jvm.Cond) (a0 : Addr) (p1 : Int32) (h0 : Heap) (n0 : Nat) (Z0 : n0 ≤ h0.size) (F_value_a0 : Fld Z h0 a0 "java/lang/Integer" "value" "I" (.int (0 : Int32))) (E_a0 : Exa Z h0 a0 "java/lang/Integer") (g_a0 : n0 ≤ a0) :
    MetFree l (⟨"java/lang/Integer", "<init>", "(I)V"⟩ : MethodName) (head1 (Jvm.Cond.code (⟨"java/lang/Integer", "<init>", "(I)V"⟩ : MethodName) jdk_33_method_23_code 2 none :: ws) ({ frames := 2, cells := 0, slots := 0, locals := 24 } : Room)) (fun a U => a = #[(.ref a0), (.int p1)] ∧ Z.Warmed39 U.vm ∧ U.heap = h0) (fun _ _ _ _ _ => True) (fun _ U o U' => ∃ v L, o = .returned v ∧ Q31 Z a0 p1 h0 n0 v U'.heap L ∧ FrameEnd U o U' L ({ frames := 2, cells := 0, slots := 0, locals := 24 } : Room).cells ({ frames := 2, cells := 0, slots := 0, locals := 24 } : Room).slots) := by
  refine MetFree.of_bodySF (plainFor_of_name pn_31) hisR ?_
  intro p e s m args below meth c s₁ Bd hml0 hP hK
  obtain ⟨rfl, hZ, hh⟩ := hP
  have hx := Bd.exec
  have hby := Bd.bytes
  have hml : c.maxLocals = 2 := hml0
  have hown : s.vm.findClass "java/lang/Integer" = some m.cls := findClass_of_methodNamed Bd.named
  have hnm := (name_of_methodNamed Bd.named Bd.method).1
  have X0 : Stand p l e ({ frames := 2, cells := 0, slots := 0, locals := 24 } : Room) s m #[(.ref a0), (.int p1)] below meth c s₁ [] 0 0 := Stand.of_body Bd
  have e0 : s₁.heap = h0 := by rw [← hh, Bd.state]; rfl
  have N0 := Fr.nil n0
  refine own_back (b := s₁.setTop (mkF m 0 #[.val (.ref a0), .val (.int p1)] [])) (fun t kt => castTop (ef_31 m a0 p1) kt) ?_
  obtain ⟨_, _, ⟨T1, L1, k1, n1⟩, -, X1, ⟨Lc1, hQ1, l1, y1, z1⟩, st1⟩ := X0.specialBack hx (y := (⟨"java/lang/Number", "<init>", "()V"⟩ : MethodName)) rfl hown (mvT hZ (hw _ (List.mem_of_getElem? (i := 247) rfl))) (mvT hZ (hw _ (List.mem_of_getElem? (i := 248) rfl))) (mvT hZ (hw _ (List.mem_of_getElem? (i := 252) rfl))) (by decide) (backOf (W := 0) (rm32 l Z aw hw [] a0 h0 n0 Z0 ) hZ (hw _ (List.mem_of_getElem? (i := 252) rfl)) (hw _ (List.mem_of_getElem? (i := 251) rfl)) (by decide) (by decide)) (g := (mkF m 1 #[.val (.ref a0), .val (.int p1)] [(.ref a0)])) rfl (by rw [hml]; rfl) (Steps.refl _) (a := a0) (argsL := []) (rest := []) (lenOf pd_31_0 rfl) rfl (by show 2 * 0 + _ ≤ _; exact Nat.le_of_eq rfl) (hb hby d31_1) (fun _ _ => ⟨rfl, e0, (by decide : 0 + 0 ≤ _), (by decide : 0 + 0 ≤ _)⟩)
  dsimp only [Pt.U, Pt.locs, Pt.cells, Pt.slots] at X1 l1 y1 z1 st1 hQ1
  rw [l1, y1, z1] at X1
  obtain ⟨rfl, Nq1, e1⟩ := hQ1
  have N1 := Fr.app N0 Nq1
  obtain ⟨T2, h2, X2, e2, W2, st2⟩ := putF X1 hx hZ hown (host := "") (Or.inl (hw _ (List.mem_of_getElem? (i := 240) rfl))) Via.refl e1 F_value_a0 E_a0 (Or.inr ⟨(hw _ (List.mem_of_getElem? (i := 241) rfl)), rfl, hnm⟩) (hw _ (List.mem_of_getElem? (i := 243) rfl)) (ty := .int) (by decide) rfl rfl (g := (mkF m 6 #[.val (.ref a0), .val (.int p1)] [(.int p1), (.ref a0)])) rfl rfl (hb hby d31_6)
  have Fw2 := F_value_a0.same W2
  have f2_0 := E_a0.wr W2
  have K2 : Keep h0 h2 [a0] := (Keep.refl h0 _).wr W2 (Or.inl (List.mem_of_getElem? (i := 0) rfl))
  have Z2 : n0 ≤ h2.size := Nat.le_trans Z0 (Keep.of_wr W2).1
  have N2 := Fr.snoc X2 N1 g_a0
  refine own_back (b := T2.setTop (mkF m 9 #[.val (.ref a0), .val (.int p1)] [])) (fun t kt => ?_) ?_
  · show Steps p.tables e below (s₁.setTop (mkF m 0 #[.val (.ref a0), .val (.int p1)] [])) _
    refine XS.aloadN X0.here hx rfl (hb hby d31_0) rfl rfl ?_
    show Steps p.tables e below (s₁.setTop (mkF m 1 #[.val (.ref a0), .val (.int p1)] [(.ref a0)])) _
    refine st1.trans ?_
    refine XS.aloadN X1.here hx rfl (hb hby d31_4) rfl rfl ?_
    refine XS.iloadN X1.here hx rfl (hb hby d31_5) rfl ?_
    show Steps p.tables e below (T1.setTop (mkF m 6 #[.val (.ref a0), .val (.int p1)] [(.int p1), (.ref a0)])) _
    refine st2 _ ?_
    exact kt
  obtain ⟨fs, hr, hrun, hended, hW, hsame⟩ := X2.leave (v := none) (fun _ => rfl) (BodyLoose.notSynchronized Bd)
  refine ⟨_, _, ?_, hrun, hended, _, _, rfl, ?_, ⟨_, rfl⟩, hW, hsame.mono (by decide) (by decide)⟩
  · show Steps p.tables e below (T2.setTop (mkF m 9 #[.val (.ref a0), .val (.int p1)] [])) _
    exact X2.returnOut hx Bd.returns (hb hby d31_9) hr
  · show Q31 Z a0 p1 h0 n0 _ T2.heap _
    rw [e2]
    exact ⟨rfl, N2, K2, f2_0, Fw2⟩
theorem d18_0 : decode jdk_33_method_22_code 0 = .ok (.iload_n 0, 1) := by decide +kernel
theorem d18_1 : decode jdk_33_method_22_code 1 = .ok (.bipush (-128), 2) := by decide +kernel
theorem d18_3 : decode jdk_33_method_22_code 3 = .ok (.if_icmp .lt 20, 3) := by decide +kernel
theorem d18_6 : decode jdk_33_method_22_code 6 = .ok (.iload_n 0, 1) := by decide +kernel
theorem d18_7 : decode jdk_33_method_22_code 7 = .ok (.getstatic 191, 3) := by decide +kernel
theorem d18_10 : decode jdk_33_method_22_code 10 = .ok (.if_icmp .gt 13, 3) := by decide +kernel
theorem d18_13 : decode jdk_33_method_22_code 13 = .ok (.getstatic 195, 3) := by decide +kernel
theorem d18_16 : decode jdk_33_method_22_code 16 = .ok (.iload_n 0, 1) := by decide +kernel
theorem d18_17 : decode jdk_33_method_22_code 17 = .ok (.sipush 128, 3) := by decide +kernel
theorem d18_20 : decode jdk_33_method_22_code 20 = .ok (.iadd, 1) := by decide +kernel
theorem d18_21 : decode jdk_33_method_22_code 21 = .ok (.aaload, 1) := by decide +kernel
theorem d18_22 : decode jdk_33_method_22_code 22 = .ok (.areturn, 1) := by decide +kernel
theorem d18_23 : decode jdk_33_method_22_code 23 = .ok (.new 1, 3) := by decide +kernel
theorem d18_26 : decode jdk_33_method_22_code 26 = .ok (.dup, 1) := by decide +kernel
theorem d18_27 : decode jdk_33_method_22_code 27 = .ok (.iload_n 0, 1) := by decide +kernel
theorem d18_28 : decode jdk_33_method_22_code 28 = .ok (.invokespecial 199, 3) := by decide +kernel
theorem d18_31 : decode jdk_33_method_22_code 31 = .ok (.areturn, 1) := by decide +kernel
theorem pn_18 : plainName "java/lang/Integer" = true := by first | (simp [plainName, overriddenIn]; done) | decide +kernel
theorem pd_18_0 : parseMethodDescriptor "(I)V" = some ⟨[.int], none⟩ := by decide +kernel
theorem ef_18 (m : MethodId) (x0 : Int32) : entryFrame m #[(.int x0)] 1 = mkF m 0 #[.val (.int x0)] [] := by first | (simp [entryFrame, mkF, argsToLocals, Value.category]; done) | rfl
def Q18 (Z : State) (p0 : Int32) (wc : Addr) (h0 : Heap) (n0 : Nat) (v : Option Value) (h : Heap) (L : List Loc) : Prop := ∃ b : Addr, v = some (.ref b) ∧ Fr n0 L ∧ Keep h0 h [] ∧ Exa Z h b "java/lang/Integer" ∧ Fld Z h b "java/lang/Integer" "value" "I" (.int p0)
set_option maxRecDepth 65536 in
set_option maxHeartbeats 40000000 in
theorem rm18 (l : Launch) (Z : State) (aw : Array Value) (hw : ∀ d ∈ tables_1, d.before aw Z = true) (ws : List Jvm.Cond) (p0 : Int32) (wc : Addr) (h0 : Heap) (n0 : Nat) (Z0 : n0 ≤ h0.size) (S_high : Sta Z h0 "java/lang/Integer$IntegerCache" "high" "I" (.int (127 : Int32))) (S_cache : Sta Z h0 "java/lang/Integer$IntegerCache" "cache" "[Ljava/lang/Integer;" (.ref wc)) (X_ic : ICache Z h0 wc) :
    MetFree l (⟨"java/lang/Integer", "valueOf", "(I)Ljava/lang/Integer;"⟩ : MethodName) (head1 (Jvm.Cond.code (⟨"java/lang/Integer", "valueOf", "(I)Ljava/lang/Integer;"⟩ : MethodName) jdk_33_method_22_code 1 (some (.object "java/lang/Integer")) :: ws) ({ frames := 3, cells := 1, slots := 1, locals := 38 } : Room)) (fun a U => a = #[(.int p0)] ∧ Z.Warmed39 U.vm ∧ U.heap = h0) (fun _ _ _ _ _ => True) (fun _ U o U' => ∃ v L, o = .returned v ∧ Q18 Z p0 wc h0 n0 v U'.heap L ∧ FrameEnd U o U' L ({ frames := 3, cells := 1, slots := 1, locals := 38 } : Room).cells ({ frames := 3, cells := 1, slots := 1, locals := 38 } : Room).slots) := by
  refine MetFree.of_bodySF (plainFor_of_name pn_18) hisR ?_
  intro p e s m args below meth c s₁ Bd hml0 hP hK
  obtain ⟨rfl, hZ, hh⟩ := hP
  have hx := Bd.exec
  have hby := Bd.bytes
  have hml : c.maxLocals = 1 := hml0
  have hown : s.vm.findClass "java/lang/Integer" = some m.cls := findClass_of_methodNamed Bd.named
  have hnm := (name_of_methodNamed Bd.named Bd.method).1
  have X0 : Stand p l e ({ frames := 3, cells := 1, slots := 1, locals := 38 } : Room) s m #[(.int p0)] below meth c s₁ [] 0 0 := Stand.of_body Bd
  have e0 : s₁.heap = h0 := by rw [← hh, Bd.state]; rfl
  have N0 := Fr.nil n0
  refine own_back (b := s₁.setTop (mkF m 0 #[.val (.int p0)] [])) (fun t kt => castTop (ef_18 m p0) kt) ?_
  refine own_back (b := s₁.setTop (mkF m 3 #[.val (.int p0)] [(.int (-128 : Int32)), (.int p0)])) (fun t kt => ?_) ?_
  · show Steps p.tables e below (s₁.setTop (mkF m 0 #[.val (.int p0)] [])) _
    refine XS.iloadN X0.here hx rfl (hb hby d18_0) rfl ?_
    refine XS.bipush X0.here hx rfl (hb hby d18_1) ?_
    exact kt
  by_cases hc3_1 : p0 < (-128 : Int32)
  · obtain ⟨T2, h2, X2, e2, E2, A2, D2, -, st2⟩ := newO X0 hx hZ hown (hw _ (List.mem_of_getElem? (i := 242) rfl)) (hw _ (List.mem_of_getElem? (i := 243) rfl)) (hw _ (List.mem_of_getElem? (i := 143) rfl)) e0 (g := (mkF m 23 #[.val (.int p0)] [])) rfl (hb hby d18_23) (by decide) (by decide)
    obtain ⟨b2, g2⟩ : ∃ z, z = h0.size := ⟨_, rfl⟩
    rw [← g2] at A2 D2 st2
    have lo2 : n0 ≤ b2 := Nat.le_trans Z0 (Nat.le_of_eq g2.symm)
    have sz2 : h0.size ≤ b2 := Nat.le_trans (Nat.le_refl _) (Nat.le_of_eq g2.symm)
    have f2_0 := S_high.ext E2
    have f2_1 := S_cache.ext E2
    have K2 : Keep h0 h2 [] := (Keep.refl h0 _).ext E2
    have Z2 : n0 ≤ h2.size := Nat.le_trans Z0 E2.1
    have F2_value : Fld Z h2 b2 "java/lang/Integer" "value" "I" (.int (0 : Int32)) := D2 (Or.inr (hw _ (List.mem_of_getElem? (i := 241) rfl))) (ty := .int) (by decide)
    obtain ⟨_, _, ⟨T3, L3, k3, n3⟩, -, X3, ⟨Lc3, hQ3, l3, y3, z3⟩, st3⟩ := X2.specialBack hx (y := (⟨"java/lang/Integer", "<init>", "(I)V"⟩ : MethodName)) rfl hown (mvT hZ (hw _ (List.mem_of_getElem? (i := 244) rfl))) (mvT hZ (hw _ (List.mem_of_getElem? (i := 245) rfl))) (mvT hZ (hw _ (List.mem_of_getElem? (i := 246) rfl))) (by decide) (backOf (W := 1) (rm31 l Z aw hw [] b2 p0 h2 n0 Z2 F2_value A2 lo2) hZ (hw _ (List.mem_of_getElem? (i := 246) rfl)) (hw _ (List.mem_of_getElem? (i := 143) rfl)) (by decide) (by decide)) (g := (mkF m 28 #[.val (.int p0)] [(.int p0), (.ref b2), (.ref b2)])) rfl (by rw [hml]; rfl) (Steps.refl _) (a := b2) (argsL := [(.int p0)]) (rest := [(.ref b2)]) (lenOf pd_18_0 rfl) rfl (by show 2 * 0 + _ ≤ _; exact Nat.le_of_eq rfl) (hb hby d18_28) (fun _ _ => ⟨rfl, e2, (by decide : 1 + 0 ≤ _), (by decide : 1 + 0 ≤ _)⟩)
    dsimp only [Pt.U, Pt.locs, Pt.cells, Pt.slots] at X3 l3 y3 z3 st3 hQ3
    rw [l3, y3, z3] at X3
    obtain ⟨rfl, Nq3, Kq3, P3_0, P3_1⟩ := hQ3
    have N3 := Fr.app N0 Nq3
    have f3_0 := own_sta_keepE f2_0 A2 Kq3
    have f3_1 := own_sta_keepE f2_1 A2 Kq3
    have K3 : Keep h0 T3.heap [] := K2.trans Kq3 (allS (Or.inr sz2) all0)
    have Z3 : n0 ≤ T3.heap.size := Nat.le_trans Z2 Kq3.1
    refine own_back (b := T3.setTop (mkF m 31 #[.val (.int p0)] [(.ref b2)])) (fun t kt => ?_) ?_
    · show Steps p.tables e below (s₁.setTop (mkF m 3 #[.val (.int p0)] [(.int (-128 : Int32)), (.int p0)])) _
      refine XS.icmpYes X0.here hx rfl (pc0 := 3) (pc' := 23) rfl (hb hby d18_3) rfl (tlt hc3_1).1 (by decide) (by decide) ?_
      show Steps p.tables e below (s₁.setTop (mkF m 23 #[.val (.int p0)] [])) _
      refine st2 _ ?_
      refine XS.dup X2.here hx rfl (hb hby d18_26) rfl rfl ?_
      refine XS.iloadN X2.here hx rfl (hb hby d18_27) rfl ?_
      show Steps p.tables e below (T2.setTop (mkF m 28 #[.val (.int p0)] [(.int p0), (.ref b2), (.ref b2)])) _
      refine st3.trans ?_
      exact kt
    obtain ⟨fs, hr, hrun, hended, hW, hsame⟩ := X3.leave (v := some (.ref b2)) (fun h => by rw [Bd.returns] at h; cases h) (BodyLoose.notSynchronized Bd)
    refine ⟨_, _, ?_, hrun, hended, _, _, rfl, ?_, ⟨_, rfl⟩, hW, hsame.mono (by decide) (by decide)⟩
    · show Steps p.tables e below (T3.setTop (mkF m 31 #[.val (.int p0)] [(.ref b2)])) _
      exact own_retA X3 hx Bd.returns rfl rfl (hb hby d18_31) hr
    · show Q18 Z p0 wc h0 n0 _ T3.heap _
      exact ⟨b2, rfl, N3, K3, P3_0, P3_1⟩
  · obtain ⟨T4, X4, e4, st4⟩ := getS2 X0 hx hZ hown (host := "") (Or.inl (hw _ (List.mem_of_getElem? (i := 145) rfl))) Via.refl e0 S_high (g := (mkF m 7 #[.val (.int p0)] [(.int p0)])) rfl (hb hby d18_7)
    refine own_back (b := T4.setTop (mkF m 10 #[.val (.int p0)] [(.int (127 : Int32)), (.int p0)])) (fun t kt => ?_) ?_
    · show Steps p.tables e below (s₁.setTop (mkF m 3 #[.val (.int p0)] [(.int (-128 : Int32)), (.int p0)])) _
      refine XS.icmpNo X0.here hx rfl (hb hby d18_3) rfl (flt hc3_1).1 ?_
      refine XS.iloadN X0.here hx rfl (hb hby d18_6) rfl ?_
      show Steps p.tables e below (s₁.setTop (mkF m 7 #[.val (.int p0)] [(.int p0)])) _
      refine st4 _ ?_
      exact kt
    by_cases hc10_5 : (127 : Int32) < p0
    · obtain ⟨T6, h6, X6, e6, E6, A6, D6, -, st6⟩ := newO X4 hx hZ hown (hw _ (List.mem_of_getElem? (i := 242) rfl)) (hw _ (List.mem_of_getElem? (i := 243) rfl)) (hw _ (List.mem_of_getElem? (i := 143) rfl)) e4 (g := (mkF m 23 #[.val (.int p0)] [])) rfl (hb hby d18_23) (by decide) (by decide)
      obtain ⟨b6, g6⟩ : ∃ z, z = h0.size := ⟨_, rfl⟩
      rw [← g6] at A6 D6 st6
      have lo6 : n0 ≤ b6 := Nat.le_trans Z0 (Nat.le_of_eq g6.symm)
      have sz6 : h0.size ≤ b6 := Nat.le_trans (Nat.le_refl _) (Nat.le_of_eq g6.symm)
      have f6_0 := S_high.ext E6
      have f6_1 := S_cache.ext E6
      have K6 : Keep h0 h6 [] := (Keep.refl h0 _).ext E6
      have Z6 : n0 ≤ h6.size := Nat.le_trans Z0 E6.1
      have F6_value : Fld Z h6 b6 "java/lang/Integer" "value" "I" (.int (0 : Int32)) := D6 (Or.inr (hw _ (List.mem_of_getElem? (i := 241) rfl))) (ty := .int) (by decide)
      obtain ⟨_, _, ⟨T7, L7, k7, n7⟩, -, X7, ⟨Lc7, hQ7, l7, y7, z7⟩, st7⟩ := X6.specialBack hx (y := (⟨"java/lang/Integer", "<init>", "(I)V"⟩ : MethodName)) rfl hown (mvT hZ (hw _ (List.mem_of_getElem? (i := 244) rfl))) (mvT hZ (hw _ (List.mem_of_getElem? (i := 245) rfl))) (mvT hZ (hw _ (List.mem_of_getElem? (i := 246) rfl))) (by decide) (backOf (W := 1) (rm31 l Z aw hw [] b6 p0 h6 n0 Z6 F6_value A6 lo6) hZ (hw _ (List.mem_of_getElem? (i := 246) rfl)) (hw _ (List.mem_of_getElem? (i := 143) rfl)) (by decide) (by decide)) (g := (mkF m 28 #[.val (.int p0)] [(.int p0), (.ref b6), (.ref b6)])) rfl (by rw [hml]; rfl) (Steps.refl _) (a := b6) (argsL := [(.int p0)]) (rest := [(.ref b6)]) (lenOf pd_18_0 rfl) rfl (by show 2 * 0 + _ ≤ _; exact Nat.le_of_eq rfl) (hb hby d18_28) (fun _ _ => ⟨rfl, e6, (by decide : 1 + 0 ≤ _), (by decide : 1 + 0 ≤ _)⟩)
      dsimp only [Pt.U, Pt.locs, Pt.cells, Pt.slots] at X7 l7 y7 z7 st7 hQ7
      rw [l7, y7, z7] at X7
      obtain ⟨rfl, Nq7, Kq7, P7_0, P7_1⟩ := hQ7
      have N7 := Fr.app N0 Nq7
      have f7_0 := own_sta_keepE f6_0 A6 Kq7
      have f7_1 := own_sta_keepE f6_1 A6 Kq7
      have K7 : Keep h0 T7.heap [] := K6.trans Kq7 (allS (Or.inr sz6) all0)
      have Z7 : n0 ≤ T7.heap.size := Nat.le_trans Z6 Kq7.1
      refine own_back (b := T7.setTop (mkF m 31 #[.val (.int p0)] [(.ref b6)])) (fun t kt => ?_) ?_
      · show Steps p.tables e below (T4.setTop (mkF m 10 #[.val (.int p0)] [(.int (127 : Int32)), (.int p0)])) _
        refine XS.icmpYes X4.here hx rfl (pc0 := 10) (pc' := 23) rfl (hb hby d18_10) rfl (tlt hc10_5).2.2.1 (by decide) (by decide) ?_
        show Steps p.tables e below (T4.setTop (mkF m 23 #[.val (.int p0)] [])) _
        refine st6 _ ?_
        refine XS.dup X6.here hx rfl (hb hby d18_26) rfl rfl ?_
        refine XS.iloadN X6.here hx rfl (hb hby d18_27) rfl ?_
        show Steps p.tables e below (T6.setTop (mkF m 28 #[.val (.int p0)] [(.int p0), (.ref b6), (.ref b6)])) _
        refine st7.trans ?_
        exact kt
      obtain ⟨fs, hr, hrun, hended, hW, hsame⟩ := X7.leave (v := some (.ref b6)) (fun h => by rw [Bd.returns] at h; cases h) (BodyLoose.notSynchronized Bd)
      refine ⟨_, _, ?_, hrun, hended, _, _, rfl, ?_, ⟨_, rfl⟩, hW, hsame.mono (by decide) (by decide)⟩
      · show Steps p.tables e below (T7.setTop (mkF m 31 #[.val (.int p0)] [(.ref b6)])) _
        exact own_retA X7 hx Bd.returns rfl rfl (hb hby d18_31) hr
      · show Q18 Z p0 wc h0 n0 _ T7.heap _
        exact ⟨b6, rfl, N7, K7, P7_0, P7_1⟩
    · obtain ⟨T8, X8, e8, st8⟩ := getS2 X4 hx hZ hown (host := "") (Or.inl (hw _ (List.mem_of_getElem? (i := 147) rfl))) Via.refl e4 S_cache (g := (mkF m 13 #[.val (.int p0)] [])) rfl (hb hby d18_13)
      obtain ⟨cl9, Ar9, Sz9, El9⟩ := own_same X_ic
      have hj9 := own_ci p0 hc3_1 hc10_5
      obtain ⟨bE9, hat9, EE9, FE9⟩ := El9 _ hj9.2.1
      rw [hj9.2.2] at FE9
      have hin9 : ¬ ((p0 + (128 : Int32)) < 0 ∨ cl9.slots.size ≤ ((p0 + (128 : Int32))).toNatClampNeg) := by rw [Sz9]; exact fun q => q.elim hj9.1 (fun z => absurd hj9.2.1 (Nat.not_lt.mpr z))
      refine own_back (b := T8.setTop (mkF m 22 #[.val (.int p0)] [(.ref bE9)])) (fun t kt => ?_) ?_
      · show Steps p.tables e below (T4.setTop (mkF m 10 #[.val (.int p0)] [(.int (127 : Int32)), (.int p0)])) _
        refine XS.icmpNo X4.here hx rfl (hb hby d18_10) rfl (flt hc10_5).2.2.1 ?_
        show Steps p.tables e below (T4.setTop (mkF m 13 #[.val (.int p0)] [])) _
        refine st8 _ ?_
        refine XS.iloadN X8.here hx rfl (hb hby d18_16) rfl ?_
        refine XS.sipush X8.here hx rfl (hb hby d18_17) ?_
        refine XS.iadd X8.here hx rfl (hb hby d18_20) rfl ?_
        show Steps p.tables e below (T8.setTop (mkF m 21 #[.val (.int p0)] [(.int (p0 + (128 : Int32))), (.ref wc)])) _
        refine X8.aaload hx (j := (p0 + (128 : Int32))) (v := (.ref bE9)) (by rw [e8]; exact Ar9.1) (State.isArrayOf_alike hZ.alike Ar9.2.1) rfl Ar9.2.2 hin9 hat9 (g := (mkF m 21 #[.val (.int p0)] [(.int (p0 + (128 : Int32))), (.ref wc)])) rfl rfl (hb hby d18_21) _ ?_
        exact kt
      obtain ⟨fs, hr, hrun, hended, hW, hsame⟩ := X8.leave (v := some (.ref bE9)) (fun h => by rw [Bd.returns] at h; cases h) (BodyLoose.notSynchronized Bd)
      refine ⟨_, _, ?_, hrun, hended, _, _, rfl, ?_, ⟨_, rfl⟩, hW, hsame.mono (by decide) (by decide)⟩
      · show Steps p.tables e below (T8.setTop (mkF m 22 #[.val (.int p0)] [(.ref bE9)])) _
        exact own_retA X8 hx Bd.returns rfl rfl (hb hby d18_22) hr
      · show Q18 Z p0 wc h0 n0 _ T8.heap _
        rw [e8]
        exact ⟨bE9, rfl, N0, (Keep.refl h0 _), EE9, FE9⟩
theorem d23_0 : decode jdk_29_method_65_code 0 = .ok (.iload_n 0, 1) := by decide +kernel
theorem d23_1 : decode jdk_29_method_65_code 1 = .ok (.iload_n 1, 1) := by decide +kernel
theorem d23_2 : decode jdk_29_method_65_code 2 = .ok (.if_icmp .lt 7, 3) := by decide +kernel
theorem d23_5 : decode jdk_29_method_65_code 5 = .ok (.iload_n 0, 1) := by decide +kernel
theorem d23_6 : decode jdk_29_method_65_code 6 = .ok (.goto 4, 3) := by decide +kernel
theorem d23_10 : decode jdk_29_method_65_code 10 = .ok (.ireturn, 1) := by decide +kernel
theorem ef_23 (m : MethodId)  : entryFrame m #[(.int (10 : Int32)), (.int (1 : Int32))] 2 = mkF m 0 #[.val (.int (10 : Int32)), .val (.int (1 : Int32))] [] := by first | (simp [entryFrame, mkF, argsToLocals, Value.category]; done) | rfl
def Q23 (Z : State)  (h0 : Heap) (n0 : Nat) (v : Option Value) (h : Heap) (L : List Loc) : Prop := v = some (.int (10 : Int32)) ∧ Fr n0 L ∧ h = h0
set_option maxRecDepth 65536 in
set_option maxHeartbeats 40000000 in
theorem rm23 (l : Launch) (Z : State) (aw : Array Value) (hw : ∀ d ∈ tables_1, d.before aw Z = true) (ws : List Jvm.Cond)  (h0 : Heap) (n0 : Nat) (Z0 : n0 ≤ h0.size) :
    MetFree l (⟨"java/lang/Math", "max", "(II)I"⟩ : MethodName) (head1 (Jvm.Cond.code (⟨"java/lang/Math", "max", "(II)I"⟩ : MethodName) jdk_29_method_65_code 2 (some .int) :: ws) ({ frames := 0, cells := 0, slots := 0, locals := 0 } : Room)) (fun a U => a = #[(.int (10 : Int32)), (.int (1 : Int32))] ∧ Z.Warmed39 U.vm ∧ U.heap = h0) (fun _ _ _ _ _ => True) (fun _ U o U' => ∃ v L, o = .returned v ∧ Q23 Z  h0 n0 v U'.heap L ∧ FrameEnd U o U' L ({ frames := 0, cells := 0, slots := 0, locals := 0 } : Room).cells ({ frames := 0, cells := 0, slots := 0, locals := 0 } : Room).slots) := by
  refine MetFree.of_bodySF (Jvm.Free.JP.mathPlain rfl (by decide +kernel)) hisR ?_
  intro p e s m args below meth c s₁ Bd hml0 hP hK
  obtain ⟨rfl, hZ, hh⟩ := hP
  have hx := Bd.exec
  have hby := Bd.bytes
  have hml : c.maxLocals = 2 := hml0
  have hown : s.vm.findClass "java/lang/Math" = some m.cls := findClass_of_methodNamed Bd.named
  have hnm := (name_of_methodNamed Bd.named Bd.method).1
  have X0 : Stand p l e ({ frames := 0, cells := 0, slots := 0, locals := 0 } : Room) s m #[(.int (10 : Int32)), (.int (1 : Int32))] below meth c s₁ [] 0 0 := Stand.of_body Bd
  have e0 : s₁.heap = h0 := by rw [← hh, Bd.state]; rfl
  have N0 := Fr.nil n0
  refine own_back (b := s₁.setTop (mkF m 0 #[.val (.int (10 : Int32)), .val (.int (1 : Int32))] [])) (fun t kt => castTop (ef_23 m ) kt) ?_
  refine own_back (b := s₁.setTop (mkF m 10 #[.val (.int (10 : Int32)), .val (.int (1 : Int32))] [(.int (10 : Int32))])) (fun t kt => ?_) ?_
  · show Steps p.tables e below (s₁.setTop (mkF m 0 #[.val (.int (10 : Int32)), .val (.int (1 : Int32))] [])) _
    refine XS.iloadN X0.here hx rfl (hb hby d23_0) rfl ?_
    refine XS.iloadN X0.here hx rfl (hb hby d23_1) rfl ?_
    refine XS.icmpNo X0.here hx rfl (hb hby d23_2) rfl (flt (by decide : ¬ ((10 : Int32) < (1 : Int32)))).1 ?_
    refine XS.iloadN X0.here hx rfl (hb hby d23_5) rfl ?_
    refine XS.goto X0.here hx rfl (pc0 := 6) (pc' := 10) rfl (hb hby d23_6) (by decide) (by decide) ?_
    exact kt
  obtain ⟨fs, hr, hrun, hended, hW, hsame⟩ := X0.leave (v := some (.int (10 : Int32))) (fun h => by rw [Bd.returns] at h; cases h) (BodyLoose.notSynchronized Bd)
  refine ⟨_, _, ?_, hrun, hended, _, _, rfl, ?_, ⟨_, rfl⟩, hW, hsame.mono (by decide) (by decide)⟩
  · show Steps p.tables e below (s₁.setTop (mkF m 10 #[.val (.int (10 : Int32)), .val (.int (1 : Int32))] [(.int (10 : Int32))])) _
    exact retI X0 hx Bd.returns (hb hby d23_10) hr
  · show Q23 Z  h0 n0 _ s₁.heap _
    rw [e0]
    exact ⟨rfl, N0, rfl⟩
theorem d22_0 : decode jdk_38_method_6_code 0 = .ok (.aload_n 0, 1) := by decide +kernel
theorem d22_1 : decode jdk_38_method_6_code 1 = .ok (.getfield 9, 3) := by decide +kernel
theorem d22_4 : decode jdk_38_method_6_code 4 = .ok (.arraylength, 1) := by decide +kernel
theorem d22_5 : decode jdk_38_method_6_code 5 = .ok (.istore_n 2, 1) := by decide +kernel
theorem d22_6 : decode jdk_38_method_6_code 6 = .ok (.iload_n 2, 1) := by decide +kernel
theorem d22_7 : decode jdk_38_method_6_code 7 = .ok (.ifCond .gt 13, 3) := by decide +kernel
theorem d22_10 : decode jdk_38_method_6_code 10 = .ok (.aload_n 0, 1) := by decide +kernel
theorem d22_11 : decode jdk_38_method_6_code 11 = .ok (.getfield 9, 3) := by decide +kernel
theorem d22_14 : decode jdk_38_method_6_code 14 = .ok (.getstatic 39, 3) := by decide +kernel
theorem d22_17 : decode jdk_38_method_6_code 17 = .ok (.if_acmp .eq 28, 3) := by decide +kernel
theorem d22_45 : decode jdk_38_method_6_code 45 = .ok (.aload_n 0, 1) := by decide +kernel
theorem d22_46 : decode jdk_38_method_6_code 46 = .ok (.bipush 10, 2) := by decide +kernel
theorem d22_48 : decode jdk_38_method_6_code 48 = .ok (.iload_n 1, 1) := by decide +kernel
theorem d22_49 : decode jdk_38_method_6_code 49 = .ok (.invokestatic 79, 3) := by decide +kernel
theorem d22_52 : decode jdk_38_method_6_code 52 = .ok (.anewarray 7, 3) := by decide +kernel
theorem d22_55 : decode jdk_38_method_6_code 55 = .ok (.dup_x1, 1) := by decide +kernel
theorem d22_56 : decode jdk_38_method_6_code 56 = .ok (.putfield 9, 3) := by decide +kernel
theorem d22_59 : decode jdk_38_method_6_code 59 = .ok (.areturn, 1) := by decide +kernel
theorem pn_22 : plainName "java/util/ArrayList" = true := by first | (simp [plainName, overriddenIn]; done) | decide +kernel
theorem pd_22_0 : parseMethodDescriptor "(II)I" = some ⟨[.int, .int], some .int⟩ := by decide +kernel
theorem ef_22 (m : MethodId) (x0 : Addr) : entryFrame m #[(.ref x0), (.int (1 : Int32))] 4 = mkF m 0 #[.val (.ref x0), .val (.int (1 : Int32)), .unset, .unset] [] := by first | (simp [entryFrame, mkF, argsToLocals, Value.category]; done) | rfl
def Q22 (Z : State) (a0 : Addr) (wd : Addr) (kd : ClassId) (h0 : Heap) (n0 : Nat) (v : Option Value) (h : Heap) (L : List Loc) : Prop := ∃ (b : Addr) (kb : ClassId), v = some (.ref b) ∧ Fr n0 L ∧ Keep h0 h [a0] ∧ n0 ≤ b ∧ h0.size ≤ b ∧ Exa Z h a0 "java/util/ArrayList" ∧ Fld Z h a0 "java/util/ArrayList" "elementData" "[Ljava/lang/Object;" (.ref b) ∧ Fld Z h a0 "java/util/ArrayList" "size" "I" (.int (0 : Int32)) ∧ Fld Z h a0 "java/util/AbstractList" "modCount" "I" (.int (1 : Int32)) ∧ Arv Z h b kb (.object "java/lang/Object") (10 : Int32) [.null, .null, .null, .null, .null, .null, .null, .null, .null, .null] .null ∧ Exa Z h b "[Ljava/lang/Object;" ∧ Ovr Z kb "java/lang/Object"
set_option maxRecDepth 65536 in
set_option maxHeartbeats 40000000 in
theorem rm22 (l : Launch) (Z : State) (aw : Array Value) (hw : ∀ d ∈ tables_1, d.before aw Z = true) (ws : List Jvm.Cond) (a0 : Addr) (wd : Addr) (kd : ClassId) (h0 : Heap) (n0 : Nat) (Z0 : n0 ≤ h0.size) (F_elementData_a0 : Fld Z h0 a0 "java/util/ArrayList" "elementData" "[Ljava/lang/Object;" (.ref wd)) (F_size_a0 : Fld Z h0 a0 "java/util/ArrayList" "size" "I" (.int (0 : Int32))) (F_modCount_a0 : Fld Z h0 a0 "java/util/AbstractList" "modCount" "I" (.int (1 : Int32))) (E_a0 : Exa Z h0 a0 "java/util/ArrayList") (g_a0 : n0 ≤ a0) (S_DEFAULTCAPACITY_EMPTY_ELEMENTDATA : Sta Z h0 "java/util/ArrayList" "DEFAULTCAPACITY_EMPTY_ELEMENTDATA" "[Ljava/lang/Object;" (.ref wd)) (V_wd : Arv Z h0 wd kd (.object "java/lang/Object") (0 : Int32) [] .null) (E_wd : Exa Z h0 wd "[Ljava/lang/Object;") :
    MetFree l (⟨"java/util/ArrayList", "grow", "(I)[Ljava/lang/Object;"⟩ : MethodName) (head1 (Jvm.Cond.code (⟨"java/util/ArrayList", "grow", "(I)[Ljava/lang/Object;"⟩ : MethodName) jdk_38_method_6_code 4 (some (.array (.object "java/lang/Object"))) :: ws) ({ frames := 1, cells := 1, slots := 10, locals := 14 } : Room)) (fun a U => a = #[(.ref a0), (.int (1 : Int32))] ∧ Z.Warmed39 U.vm ∧ U.heap = h0) (fun _ _ _ _ _ => True) (fun _ U o U' => ∃ v L, o = .returned v ∧ Q22 Z a0 wd kd h0 n0 v U'.heap L ∧ FrameEnd U o U' L ({ frames := 1, cells := 1, slots := 10, locals := 14 } : Room).cells ({ frames := 1, cells := 1, slots := 10, locals := 14 } : Room).slots) := by
  refine MetFree.of_bodySF (plainFor_of_name pn_22) hisR ?_
  intro p e s m args below meth c s₁ Bd hml0 hP hK
  obtain ⟨rfl, hZ, hh⟩ := hP
  have hx := Bd.exec
  have hby := Bd.bytes
  have hml : c.maxLocals = 4 := hml0
  have hown : s.vm.findClass "java/util/ArrayList" = some m.cls := findClass_of_methodNamed Bd.named
  have hnm := (name_of_methodNamed Bd.named Bd.method).1
  have X0 : Stand p l e ({ frames := 1, cells := 1, slots := 10, locals := 14 } : Room) s m #[(.ref a0), (.int (1 : Int32))] below meth c s₁ [] 0 0 := Stand.of_body Bd
  have e0 : s₁.heap = h0 := by rw [← hh, Bd.state]; rfl
  have N0 := Fr.nil n0
  refine own_back (b := s₁.setTop (mkF m 0 #[.val (.ref a0), .val (.int (1 : Int32)), .unset, .unset] [])) (fun t kt => castTop (ef_22 m a0) kt) ?_
  obtain ⟨T1, X1, e1, st1⟩ := getF X0 hx hZ hown (host := "") (Or.inl (hw _ (List.mem_of_getElem? (i := 117) rfl))) Via.refl e0 F_elementData_a0 (g := (mkF m 1 #[.val (.ref a0), .val (.int (1 : Int32)), .unset, .unset] [(.ref a0)])) rfl rfl (hb hby d22_1)
  obtain ⟨cl2, Ar2, qk2, S2, N2', -, -⟩ := own_same V_wd
  obtain ⟨T3, X3, e3, st3⟩ := getF X1 hx hZ hown (host := "") (Or.inl (hw _ (List.mem_of_getElem? (i := 117) rfl))) Via.refl e1 F_elementData_a0 (g := (mkF m 11 #[.val (.ref a0), .val (.int (1 : Int32)), .val (.int (0 : Int32)), .unset] [(.ref a0)])) rfl rfl (hb hby d22_11)
  obtain ⟨T4, X4, e4, st4⟩ := getS2 X3 hx hZ hown (host := "") (Or.inl (hw _ (List.mem_of_getElem? (i := 116) rfl))) Via.refl e3 S_DEFAULTCAPACITY_EMPTY_ELEMENTDATA (g := (mkF m 14 #[.val (.ref a0), .val (.int (1 : Int32)), .val (.int (0 : Int32)), .unset] [(.ref wd)])) rfl (hb hby d22_14)
  obtain ⟨_, _, ⟨T5, L5, k5, n5⟩, -, X5, ⟨Lc5, hQ5, l5, y5, z5⟩, st5⟩ := Jvm.LawKit.callS X4 hx (y := (⟨"java/lang/Math", "max", "(II)I"⟩ : MethodName)) hown (mvT hZ (hw _ (List.mem_of_getElem? (i := 172) rfl))) (mvT hZ (hw _ (List.mem_of_getElem? (i := 173) rfl))) (mvT hZ (hw _ (List.mem_of_getElem? (i := 132) rfl))) (mvT hZ (hw _ (List.mem_of_getElem? (i := 174) rfl))) (by decide) (backOf (W := 1) (rm23 l Z aw hw []  h0 n0 Z0 ) hZ (hw _ (List.mem_of_getElem? (i := 174) rfl)) (hw _ (List.mem_of_getElem? (i := 132) rfl)) (by decide) (by decide)) (g := (mkF m 49 #[.val (.ref a0), .val (.int (1 : Int32)), .val (.int (0 : Int32)), .unset] [(.int (1 : Int32)), (.int (10 : Int32)), (.ref a0)])) rfl (by rw [hml]; rfl) (argsL := [(.int (10 : Int32)), (.int (1 : Int32))]) (rest := [(.ref a0)]) (lenOf pd_22_0 rfl) rfl (by show 2 * 0 + _ ≤ _; exact Nat.le_of_eq rfl) (hb hby d22_49) (fun _ _ => ⟨rfl, e4, (by decide : 0 + 0 ≤ _), (by decide : 0 + 0 ≤ _)⟩)
  dsimp only [Pt.U, Pt.locs, Pt.cells, Pt.slots] at X5 l5 y5 z5 st5 hQ5
  rw [l5, y5, z5] at X5
  obtain ⟨rfl, Nq5, e5⟩ := hQ5
  have N5 := Fr.app N0 Nq5
  obtain ⟨T6, h6, k6, X6, e6, E6, A6, B6, O6, st6⟩ := newRE X5 hx hZ hown (hw _ (List.mem_of_getElem? (i := 175) rfl)) (hw _ (List.mem_of_getElem? (i := 176) rfl)) e5 (g := (mkF m 52 #[.val (.ref a0), .val (.int (1 : Int32)), .val (.int (0 : Int32)), .unset] [(.int (10 : Int32)), (.ref a0)])) rfl (hb hby d22_52) rfl (by decide) (cap := 10) (by decide) (by decide) (by decide) (by decide) (ad := "[Ljava/lang/Object;") (by decide)
  obtain ⟨b6, g6⟩ : ∃ z, z = h0.size := ⟨_, rfl⟩
  rw [← g6] at A6 B6 st6
  have ne6_a0 : a0 ≠ b6 := Nat.ne_of_lt (Nat.lt_of_lt_of_le F_elementData_a0.lt (Nat.le_of_eq g6.symm))
  have ne6_wd : wd ≠ b6 := Nat.ne_of_lt (Nat.lt_of_lt_of_le V_wd.lt (Nat.le_of_eq g6.symm))
  have lo6 : n0 ≤ b6 := Nat.le_trans Z0 (Nat.le_of_eq g6.symm)
  have sz6 : h0.size ≤ b6 := Nat.le_trans (Nat.le_refl _) (Nat.le_of_eq g6.symm)
  have f6_0 := F_elementData_a0.ext E6
  have f6_1 := F_size_a0.ext E6
  have f6_2 := F_modCount_a0.ext E6
  have f6_3 := E_a0.ext E6
  have f6_4 := S_DEFAULTCAPACITY_EMPTY_ELEMENTDATA.ext E6
  have f6_5 := V_wd.ext E6
  have f6_6 := E_wd.ext E6
  have K6 : Keep h0 h6 [a0] := (Keep.refl h0 _).ext E6
  have Z6 : n0 ≤ h6.size := Nat.le_trans Z0 E6.1
  have V6 : Arv Z h6 b6 k6 (.object "java/lang/Object") (10 : Int32) [.null, .null, .null, .null, .null, .null, .null, .null, .null, .null] .null := (Arv.new A6 (by decide)).pad (pad_rep [] .null 10)
  obtain ⟨T7, h7, X7, e7, W7, st7⟩ := putF X6 hx hZ hown (host := "") (Or.inl (hw _ (List.mem_of_getElem? (i := 117) rfl))) Via.refl e6 f6_0 f6_3 (Or.inl (hw _ (List.mem_of_getElem? (i := 118) rfl))) (hw _ (List.mem_of_getElem? (i := 96) rfl)) (ty := (.array (.object "java/lang/Object"))) (by decide) rfl rfl (g := (mkF m 56 #[.val (.ref a0), .val (.int (1 : Int32)), .val (.int (0 : Int32)), .unset] [(.ref b6), (.ref a0), (.ref b6)])) rfl rfl (hb hby d22_56)
  have Fw7 := f6_0.same W7
  have f7_0 := f6_1.other W7 (Or.inr (slot_ne (Or.inl (hw _ (List.mem_of_getElem? (i := 156) rfl))) (Or.inl (hw _ (List.mem_of_getElem? (i := 118) rfl))) (by decide) (t := .int) (t' := (.array (.object "java/lang/Object"))) (by decide) (by decide)))
  have f7_1 := f6_2.other W7 (Or.inr (slot_ne (Or.inl (hw _ (List.mem_of_getElem? (i := 115) rfl))) (Or.inl (hw _ (List.mem_of_getElem? (i := 118) rfl))) (by decide) (t := .int) (t' := (.array (.object "java/lang/Object"))) (by decide) (by decide)))
  have f7_2 := f6_3.wr W7
  have f7_3 := f6_4.wr W7
  have f7_4 := f6_5.other W7 (ne_exa f6_6 f6_3 (by decide))
  have f7_5 := f6_6.wr W7
  have f7_6 := V6.other W7 (Ne.symm ne6_a0)
  have f7_7 := B6.wr W7
  have K7 : Keep h0 h7 [a0] := K6.wr W7 (Or.inl (List.mem_of_getElem? (i := 0) rfl))
  have Z7 : n0 ≤ h7.size := Nat.le_trans Z6 (Keep.of_wr W7).1
  have N7 := Fr.snoc X7 N5 g_a0
  refine own_back (b := T7.setTop (mkF m 59 #[.val (.ref a0), .val (.int (1 : Int32)), .val (.int (0 : Int32)), .unset] [(.ref b6)])) (fun t kt => ?_) ?_
  · show Steps p.tables e below (s₁.setTop (mkF m 0 #[.val (.ref a0), .val (.int (1 : Int32)), .unset, .unset] [])) _
    refine XS.aloadN X0.here hx rfl (hb hby d22_0) rfl rfl ?_
    show Steps p.tables e below (s₁.setTop (mkF m 1 #[.val (.ref a0), .val (.int (1 : Int32)), .unset, .unset] [(.ref a0)])) _
    refine st1 _ ?_
    show Steps p.tables e below (T1.setTop (mkF m 4 #[.val (.ref a0), .val (.int (1 : Int32)), .unset, .unset] [(.ref wd)])) _
    refine X1.arraylength hx (by rw [e1]; exact Ar2.1) (State.isArrayOf_alike hZ.alike Ar2.2.1) (g := (mkF m 4 #[.val (.ref a0), .val (.int (1 : Int32)), .unset, .unset] [(.ref wd)])) rfl rfl (hb hby d22_4) _ ?_
    rw [len_of S2 N2']
    refine XS.istoreN X1.here hx rfl (hb hby d22_5) rfl (l' := #[.val (.ref a0), .val (.int (1 : Int32)), .val (.int (0 : Int32)), .unset]) rfl ?_
    refine XS.iloadN X1.here hx rfl (hb hby d22_6) rfl ?_
    refine XS.ifNo X1.here hx rfl (hb hby d22_7) rfl ((if0 _ _).trans (flt (by decide : ¬ ((0 : Int32) < (0 : Int32)))).2.2.1) ?_
    refine XS.aloadN X1.here hx rfl (hb hby d22_10) rfl rfl ?_
    show Steps p.tables e below (T1.setTop (mkF m 11 #[.val (.ref a0), .val (.int (1 : Int32)), .val (.int (0 : Int32)), .unset] [(.ref a0)])) _
    refine st3 _ ?_
    show Steps p.tables e below (T3.setTop (mkF m 14 #[.val (.ref a0), .val (.int (1 : Int32)), .val (.int (0 : Int32)), .unset] [(.ref wd)])) _
    refine st4 _ ?_
    show Steps p.tables e below (T4.setTop (mkF m 17 #[.val (.ref a0), .val (.int (1 : Int32)), .val (.int (0 : Int32)), .unset] [(.ref wd), (.ref wd)])) _
    refine Jvm.RoadKit.acmp (g := (mkF m 17 #[.val (.ref a0), .val (.int (1 : Int32)), .val (.int (0 : Int32)), .unset] [(.ref wd), (.ref wd)])) X4 hx rfl rfl rfl (pc0 := 17) (pc' := 45) (same := true) rfl (hb hby d22_17) rfl (decide_eq_true rfl) (by decide) (by decide) ?_
    refine XS.aloadN X4.here hx rfl (hb hby d22_45) rfl rfl ?_
    refine XS.bipush X4.here hx rfl (hb hby d22_46) ?_
    refine XS.iloadN X4.here hx rfl (hb hby d22_48) rfl ?_
    show Steps p.tables e below (T4.setTop (mkF m 49 #[.val (.ref a0), .val (.int (1 : Int32)), .val (.int (0 : Int32)), .unset] [(.int (1 : Int32)), (.int (10 : Int32)), (.ref a0)])) _
    refine st5 _ ?_
    show Steps p.tables e below (T5.setTop (mkF m 52 #[.val (.ref a0), .val (.int (1 : Int32)), .val (.int (0 : Int32)), .unset] [(.int (10 : Int32)), (.ref a0)])) _
    refine st6 _ ?_
    refine XS.dupX1 X6.here hx rfl (hb hby d22_55) rfl rfl rfl ?_
    show Steps p.tables e below (T6.setTop (mkF m 56 #[.val (.ref a0), .val (.int (1 : Int32)), .val (.int (0 : Int32)), .unset] [(.ref b6), (.ref a0), (.ref b6)])) _
    refine st7 _ ?_
    exact kt
  obtain ⟨fs, hr, hrun, hended, hW, hsame⟩ := X7.leave (v := some (.ref b6)) (fun h => by rw [Bd.returns] at h; cases h) (BodyLoose.notSynchronized Bd)
  refine ⟨_, _, ?_, hrun, hended, _, _, rfl, ?_, ⟨_, rfl⟩, hW, hsame.mono (by decide) (by decide)⟩
  · show Steps p.tables e below (T7.setTop (mkF m 59 #[.val (.ref a0), .val (.int (1 : Int32)), .val (.int (0 : Int32)), .unset] [(.ref b6)])) _
    exact own_retA X7 hx Bd.returns rfl rfl (hb hby d22_59) hr
  · show Q22 Z a0 wd kd h0 n0 _ T7.heap _
    rw [e7]
    exact ⟨b6, k6, rfl, N7, K7, lo6, sz6, f7_2, Fw7, f7_0, f7_1, f7_6, f7_7, O6⟩
theorem d21_0 : decode jdk_38_method_7_code 0 = .ok (.aload_n 0, 1) := by decide +kernel
theorem d21_1 : decode jdk_38_method_7_code 1 = .ok (.aload_n 0, 1) := by decide +kernel
theorem d21_2 : decode jdk_38_method_7_code 2 = .ok (.getfield 48, 3) := by decide +kernel
theorem d21_5 : decode jdk_38_method_7_code 5 = .ok (.iconst 1, 1) := by decide +kernel
theorem d21_6 : decode jdk_38_method_7_code 6 = .ok (.iadd, 1) := by decide +kernel
theorem d21_7 : decode jdk_38_method_7_code 7 = .ok (.invokevirtual 69, 3) := by decide +kernel
theorem d21_10 : decode jdk_38_method_7_code 10 = .ok (.areturn, 1) := by decide +kernel
theorem pn_21 : plainName "java/util/ArrayList" = true := by first | (simp [plainName, overriddenIn]; done) | decide +kernel
theorem pd_21_0 : parseMethodDescriptor "(I)[Ljava/lang/Object;" = some ⟨[.int], some (.array (.object "java/lang/Object"))⟩ := by decide +kernel
theorem ef_21 (m : MethodId) (x0 : Addr) : entryFrame m #[(.ref x0)] 1 = mkF m 0 #[.val (.ref x0)] [] := by first | (simp [entryFrame, mkF, argsToLocals, Value.category]; done) | rfl
def Q21 (Z : State) (a0 : Addr) (wd : Addr) (kd : ClassId) (h0 : Heap) (n0 : Nat) (v : Option Value) (h : Heap) (L : List Loc) : Prop := ∃ (b : Addr) (kb : ClassId), v = some (.ref b) ∧ Fr n0 L ∧ Keep h0 h [a0] ∧ n0 ≤ b ∧ h0.size ≤ b ∧ Exa Z h a0 "java/util/ArrayList" ∧ Fld Z h a0 "java/util/ArrayList" "elementData" "[Ljava/lang/Object;" (.ref b) ∧ Fld Z h a0 "java/util/ArrayList" "size" "I" (.int (0 : Int32)) ∧ Fld Z h a0 "java/util/AbstractList" "modCount" "I" (.int (1 : Int32)) ∧ Arv Z h b kb (.object "java/lang/Object") (10 : Int32) [.null, .null, .null, .null, .null, .null, .null, .null, .null, .null] .null ∧ Exa Z h b "[Ljava/lang/Object;" ∧ Ovr Z kb "java/lang/Object"
set_option maxRecDepth 65536 in
set_option maxHeartbeats 40000000 in
theorem rm21 (l : Launch) (Z : State) (aw : Array Value) (hw : ∀ d ∈ tables_1, d.before aw Z = true) (ws : List Jvm.Cond) (a0 : Addr) (wd : Addr) (kd : ClassId) (h0 : Heap) (n0 : Nat) (Z0 : n0 ≤ h0.size) (F_elementData_a0 : Fld Z h0 a0 "java/util/ArrayList" "elementData" "[Ljava/lang/Object;" (.ref wd)) (F_size_a0 : Fld Z h0 a0 "java/util/ArrayList" "size" "I" (.int (0 : Int32))) (F_modCount_a0 : Fld Z h0 a0 "java/util/AbstractList" "modCount" "I" (.int (1 : Int32))) (E_a0 : Exa Z h0 a0 "java/util/ArrayList") (g_a0 : n0 ≤ a0) (S_DEFAULTCAPACITY_EMPTY_ELEMENTDATA : Sta Z h0 "java/util/ArrayList" "DEFAULTCAPACITY_EMPTY_ELEMENTDATA" "[Ljava/lang/Object;" (.ref wd)) (V_wd : Arv Z h0 wd kd (.object "java/lang/Object") (0 : Int32) [] .null) (E_wd : Exa Z h0 wd "[Ljava/lang/Object;") :
    MetFree l (⟨"java/util/ArrayList", "grow", "()[Ljava/lang/Object;"⟩ : MethodName) (head1 (Jvm.Cond.code (⟨"java/util/ArrayList", "grow", "()[Ljava/lang/Object;"⟩ : MethodName) jdk_38_method_7_code 1 (some (.array (.object "java/lang/Object"))) :: ws) ({ frames := 2, cells := 1, slots := 10, locals := 29 } : Room)) (fun a U => a = #[(.ref a0)] ∧ Z.Warmed39 U.vm ∧ U.heap = h0) (fun _ _ _ _ _ => True) (fun _ U o U' => ∃ v L, o = .returned v ∧ Q21 Z a0 wd kd h0 n0 v U'.heap L ∧ FrameEnd U o U' L ({ frames := 2, cells := 1, slots := 10, locals := 29 } : Room).cells ({ frames := 2, cells := 1, slots := 10, locals := 29 } : Room).slots) := by
  refine MetFree.of_bodySF (plainFor_of_name pn_21) hisR ?_
  intro p e s m args below meth c s₁ Bd hml0 hP hK
  obtain ⟨rfl, hZ, hh⟩ := hP
  have hx := Bd.exec
  have hby := Bd.bytes
  have hml : c.maxLocals = 1 := hml0
  have hown : s.vm.findClass "java/util/ArrayList" = some m.cls := findClass_of_methodNamed Bd.named
  have hnm := (name_of_methodNamed Bd.named Bd.method).1
  have X0 : Stand p l e ({ frames := 2, cells := 1, slots := 10, locals := 29 } : Room) s m #[(.ref a0)] below meth c s₁ [] 0 0 := Stand.of_body Bd
  have e0 : s₁.heap = h0 := by rw [← hh, Bd.state]; rfl
  have N0 := Fr.nil n0
  refine own_back (b := s₁.setTop (mkF m 0 #[.val (.ref a0)] [])) (fun t kt => castTop (ef_21 m a0) kt) ?_
  obtain ⟨T1, X1, e1, st1⟩ := getF X0 hx hZ hown (host := "") (Or.inl (hw _ (List.mem_of_getElem? (i := 155) rfl))) Via.refl e0 F_size_a0 (g := (mkF m 2 #[.val (.ref a0)] [(.ref a0), (.ref a0)])) rfl rfl (hb hby d21_2)
  obtain ⟨cq2, qp2, qp2'⟩ := E_a0.cell
  obtain ⟨_, _, ⟨T2, L2, k2, n2⟩, -, X2, ⟨Lc2, hQ2, l2, y2, z2⟩, st2⟩ := X1.privateBack hx (y := (⟨"java/util/ArrayList", "grow", "(I)[Ljava/lang/Object;"⟩ : MethodName)) hown (mvT hZ (hw _ (List.mem_of_getElem? (i := 167) rfl))) (mvT hZ (hw _ (List.mem_of_getElem? (i := 168) rfl))) (mvT hZ (hw _ (List.mem_of_getElem? (i := 170) rfl))) (Cond.privateMethod_at (mvP hZ (hw _ (List.mem_of_getElem? (i := 169) rfl)) (args := #[]))) (mvT hZ (hw _ (List.mem_of_getElem? (i := 171) rfl))) (by decide) (backOf (W := 0) (rm22 l Z aw hw [] a0 wd kd h0 n0 Z0 F_elementData_a0 F_size_a0 F_modCount_a0 E_a0 g_a0 S_DEFAULTCAPACITY_EMPTY_ELEMENTDATA V_wd E_wd) hZ (hw _ (List.mem_of_getElem? (i := 171) rfl)) (hw _ (List.mem_of_getElem? (i := 97) rfl)) (by decide) (by decide)) (g := (mkF m 7 #[.val (.ref a0)] [(.int (1 : Int32)), (.ref a0)])) rfl (by rw [hml]; rfl) (Steps.refl _) (a := a0) (by rw [e1]; exact qp2) qp2' (argsL := [(.int (1 : Int32))]) (rest := []) (lenOf pd_21_0 rfl) rfl (by show 2 * 0 + _ ≤ _; exact Nat.le_of_eq rfl) (hb hby d21_7) (fun _ _ => ⟨rfl, e1, (by decide : 0 + 1 ≤ _), (by decide : 0 + 10 ≤ _)⟩)
  dsimp only [Pt.U, Pt.locs, Pt.cells, Pt.slots] at X2 l2 y2 z2 st2 hQ2
  rw [l2, y2, z2] at X2
  obtain ⟨b2, kb2, hQ2⟩ := hQ2
  obtain ⟨rfl, Nq2, Kq2, P2_0, P2_1, P2_2, P2_3, P2_4, P2_5, P2_6, P2_7, P2_8⟩ := hQ2
  have N2 := Fr.app N0 Nq2
  have ne2_a0 : a0 ≠ b2 := Nat.ne_of_lt (Nat.lt_of_lt_of_le F_elementData_a0.lt P2_1)
  have ne2_wd : wd ≠ b2 := Nat.ne_of_lt (Nat.lt_of_lt_of_le V_wd.lt P2_1)
  have sz2 : h0.size ≤ b2 := Nat.le_trans (Nat.le_refl _) P2_1
  have f2_0 := own_sta_keepE S_DEFAULTCAPACITY_EMPTY_ELEMENTDATA E_a0 Kq2
  have f2_1 := V_wd.keep Kq2 (ninS (ne_exa E_wd E_a0 (by decide)) nin0)
  have f2_2 := E_wd.keep Kq2
  have K2 : Keep h0 T2.heap [a0] := (Keep.refl h0 _).trans Kq2 (allS (Or.inl (List.mem_of_getElem? (i := 0) rfl)) all0)
  have Z2 : n0 ≤ T2.heap.size := Nat.le_trans Z0 Kq2.1
  refine own_back (b := T2.setTop (mkF m 10 #[.val (.ref a0)] [(.ref b2)])) (fun t kt => ?_) ?_
  · show Steps p.tables e below (s₁.setTop (mkF m 0 #[.val (.ref a0)] [])) _
    refine XS.aloadN X0.here hx rfl (hb hby d21_0) rfl rfl ?_
    refine XS.aloadN X0.here hx rfl (hb hby d21_1) rfl rfl ?_
    show Steps p.tables e below (s₁.setTop (mkF m 2 #[.val (.ref a0)] [(.ref a0), (.ref a0)])) _
    refine st1 _ ?_
    refine XS.iconst X1.here hx rfl (hb hby d21_5) ?_
    refine XS.iadd X1.here hx rfl (hb hby d21_6) rfl ?_
    show Steps p.tables e below (T1.setTop (mkF m 7 #[.val (.ref a0)] [(.int (1 : Int32)), (.ref a0)])) _
    refine st2.trans ?_
    exact kt
  obtain ⟨fs, hr, hrun, hended, hW, hsame⟩ := X2.leave (v := some (.ref b2)) (fun h => by rw [Bd.returns] at h; cases h) (BodyLoose.notSynchronized Bd)
  refine ⟨_, _, ?_, hrun, hended, _, _, rfl, ?_, ⟨_, rfl⟩, hW, hsame.mono (by decide) (by decide)⟩
  · show Steps p.tables e below (T2.setTop (mkF m 10 #[.val (.ref a0)] [(.ref b2)])) _
    exact own_retA X2 hx Bd.returns rfl rfl (hb hby d21_10) hr
  · show Q21 Z a0 wd kd h0 n0 _ T2.heap _
    exact ⟨b2, kb2, rfl, N2, K2, P2_0, sz2, P2_2, P2_3, P2_4, P2_5, P2_6, P2_7, P2_8⟩
theorem d20_0 : decode jdk_38_method_24_code 0 = .ok (.iload_n 3, 1) := by decide +kernel
theorem d20_1 : decode jdk_38_method_24_code 1 = .ok (.aload_n 2, 1) := by decide +kernel
theorem d20_2 : decode jdk_38_method_24_code 2 = .ok (.arraylength, 1) := by decide +kernel
theorem d20_3 : decode jdk_38_method_24_code 3 = .ok (.if_icmp .ne 8, 3) := by decide +kernel
theorem d20_6 : decode jdk_38_method_24_code 6 = .ok (.aload_n 0, 1) := by decide +kernel
theorem d20_7 : decode jdk_38_method_24_code 7 = .ok (.invokevirtual 129, 3) := by decide +kernel
theorem d20_10 : decode jdk_38_method_24_code 10 = .ok (.astore_n 2, 1) := by decide +kernel
theorem d20_11 : decode jdk_38_method_24_code 11 = .ok (.aload_n 2, 1) := by decide +kernel
theorem d20_12 : decode jdk_38_method_24_code 12 = .ok (.iload_n 3, 1) := by decide +kernel
theorem d20_13 : decode jdk_38_method_24_code 13 = .ok (.aload_n 1, 1) := by decide +kernel
theorem d20_14 : decode jdk_38_method_24_code 14 = .ok (.aastore, 1) := by decide +kernel
theorem d20_15 : decode jdk_38_method_24_code 15 = .ok (.aload_n 0, 1) := by decide +kernel
theorem d20_16 : decode jdk_38_method_24_code 16 = .ok (.iload_n 3, 1) := by decide +kernel
theorem d20_17 : decode jdk_38_method_24_code 17 = .ok (.iconst 1, 1) := by decide +kernel
theorem d20_18 : decode jdk_38_method_24_code 18 = .ok (.iadd, 1) := by decide +kernel
theorem d20_19 : decode jdk_38_method_24_code 19 = .ok (.putfield 48, 3) := by decide +kernel
theorem d20_22 : decode jdk_38_method_24_code 22 = .ok (.return_, 1) := by decide +kernel
theorem pn_20 : plainName "java/util/ArrayList" = true := by first | (simp [plainName, overriddenIn]; done) | decide +kernel
theorem pd_20_0 : parseMethodDescriptor "()[Ljava/lang/Object;" = some ⟨[], some (.array (.object "java/lang/Object"))⟩ := by decide +kernel
theorem ef_20 (m : MethodId) (x0 : Addr) (x1 : Addr) (x2 : Addr) : entryFrame m #[(.ref x0), (.ref x1), (.ref x2), (.int (0 : Int32))] 4 = mkF m 0 #[.val (.ref x0), .val (.ref x1), .val (.ref x2), .val (.int (0 : Int32))] [] := by first | (simp [entryFrame, mkF, argsToLocals, Value.category]; done) | rfl
def Q20 (Z : State) (a0 : Addr) (a1 : Addr) (wd : Addr) (kd : ClassId) (h0 : Heap) (n0 : Nat) (v : Option Value) (h : Heap) (L : List Loc) : Prop := ∃ (bb : Addr) (kb : ClassId), v = none ∧ Fr n0 L ∧ Keep h0 h [a0] ∧ Exa Z h a0 "java/util/ArrayList" ∧ Fld Z h a0 "java/util/ArrayList" "elementData" "[Ljava/lang/Object;" (.ref bb) ∧ Fld Z h a0 "java/util/ArrayList" "size" "I" (.int (1 : Int32)) ∧ Fld Z h a0 "java/util/AbstractList" "modCount" "I" (.int (1 : Int32)) ∧ Arv Z h bb kb (.object "java/lang/Object") (10 : Int32) [(.ref a1), .null, .null, .null, .null, .null, .null, .null, .null, .null] .null ∧ Exa Z h bb "[Ljava/lang/Object;"
set_option maxRecDepth 65536 in
set_option maxHeartbeats 40000000 in
theorem rm20 (l : Launch) (Z : State) (aw : Array Value) (hw : ∀ d ∈ tables_1, d.before aw Z = true) (ws : List Jvm.Cond) (a0 : Addr) (a1 : Addr) (wd : Addr) (kd : ClassId) (h0 : Heap) (n0 : Nat) (Z0 : n0 ≤ h0.size) (F_elementData_a0 : Fld Z h0 a0 "java/util/ArrayList" "elementData" "[Ljava/lang/Object;" (.ref wd)) (F_size_a0 : Fld Z h0 a0 "java/util/ArrayList" "size" "I" (.int (0 : Int32))) (F_modCount_a0 : Fld Z h0 a0 "java/util/AbstractList" "modCount" "I" (.int (1 : Int32))) (E_a0 : Exa Z h0 a0 "java/util/ArrayList") (g_a0 : n0 ≤ a0) (E_a1 : Exa Z h0 a1 "java/lang/Integer") (S_DEFAULTCAPACITY_EMPTY_ELEMENTDATA : Sta Z h0 "java/util/ArrayList" "DEFAULTCAPACITY_EMPTY_ELEMENTDATA" "[Ljava/lang/Object;" (.ref wd)) (V_wd : Arv Z h0 wd kd (.object "java/lang/Object") (0 : Int32) [] .null) (E_wd : Exa Z h0 wd "[Ljava/lang/Object;") :
    MetFree l (⟨"java/util/ArrayList", "add", "(Ljava/lang/Object;[Ljava/lang/Object;I)V"⟩ : MethodName) (head1 (Jvm.Cond.code (⟨"java/util/ArrayList", "add", "(Ljava/lang/Object;[Ljava/lang/Object;I)V"⟩ : MethodName) jdk_38_method_24_code 4 none :: ws) ({ frames := 3, cells := 1, slots := 10, locals := 41 } : Room)) (fun a U => a = #[(.ref a0), (.ref a1), (.ref wd), (.int (0 : Int32))] ∧ Z.Warmed39 U.vm ∧ U.heap = h0) (fun _ _ _ _ _ => True) (fun _ U o U' => ∃ v L, o = .returned v ∧ Q20 Z a0 a1 wd kd h0 n0 v U'.heap L ∧ FrameEnd U o U' L ({ frames := 3, cells := 1, slots := 10, locals := 41 } : Room).cells ({ frames := 3, cells := 1, slots := 10, locals := 41 } : Room).slots) := by
  refine MetFree.of_bodySF (plainFor_of_name pn_20) hisR ?_
  intro p e s m args below meth c s₁ Bd hml0 hP hK
  obtain ⟨rfl, hZ, hh⟩ := hP
  have hx := Bd.exec
  have hby := Bd.bytes
  have hml : c.maxLocals = 4 := hml0
  have hown : s.vm.findClass "java/util/ArrayList" = some m.cls := findClass_of_methodNamed Bd.named
  have hnm := (name_of_methodNamed Bd.named Bd.method).1
  have X0 : Stand p l e ({ frames := 3, cells := 1, slots := 10, locals := 41 } : Room) s m #[(.ref a0), (.ref a1), (.ref wd), (.int (0 : Int32))] below meth c s₁ [] 0 0 := Stand.of_body Bd
  have e0 : s₁.heap = h0 := by rw [← hh, Bd.state]; rfl
  have N0 := Fr.nil n0
  refine own_back (b := s₁.setTop (mkF m 0 #[.val (.ref a0), .val (.ref a1), .val (.ref wd), .val (.int (0 : Int32))] [])) (fun t kt => castTop (ef_20 m a0 a1 wd) kt) ?_
  obtain ⟨cl1, Ar1, qk1, S1, N1', -, -⟩ := own_same V_wd
  obtain ⟨cq2, qp2, qp2'⟩ := E_a0.cell
  obtain ⟨_, _, ⟨T2, L2, k2, n2⟩, -, X2, ⟨Lc2, hQ2, l2, y2, z2⟩, st2⟩ := X0.privateBack hx (y := (⟨"java/util/ArrayList", "grow", "()[Ljava/lang/Object;"⟩ : MethodName)) hown (mvT hZ (hw _ (List.mem_of_getElem? (i := 162) rfl))) (mvT hZ (hw _ (List.mem_of_getElem? (i := 163) rfl))) (mvT hZ (hw _ (List.mem_of_getElem? (i := 165) rfl))) (Cond.privateMethod_at (mvP hZ (hw _ (List.mem_of_getElem? (i := 164) rfl)) (args := #[]))) (mvT hZ (hw _ (List.mem_of_getElem? (i := 166) rfl))) (by decide) (backOf (W := 0) (rm21 l Z aw hw [] a0 wd kd h0 n0 Z0 F_elementData_a0 F_size_a0 F_modCount_a0 E_a0 g_a0 S_DEFAULTCAPACITY_EMPTY_ELEMENTDATA V_wd E_wd) hZ (hw _ (List.mem_of_getElem? (i := 166) rfl)) (hw _ (List.mem_of_getElem? (i := 97) rfl)) (by decide) (by decide)) (g := (mkF m 7 #[.val (.ref a0), .val (.ref a1), .val (.ref wd), .val (.int (0 : Int32))] [(.ref a0)])) rfl (by rw [hml]; rfl) (Steps.refl _) (a := a0) (by rw [e0]; exact qp2) qp2' (argsL := []) (rest := []) (lenOf pd_20_0 rfl) rfl (by show 2 * 0 + _ ≤ _; exact Nat.le_of_eq rfl) (hb hby d20_7) (fun _ _ => ⟨rfl, e0, (by decide : 0 + 1 ≤ _), (by decide : 0 + 10 ≤ _)⟩)
  dsimp only [Pt.U, Pt.locs, Pt.cells, Pt.slots] at X2 l2 y2 z2 st2 hQ2
  rw [l2, y2, z2] at X2
  obtain ⟨b2, kb2, hQ2⟩ := hQ2
  obtain ⟨rfl, Nq2, Kq2, P2_0, P2_1, P2_2, P2_3, P2_4, P2_5, P2_6, P2_7, P2_8⟩ := hQ2
  have N2 := Fr.app N0 Nq2
  have ne2_a0 : a0 ≠ b2 := Nat.ne_of_lt (Nat.lt_of_lt_of_le F_elementData_a0.lt P2_1)
  have ne2_a1 : a1 ≠ b2 := Nat.ne_of_lt (Nat.lt_of_lt_of_le E_a1.lt P2_1)
  have ne2_wd : wd ≠ b2 := Nat.ne_of_lt (Nat.lt_of_lt_of_le V_wd.lt P2_1)
  have sz2 : h0.size ≤ b2 := Nat.le_trans (Nat.le_refl _) P2_1
  have f2_0 := E_a1.keep Kq2
  have f2_1 := own_sta_keepE S_DEFAULTCAPACITY_EMPTY_ELEMENTDATA E_a0 Kq2
  have f2_2 := V_wd.keep Kq2 (ninS (ne_exa E_wd E_a0 (by decide)) nin0)
  have f2_3 := E_wd.keep Kq2
  have K2 : Keep h0 T2.heap [a0] := (Keep.refl h0 _).trans Kq2 (allS (Or.inl (List.mem_of_getElem? (i := 0) rfl)) all0)
  have Z2 : n0 ≤ T2.heap.size := Nat.le_trans Z0 Kq2.1
  obtain ⟨cl3, Ar3, qk3, S3, N3', Hh3, G3⟩ := own_same P2_6
  have hin3 : ¬ ((0 : Int32) < 0 ∨ cl3.slots.size ≤ ((0 : Int32)).toNatClampNeg) := inb_of S3 ⟨by decide, by decide⟩
  have Sto3 := Sto.ofV Ar3 qk3 P2_8 (Ins.of_exa f2_0 (hw _ (List.mem_of_getElem? (i := 177) rfl)))
  obtain ⟨T4, h4, X4, e4, W4, st4⟩ := Jvm.RoadKit.stR X2 hx hZ rfl Ar3 (j := (0 : Int32)) hin3 rfl Sto3 (g := (mkF m 14 #[.val (.ref a0), .val (.ref a1), .val (.ref b2), .val (.int (0 : Int32))] [(.ref a1), (.int (0 : Int32)), (.ref b2)])) rfl rfl (hb hby d20_14)
  have V4 : Arv Z h4 b2 kb2 (.object "java/lang/Object") (10 : Int32) [(.ref a1), .null, .null, .null, .null, .null, .null, .null, .null, .null] .null := Arv.set Ar3 qk3 S3 N3' Hh3 G3 rfl W4 0 rfl (Nat.le_of_ble_eq_true rfl)
  have f4_0 := f2_0.wr W4
  have f4_1 := f2_1.wr W4
  have f4_2 := f2_2.other W4 ne2_wd
  have f4_3 := f2_3.wr W4
  have f4_4 := P2_2.wr W4
  have f4_5 := P2_3.other W4 (Or.inl ne2_a0)
  have f4_6 := P2_4.other W4 (Or.inl ne2_a0)
  have f4_7 := P2_5.other W4 (Or.inl ne2_a0)
  have f4_8 := P2_7.wr W4
  have K4 : Keep h0 h4 [a0] := K2.wr W4 (Or.inr sz2)
  have Z4 : n0 ≤ h4.size := Nat.le_trans Z2 (Keep.of_wr W4).1
  have N4 := Fr.snoc X4 N2 P2_0
  obtain ⟨T5, h5, X5, e5, W5, st5⟩ := putF X4 hx hZ hown (host := "") (Or.inl (hw _ (List.mem_of_getElem? (i := 155) rfl))) Via.refl e4 f4_6 f4_4 (Or.inl (hw _ (List.mem_of_getElem? (i := 156) rfl))) (hw _ (List.mem_of_getElem? (i := 96) rfl)) (ty := .int) (by decide) rfl rfl (g := (mkF m 19 #[.val (.ref a0), .val (.ref a1), .val (.ref b2), .val (.int (0 : Int32))] [(.int (1 : Int32)), (.ref a0)])) rfl rfl (hb hby d20_19)
  have Fw5 := f4_6.same W5
  have f5_0 := f4_0.wr W5
  have f5_1 := f4_1.wr W5
  have f5_2 := f4_2.other W5 (ne_exa f4_3 f4_4 (by decide))
  have f5_3 := f4_3.wr W5
  have f5_4 := f4_4.wr W5
  have f5_5 := f4_5.other W5 (Or.inr (slot_ne (Or.inl (hw _ (List.mem_of_getElem? (i := 118) rfl))) (Or.inl (hw _ (List.mem_of_getElem? (i := 156) rfl))) (by decide) (t := (.array (.object "java/lang/Object"))) (t' := .int) (by decide) (by decide)))
  have f5_6 := f4_7.other W5 (Or.inr (slot_ne (Or.inl (hw _ (List.mem_of_getElem? (i := 115) rfl))) (Or.inl (hw _ (List.mem_of_getElem? (i := 156) rfl))) (by decide) (t := .int) (t' := .int) (by decide) (by decide)))
  have f5_7 := f4_8.wr W5
  have f5_8 := V4.other W5 (Ne.symm ne2_a0)
  have K5 : Keep h0 h5 [a0] := K4.wr W5 (Or.inl (List.mem_of_getElem? (i := 0) rfl))
  have Z5 : n0 ≤ h5.size := Nat.le_trans Z4 (Keep.of_wr W5).1
  have N5 := Fr.snoc X5 N4 g_a0
  refine own_back (b := T5.setTop (mkF m 22 #[.val (.ref a0), .val (.ref a1), .val (.ref b2), .val (.int (0 : Int32))] [])) (fun t kt => ?_) ?_
  · show Steps p.tables e below (s₁.setTop (mkF m 0 #[.val (.ref a0), .val (.ref a1), .val (.ref wd), .val (.int (0 : Int32))] [])) _
    refine XS.iloadN X0.here hx rfl (hb hby d20_0) rfl ?_
    refine XS.aloadN X0.here hx rfl (hb hby d20_1) rfl rfl ?_
    show Steps p.tables e below (s₁.setTop (mkF m 2 #[.val (.ref a0), .val (.ref a1), .val (.ref wd), .val (.int (0 : Int32))] [(.ref wd), (.int (0 : Int32))])) _
    refine X0.arraylength hx (by rw [e0]; exact Ar1.1) (State.isArrayOf_alike hZ.alike Ar1.2.1) (g := (mkF m 2 #[.val (.ref a0), .val (.ref a1), .val (.ref wd), .val (.int (0 : Int32))] [(.ref wd), (.int (0 : Int32))])) rfl rfl (hb hby d20_2) _ ?_
    rw [len_of S1 N1']
    refine XS.icmpNo X0.here hx rfl (hb hby d20_3) rfl (teq (by decide : (0 : Int32) = (0 : Int32))).2 ?_
    refine XS.aloadN X0.here hx rfl (hb hby d20_6) rfl rfl ?_
    show Steps p.tables e below (s₁.setTop (mkF m 7 #[.val (.ref a0), .val (.ref a1), .val (.ref wd), .val (.int (0 : Int32))] [(.ref a0)])) _
    refine st2.trans ?_
    refine XS.astoreN X2.here hx rfl (hb hby d20_10) rfl rfl (l' := #[.val (.ref a0), .val (.ref a1), .val (.ref b2), .val (.int (0 : Int32))]) rfl ?_
    refine XS.aloadN X2.here hx rfl (hb hby d20_11) rfl rfl ?_
    refine XS.iloadN X2.here hx rfl (hb hby d20_12) rfl ?_
    refine XS.aloadN X2.here hx rfl (hb hby d20_13) rfl rfl ?_
    show Steps p.tables e below (T2.setTop (mkF m 14 #[.val (.ref a0), .val (.ref a1), .val (.ref b2), .val (.int (0 : Int32))] [(.ref a1), (.int (0 : Int32)), (.ref b2)])) _
    refine st4 _ ?_
    refine XS.aloadN X4.here hx rfl (hb hby d20_15) rfl rfl ?_
    refine XS.iloadN X4.here hx rfl (hb hby d20_16) rfl ?_
    refine XS.iconst X4.here hx rfl (hb hby d20_17) ?_
    refine XS.iadd X4.here hx rfl (hb hby d20_18) rfl ?_
    show Steps p.tables e below (T4.setTop (mkF m 19 #[.val (.ref a0), .val (.ref a1), .val (.ref b2), .val (.int (0 : Int32))] [(.int (1 : Int32)), (.ref a0)])) _
    refine st5 _ ?_
    exact kt
  obtain ⟨fs, hr, hrun, hended, hW, hsame⟩ := X5.leave (v := none) (fun _ => rfl) (BodyLoose.notSynchronized Bd)
  refine ⟨_, _, ?_, hrun, hended, _, _, rfl, ?_, ⟨_, rfl⟩, hW, hsame.mono (by decide) (by decide)⟩
  · show Steps p.tables e below (T5.setTop (mkF m 22 #[.val (.ref a0), .val (.ref a1), .val (.ref b2), .val (.int (0 : Int32))] [])) _
    exact X5.returnOut hx Bd.returns (hb hby d20_22) hr
  · show Q20 Z a0 a1 wd kd h0 n0 _ T5.heap _
    rw [e5]
    exact ⟨b2, kb2, rfl, N5, K5, f5_4, f5_5, Fw5, f5_6, f5_8, f5_7⟩
theorem d19_0 : decode jdk_38_method_25_code 0 = .ok (.aload_n 0, 1) := by decide +kernel
theorem d19_1 : decode jdk_38_method_25_code 1 = .ok (.dup, 1) := by decide +kernel
theorem d19_2 : decode jdk_38_method_25_code 2 = .ok (.getfield 63, 3) := by decide +kernel
theorem d19_5 : decode jdk_38_method_25_code 5 = .ok (.iconst 1, 1) := by decide +kernel
theorem d19_6 : decode jdk_38_method_25_code 6 = .ok (.iadd, 1) := by decide +kernel
theorem d19_7 : decode jdk_38_method_25_code 7 = .ok (.putfield 63, 3) := by decide +kernel
theorem d19_10 : decode jdk_38_method_25_code 10 = .ok (.aload_n 0, 1) := by decide +kernel
theorem d19_11 : decode jdk_38_method_25_code 11 = .ok (.aload_n 1, 1) := by decide +kernel
theorem d19_12 : decode jdk_38_method_25_code 12 = .ok (.aload_n 0, 1) := by decide +kernel
theorem d19_13 : decode jdk_38_method_25_code 13 = .ok (.getfield 9, 3) := by decide +kernel
theorem d19_16 : decode jdk_38_method_25_code 16 = .ok (.aload_n 0, 1) := by decide +kernel
theorem d19_17 : decode jdk_38_method_25_code 17 = .ok (.getfield 48, 3) := by decide +kernel
theorem d19_20 : decode jdk_38_method_25_code 20 = .ok (.invokevirtual 131, 3) := by decide +kernel
theorem d19_23 : decode jdk_38_method_25_code 23 = .ok (.iconst 1, 1) := by decide +kernel
theorem d19_24 : decode jdk_38_method_25_code 24 = .ok (.ireturn, 1) := by decide +kernel
theorem pn_19 : plainName "java/util/ArrayList" = true := by first | (simp [plainName, overriddenIn]; done) | decide +kernel
theorem pd_19_0 : parseMethodDescriptor "(Ljava/lang/Object;[Ljava/lang/Object;I)V" = some ⟨[(.object "java/lang/Object"), (.array (.object "java/lang/Object")), .int], none⟩ := by decide +kernel
theorem ef_19 (m : MethodId) (x0 : Addr) (x1 : Addr) : entryFrame m #[(.ref x0), (.ref x1)] 2 = mkF m 0 #[.val (.ref x0), .val (.ref x1)] [] := by first | (simp [entryFrame, mkF, argsToLocals, Value.category]; done) | rfl
def Q19 (Z : State) (a0 : Addr) (a1 : Addr) (wd : Addr) (kd : ClassId) (h0 : Heap) (n0 : Nat) (v : Option Value) (h : Heap) (L : List Loc) : Prop := ∃ (bb : Addr) (kb : ClassId), v = some (.int (1 : Int32)) ∧ Fr n0 L ∧ Keep h0 h [a0] ∧ Exa Z h a0 "java/util/ArrayList" ∧ Fld Z h a0 "java/util/ArrayList" "elementData" "[Ljava/lang/Object;" (.ref bb) ∧ Fld Z h a0 "java/util/ArrayList" "size" "I" (.int (1 : Int32)) ∧ Fld Z h a0 "java/util/AbstractList" "modCount" "I" (.int (1 : Int32)) ∧ Arv Z h bb kb (.object "java/lang/Object") (10 : Int32) [(.ref a1), .null, .null, .null, .null, .null, .null, .null, .null, .null] .null ∧ Exa Z h bb "[Ljava/lang/Object;"
set_option maxRecDepth 65536 in
set_option maxHeartbeats 40000000 in
theorem rm19 (l : Launch) (Z : State) (aw : Array Value) (hw : ∀ d ∈ tables_1, d.before aw Z = true) (ws : List Jvm.Cond) (a0 : Addr) (a1 : Addr) (wd : Addr) (kd : ClassId) (h0 : Heap) (n0 : Nat) (Z0 : n0 ≤ h0.size) (F_elementData_a0 : Fld Z h0 a0 "java/util/ArrayList" "elementData" "[Ljava/lang/Object;" (.ref wd)) (F_size_a0 : Fld Z h0 a0 "java/util/ArrayList" "size" "I" (.int (0 : Int32))) (F_modCount_a0 : Fld Z h0 a0 "java/util/AbstractList" "modCount" "I" (.int (0 : Int32))) (E_a0 : Exa Z h0 a0 "java/util/ArrayList") (g_a0 : n0 ≤ a0) (E_a1 : Exa Z h0 a1 "java/lang/Integer") (S_DEFAULTCAPACITY_EMPTY_ELEMENTDATA : Sta Z h0 "java/util/ArrayList" "DEFAULTCAPACITY_EMPTY_ELEMENTDATA" "[Ljava/lang/Object;" (.ref wd)) (V_wd : Arv Z h0 wd kd (.object "java/lang/Object") (0 : Int32) [] .null) (E_wd : Exa Z h0 wd "[Ljava/lang/Object;") :
    MetFree l (⟨"java/util/ArrayList", "add", "(Ljava/lang/Object;)Z"⟩ : MethodName) (head1 (Jvm.Cond.code (⟨"java/util/ArrayList", "add", "(Ljava/lang/Object;)Z"⟩ : MethodName) jdk_38_method_25_code 2 (some .boolean) :: ws) ({ frames := 4, cells := 1, slots := 10, locals := 56 } : Room)) (fun a U => a = #[(.ref a0), (.ref a1)] ∧ Z.Warmed39 U.vm ∧ U.heap = h0) (fun _ _ _ _ _ => True) (fun _ U o U' => ∃ v L, o = .returned v ∧ Q19 Z a0 a1 wd kd h0 n0 v U'.heap L ∧ FrameEnd U o U' L ({ frames := 4, cells := 1, slots := 10, locals := 56 } : Room).cells ({ frames := 4, cells := 1, slots := 10, locals := 56 } : Room).slots) := by
  refine MetFree.of_bodySF (plainFor_of_name pn_19) hisR ?_
  intro p e s m args below meth c s₁ Bd hml0 hP hK
  obtain ⟨rfl, hZ, hh⟩ := hP
  have hx := Bd.exec
  have hby := Bd.bytes
  have hml : c.maxLocals = 2 := hml0
  have hown : s.vm.findClass "java/util/ArrayList" = some m.cls := findClass_of_methodNamed Bd.named
  have hnm := (name_of_methodNamed Bd.named Bd.method).1
  have X0 : Stand p l e ({ frames := 4, cells := 1, slots := 10, locals := 56 } : Room) s m #[(.ref a0), (.ref a1)] below meth c s₁ [] 0 0 := Stand.of_body Bd
  have e0 : s₁.heap = h0 := by rw [← hh, Bd.state]; rfl
  have N0 := Fr.nil n0
  refine own_back (b := s₁.setTop (mkF m 0 #[.val (.ref a0), .val (.ref a1)] [])) (fun t kt => castTop (ef_19 m a0 a1) kt) ?_
  obtain ⟨T1, X1, e1, st1⟩ := getF X0 hx hZ hown (host := "") (Or.inl (hw _ (List.mem_of_getElem? (i := 153) rfl))) (Via.of (hw _ (List.mem_of_getElem? (i := 154) rfl))) e0 F_modCount_a0 (g := (mkF m 2 #[.val (.ref a0), .val (.ref a1)] [(.ref a0), (.ref a0)])) rfl rfl (hb hby d19_2)
  obtain ⟨T2, h2, X2, e2, W2, st2⟩ := putF X1 hx hZ hown (host := "") (Or.inl (hw _ (List.mem_of_getElem? (i := 153) rfl))) (Via.of (hw _ (List.mem_of_getElem? (i := 154) rfl))) e1 F_modCount_a0 E_a0 (Or.inl (hw _ (List.mem_of_getElem? (i := 115) rfl))) (hw _ (List.mem_of_getElem? (i := 96) rfl)) (ty := .int) (by decide) rfl rfl (g := (mkF m 7 #[.val (.ref a0), .val (.ref a1)] [(.int (1 : Int32)), (.ref a0)])) rfl rfl (hb hby d19_7)
  have Fw2 := F_modCount_a0.same W2
  have f2_0 := F_elementData_a0.other W2 (Or.inr (slot_ne (Or.inl (hw _ (List.mem_of_getElem? (i := 118) rfl))) (Or.inl (hw _ (List.mem_of_getElem? (i := 115) rfl))) (by decide) (t := (.array (.object "java/lang/Object"))) (t' := .int) (by decide) (by decide)))
  have f2_1 := F_size_a0.other W2 (Or.inr (slot_ne (Or.inl (hw _ (List.mem_of_getElem? (i := 156) rfl))) (Or.inl (hw _ (List.mem_of_getElem? (i := 115) rfl))) (by decide) (t := .int) (t' := .int) (by decide) (by decide)))
  have f2_2 := E_a0.wr W2
  have f2_3 := E_a1.wr W2
  have f2_4 := S_DEFAULTCAPACITY_EMPTY_ELEMENTDATA.wr W2
  have f2_5 := V_wd.other W2 (ne_exa E_wd E_a0 (by decide))
  have f2_6 := E_wd.wr W2
  have K2 : Keep h0 h2 [a0] := (Keep.refl h0 _).wr W2 (Or.inl (List.mem_of_getElem? (i := 0) rfl))
  have Z2 : n0 ≤ h2.size := Nat.le_trans Z0 (Keep.of_wr W2).1
  have N2 := Fr.snoc X2 N0 g_a0
  obtain ⟨T3, X3, e3, st3⟩ := getF X2 hx hZ hown (host := "") (Or.inl (hw _ (List.mem_of_getElem? (i := 117) rfl))) Via.refl e2 f2_0 (g := (mkF m 13 #[.val (.ref a0), .val (.ref a1)] [(.ref a0), (.ref a1), (.ref a0)])) rfl rfl (hb hby d19_13)
  obtain ⟨T4, X4, e4, st4⟩ := getF X3 hx hZ hown (host := "") (Or.inl (hw _ (List.mem_of_getElem? (i := 155) rfl))) Via.refl e3 f2_1 (g := (mkF m 17 #[.val (.ref a0), .val (.ref a1)] [(.ref a0), (.ref wd), (.ref a1), (.ref a0)])) rfl rfl (hb hby d19_17)
  obtain ⟨cq5, qp5, qp5'⟩ := f2_2.cell
  obtain ⟨_, _, ⟨T5, L5, k5, n5⟩, -, X5, ⟨Lc5, hQ5, l5, y5, z5⟩, st5⟩ := X4.privateBack hx (y := (⟨"java/util/ArrayList", "add", "(Ljava/lang/Object;[Ljava/lang/Object;I)V"⟩ : MethodName)) hown (mvT hZ (hw _ (List.mem_of_getElem? (i := 157) rfl))) (mvT hZ (hw _ (List.mem_of_getElem? (i := 158) rfl))) (mvT hZ (hw _ (List.mem_of_getElem? (i := 160) rfl))) (Cond.privateMethod_at (mvP hZ (hw _ (List.mem_of_getElem? (i := 159) rfl)) (args := #[]))) (mvT hZ (hw _ (List.mem_of_getElem? (i := 161) rfl))) (by decide) (backOf (W := 0) (rm20 l Z aw hw [] a0 a1 wd kd h2 n0 Z2 f2_0 f2_1 Fw2 f2_2 g_a0 f2_3 f2_4 f2_5 f2_6) hZ (hw _ (List.mem_of_getElem? (i := 161) rfl)) (hw _ (List.mem_of_getElem? (i := 97) rfl)) (by decide) (by decide)) (g := (mkF m 20 #[.val (.ref a0), .val (.ref a1)] [(.int (0 : Int32)), (.ref wd), (.ref a1), (.ref a0)])) rfl (by rw [hml]; rfl) (Steps.refl _) (a := a0) (by rw [e4]; exact qp5) qp5' (argsL := [(.ref a1), (.ref wd), (.int (0 : Int32))]) (rest := []) (lenOf pd_19_0 rfl) rfl (by show 2 * 0 + _ ≤ _; exact Nat.le_of_eq rfl) (hb hby d19_20) (fun _ _ => ⟨rfl, e4, (by decide : 0 + 1 ≤ _), (by decide : 0 + 10 ≤ _)⟩)
  dsimp only [Pt.U, Pt.locs, Pt.cells, Pt.slots] at X5 l5 y5 z5 st5 hQ5
  rw [l5, y5, z5] at X5
  obtain ⟨bb5, kb5, hQ5⟩ := hQ5
  obtain ⟨rfl, Nq5, Kq5, P5_0, P5_1, P5_2, P5_3, P5_4, P5_5⟩ := hQ5
  have N5 := Fr.app N2 Nq5
  have f5_0 := f2_3.keep Kq5
  have f5_1 := own_sta_keepE f2_4 f2_2 Kq5
  have f5_2 := f2_5.keep Kq5 (ninS (ne_exa f2_6 f2_2 (by decide)) nin0)
  have f5_3 := f2_6.keep Kq5
  have K5 : Keep h0 T5.heap [a0] := K2.trans Kq5 (allS (Or.inl (List.mem_of_getElem? (i := 0) rfl)) all0)
  have Z5 : n0 ≤ T5.heap.size := Nat.le_trans Z2 Kq5.1
  refine own_back (b := T5.setTop (mkF m 24 #[.val (.ref a0), .val (.ref a1)] [(.int (1 : Int32))])) (fun t kt => ?_) ?_
  · show Steps p.tables e below (s₁.setTop (mkF m 0 #[.val (.ref a0), .val (.ref a1)] [])) _
    refine XS.aloadN X0.here hx rfl (hb hby d19_0) rfl rfl ?_
    refine XS.dup X0.here hx rfl (hb hby d19_1) rfl rfl ?_
    show Steps p.tables e below (s₁.setTop (mkF m 2 #[.val (.ref a0), .val (.ref a1)] [(.ref a0), (.ref a0)])) _
    refine st1 _ ?_
    refine XS.iconst X1.here hx rfl (hb hby d19_5) ?_
    refine XS.iadd X1.here hx rfl (hb hby d19_6) rfl ?_
    show Steps p.tables e below (T1.setTop (mkF m 7 #[.val (.ref a0), .val (.ref a1)] [(.int (1 : Int32)), (.ref a0)])) _
    refine st2 _ ?_
    refine XS.aloadN X2.here hx rfl (hb hby d19_10) rfl rfl ?_
    refine XS.aloadN X2.here hx rfl (hb hby d19_11) rfl rfl ?_
    refine XS.aloadN X2.here hx rfl (hb hby d19_12) rfl rfl ?_
    show Steps p.tables e below (T2.setTop (mkF m 13 #[.val (.ref a0), .val (.ref a1)] [(.ref a0), (.ref a1), (.ref a0)])) _
    refine st3 _ ?_
    refine XS.aloadN X3.here hx rfl (hb hby d19_16) rfl rfl ?_
    show Steps p.tables e below (T3.setTop (mkF m 17 #[.val (.ref a0), .val (.ref a1)] [(.ref a0), (.ref wd), (.ref a1), (.ref a0)])) _
    refine st4 _ ?_
    show Steps p.tables e below (T4.setTop (mkF m 20 #[.val (.ref a0), .val (.ref a1)] [(.int (0 : Int32)), (.ref wd), (.ref a1), (.ref a0)])) _
    refine st5.trans ?_
    refine XS.iconst X5.here hx rfl (hb hby d19_23) ?_
    exact kt
  obtain ⟨fs, hr, hrun, hended, hW, hsame⟩ := X5.leave (v := some (.int (1 : Int32))) (fun h => by rw [Bd.returns] at h; cases h) (BodyLoose.notSynchronized Bd)
  refine ⟨_, _, ?_, hrun, hended, _, _, rfl, ?_, ⟨_, rfl⟩, hW, hsame.mono (by decide) (by decide)⟩
  · show Steps p.tables e below (T5.setTop (mkF m 24 #[.val (.ref a0), .val (.ref a1)] [(.int (1 : Int32))])) _
    exact retN X5 hx (t := .boolean) Bd.returns (by simp) (hb hby d19_24) hr
  · show Q19 Z a0 a1 wd kd h0 n0 _ T5.heap _
    exact ⟨bb5, kb5, rfl, N5, K5, P5_0, P5_1, P5_2, P5_3, P5_4, P5_5⟩
theorem d26_0 : decode jdk_49_method_1_code 0 = .ok (.aload_n 0, 1) := by decide +kernel
theorem d26_1 : decode jdk_49_method_1_code 1 = .ok (.aload_n 1, 1) := by decide +kernel
theorem d26_2 : decode jdk_49_method_1_code 2 = .ok (.putfield 1, 3) := by decide +kernel
theorem d26_5 : decode jdk_49_method_1_code 5 = .ok (.aload_n 0, 1) := by decide +kernel
theorem d26_6 : decode jdk_49_method_1_code 6 = .ok (.invokespecial 7, 3) := by decide +kernel
theorem d26_9 : decode jdk_49_method_1_code 9 = .ok (.aload_n 0, 1) := by decide +kernel
theorem d26_10 : decode jdk_49_method_1_code 10 = .ok (.iconst (-1), 1) := by decide +kernel
theorem d26_11 : decode jdk_49_method_1_code 11 = .ok (.putfield 13, 3) := by decide +kernel
theorem d26_14 : decode jdk_49_method_1_code 14 = .ok (.aload_n 0, 1) := by decide +kernel
theorem d26_15 : decode jdk_49_method_1_code 15 = .ok (.aload_n 0, 1) := by decide +kernel
theorem d26_16 : decode jdk_49_method_1_code 16 = .ok (.getfield 1, 3) := by decide +kernel
theorem d26_19 : decode jdk_49_method_1_code 19 = .ok (.getfield 17, 3) := by decide +kernel
theorem d26_22 : decode jdk_49_method_1_code 22 = .ok (.putfield 22, 3) := by decide +kernel
theorem d26_25 : decode jdk_49_method_1_code 25 = .ok (.return_, 1) := by decide +kernel
theorem pn_26 : plainName "java/util/ArrayList$Itr" = true := by first | (simp [plainName, overriddenIn]; done) | decide +kernel
theorem ef_26 (m : MethodId) (x0 : Addr) (x1 : Addr) : entryFrame m #[(.ref x0), (.ref x1)] 2 = mkF m 0 #[.val (.ref x0), .val (.ref x1)] [] := by first | (simp [entryFrame, mkF, argsToLocals, Value.category]; done) | rfl
def Q26 (Z : State) (a0 : Addr) (a1 : Addr) (wm : Int32) (h0 : Heap) (n0 : Nat) (v : Option Value) (h : Heap) (L : List Loc) : Prop := v = none ∧ Fr n0 L ∧ Keep h0 h [a0] ∧ Exa Z h a0 "java/util/ArrayList$Itr" ∧ Fld Z h a0 "java/util/ArrayList$Itr" "this$0" "Ljava/util/ArrayList;" (.ref a1) ∧ Fld Z h a0 "java/util/ArrayList$Itr" "cursor" "I" (.int (0 : Int32)) ∧ Fld Z h a0 "java/util/ArrayList$Itr" "expectedModCount" "I" (.int wm) ∧ Fld Z h a0 "java/util/ArrayList$Itr" "lastRet" "I" (.int (-1 : Int32))
set_option maxRecDepth 65536 in
set_option maxHeartbeats 40000000 in
theorem rm26 (l : Launch) (Z : State) (aw : Array Value) (hw : ∀ d ∈ tables_1, d.before aw Z = true) (ws : List Jvm.Cond) (a0 : Addr) (a1 : Addr) (wm : Int32) (h0 : Heap) (n0 : Nat) (Z0 : n0 ≤ h0.size) (F_this_0_a0 : Fld Z h0 a0 "java/util/ArrayList$Itr" "this$0" "Ljava/util/ArrayList;" .null) (F_lastRet_a0 : Fld Z h0 a0 "java/util/ArrayList$Itr" "lastRet" "I" (.int (0 : Int32))) (F_cursor_a0 : Fld Z h0 a0 "java/util/ArrayList$Itr" "cursor" "I" (.int (0 : Int32))) (F_expectedModCount_a0 : Fld Z h0 a0 "java/util/ArrayList$Itr" "expectedModCount" "I" (.int (0 : Int32))) (E_a0 : Exa Z h0 a0 "java/util/ArrayList$Itr") (g_a0 : n0 ≤ a0) (E_a1 : Exa Z h0 a1 "java/util/ArrayList") (F_modCount_a1 : Fld Z h0 a1 "java/util/AbstractList" "modCount" "I" (.int wm)) :
    MetFree l (⟨"java/util/ArrayList$Itr", "<init>", "(Ljava/util/ArrayList;)V"⟩ : MethodName) (head1 (Jvm.Cond.code (⟨"java/util/ArrayList$Itr", "<init>", "(Ljava/util/ArrayList;)V"⟩ : MethodName) jdk_49_method_1_code 2 none :: ws) ({ frames := 1, cells := 0, slots := 0, locals := 12 } : Room)) (fun a U => a = #[(.ref a0), (.ref a1)] ∧ Z.Warmed39 U.vm ∧ U.heap = h0) (fun _ _ _ _ _ => True) (fun _ U o U' => ∃ v L, o = .returned v ∧ Q26 Z a0 a1 wm h0 n0 v U'.heap L ∧ FrameEnd U o U' L ({ frames := 1, cells := 0, slots := 0, locals := 12 } : Room).cells ({ frames := 1, cells := 0, slots := 0, locals := 12 } : Room).slots) := by
  refine MetFree.of_bodySF (plainFor_of_name pn_26) hisR ?_
  intro p e s m args below meth c s₁ Bd hml0 hP hK
  obtain ⟨rfl, hZ, hh⟩ := hP
  have hx := Bd.exec
  have hby := Bd.bytes
  have hml : c.maxLocals = 2 := hml0
  have hown : s.vm.findClass "java/util/ArrayList$Itr" = some m.cls := findClass_of_methodNamed Bd.named
  have hnm := (name_of_methodNamed Bd.named Bd.method).1
  have X0 : Stand p l e ({ frames := 1, cells := 0, slots := 0, locals := 12 } : Room) s m #[(.ref a0), (.ref a1)] below meth c s₁ [] 0 0 := Stand.of_body Bd
  have e0 : s₁.heap = h0 := by rw [← hh, Bd.state]; rfl
  have N0 := Fr.nil n0
  refine own_back (b := s₁.setTop (mkF m 0 #[.val (.ref a0), .val (.ref a1)] [])) (fun t kt => castTop (ef_26 m a0 a1) kt) ?_
  obtain ⟨T1, h1, X1, e1, W1, st1⟩ := putF X0 hx hZ hown (host := "") (Or.inl (hw _ (List.mem_of_getElem? (i := 199) rfl))) Via.refl e0 F_this_0_a0 E_a0 (Or.inr ⟨(hw _ (List.mem_of_getElem? (i := 200) rfl)), rfl, hnm⟩) (hw _ (List.mem_of_getElem? (i := 193) rfl)) (ty := (.object "java/util/ArrayList")) (by decide) rfl rfl (g := (mkF m 2 #[.val (.ref a0), .val (.ref a1)] [(.ref a1), (.ref a0)])) rfl rfl (hb hby d26_2)
  have Fw1 := F_this_0_a0.same W1
  have f1_0 := F_lastRet_a0.other W1 (Or.inr (slot_ne (Or.inl (hw _ (List.mem_of_getElem? (i := 203) rfl))) (Or.inr (hw _ (List.mem_of_getElem? (i := 200) rfl))) (by decide) (t := .int) (t' := (.object "java/util/ArrayList")) (by decide) (by decide)))
  have f1_1 := F_cursor_a0.other W1 (Or.inr (slot_ne (Or.inl (hw _ (List.mem_of_getElem? (i := 217) rfl))) (Or.inr (hw _ (List.mem_of_getElem? (i := 200) rfl))) (by decide) (t := .int) (t' := (.object "java/util/ArrayList")) (by decide) (by decide)))
  have f1_2 := F_expectedModCount_a0.other W1 (Or.inr (slot_ne (Or.inl (hw _ (List.mem_of_getElem? (i := 206) rfl))) (Or.inr (hw _ (List.mem_of_getElem? (i := 200) rfl))) (by decide) (t := .int) (t' := (.object "java/util/ArrayList")) (by decide) (by decide)))
  have f1_3 := E_a0.wr W1
  have f1_4 := E_a1.wr W1
  have f1_5 := F_modCount_a1.other W1 (Or.inl (ne_exa E_a1 E_a0 (by decide)))
  have K1 : Keep h0 h1 [a0] := (Keep.refl h0 _).wr W1 (Or.inl (List.mem_of_getElem? (i := 0) rfl))
  have Z1 : n0 ≤ h1.size := Nat.le_trans Z0 (Keep.of_wr W1).1
  have N1 := Fr.snoc X1 N0 g_a0
  obtain ⟨T2, X2, e2, st2⟩ := initO X1 hx hZ hown (hw _ (List.mem_of_getElem? (i := 201) rfl)) (hw _ (List.mem_of_getElem? (i := 11) rfl)) (hw _ (List.mem_of_getElem? (i := 12) rfl)) e1 (g := (mkF m 6 #[.val (.ref a0), .val (.ref a1)] [(.ref a0)])) rfl (by rw [hml]; rfl) rfl (hb hby d26_6) (by decide) (W := 0) (by show 2 * 0 + _ ≤ _; exact Nat.le_of_eq rfl) (by decide)
  obtain ⟨T3, h3, X3, e3, W3, st3⟩ := putF X2 hx hZ hown (host := "") (Or.inl (hw _ (List.mem_of_getElem? (i := 202) rfl))) Via.refl e2 f1_0 f1_3 (Or.inl (hw _ (List.mem_of_getElem? (i := 203) rfl))) (hw _ (List.mem_of_getElem? (i := 193) rfl)) (ty := .int) (by decide) rfl rfl (g := (mkF m 11 #[.val (.ref a0), .val (.ref a1)] [(.int (-1 : Int32)), (.ref a0)])) rfl rfl (hb hby d26_11)
  have Fw3 := f1_0.same W3
  have f3_0 := f1_1.other W3 (Or.inr (slot_ne (Or.inl (hw _ (List.mem_of_getElem? (i := 217) rfl))) (Or.inl (hw _ (List.mem_of_getElem? (i := 203) rfl))) (by decide) (t := .int) (t' := .int) (by decide) (by decide)))
  have f3_1 := f1_2.other W3 (Or.inr (slot_ne (Or.inl (hw _ (List.mem_of_getElem? (i := 206) rfl))) (Or.inl (hw _ (List.mem_of_getElem? (i := 203) rfl))) (by decide) (t := .int) (t' := .int) (by decide) (by decide)))
  have f3_2 := f1_3.wr W3
  have f3_3 := f1_4.wr W3
  have f3_4 := f1_5.other W3 (Or.inl (ne_exa f1_4 f1_3 (by decide)))
  have f3_5 := Fw1.other W3 (Or.inr (slot_ne (Or.inr (hw _ (List.mem_of_getElem? (i := 200) rfl))) (Or.inl (hw _ (List.mem_of_getElem? (i := 203) rfl))) (by decide) (t := (.object "java/util/ArrayList")) (t' := .int) (by decide) (by decide)))
  have K3 : Keep h0 h3 [a0] := K1.wr W3 (Or.inl (List.mem_of_getElem? (i := 0) rfl))
  have Z3 : n0 ≤ h3.size := Nat.le_trans Z1 (Keep.of_wr W3).1
  have N3 := Fr.snoc X3 N1 g_a0
  obtain ⟨T4, X4, e4, st4⟩ := getF X3 hx hZ hown (host := "") (Or.inl (hw _ (List.mem_of_getElem? (i := 199) rfl))) Via.refl e3 f3_5 (g := (mkF m 16 #[.val (.ref a0), .val (.ref a1)] [(.ref a0), (.ref a0)])) rfl rfl (hb hby d26_16)
  obtain ⟨T5, X5, e5, st5⟩ := getF X4 hx hZ hown (host := "") (Or.inl (hw _ (List.mem_of_getElem? (i := 204) rfl))) (Via.of (hw _ (List.mem_of_getElem? (i := 154) rfl))) e4 f3_4 (g := (mkF m 19 #[.val (.ref a0), .val (.ref a1)] [(.ref a1), (.ref a0)])) rfl rfl (hb hby d26_19)
  obtain ⟨T6, h6, X6, e6, W6, st6⟩ := putF X5 hx hZ hown (host := "") (Or.inl (hw _ (List.mem_of_getElem? (i := 205) rfl))) Via.refl e5 f3_1 f3_2 (Or.inl (hw _ (List.mem_of_getElem? (i := 206) rfl))) (hw _ (List.mem_of_getElem? (i := 193) rfl)) (ty := .int) (by decide) rfl rfl (g := (mkF m 22 #[.val (.ref a0), .val (.ref a1)] [(.int wm), (.ref a0)])) rfl rfl (hb hby d26_22)
  have Fw6 := f3_1.same W6
  have f6_0 := f3_0.other W6 (Or.inr (slot_ne (Or.inl (hw _ (List.mem_of_getElem? (i := 217) rfl))) (Or.inl (hw _ (List.mem_of_getElem? (i := 206) rfl))) (by decide) (t := .int) (t' := .int) (by decide) (by decide)))
  have f6_1 := f3_2.wr W6
  have f6_2 := f3_3.wr W6
  have f6_3 := f3_4.other W6 (Or.inl (ne_exa f3_3 f3_2 (by decide)))
  have f6_4 := f3_5.other W6 (Or.inr (slot_ne (Or.inr (hw _ (List.mem_of_getElem? (i := 200) rfl))) (Or.inl (hw _ (List.mem_of_getElem? (i := 206) rfl))) (by decide) (t := (.object "java/util/ArrayList")) (t' := .int) (by decide) (by decide)))
  have f6_5 := Fw3.other W6 (Or.inr (slot_ne (Or.inl (hw _ (List.mem_of_getElem? (i := 203) rfl))) (Or.inl (hw _ (List.mem_of_getElem? (i := 206) rfl))) (by decide) (t := .int) (t' := .int) (by decide) (by decide)))
  have K6 : Keep h0 h6 [a0] := K3.wr W6 (Or.inl (List.mem_of_getElem? (i := 0) rfl))
  have Z6 : n0 ≤ h6.size := Nat.le_trans Z3 (Keep.of_wr W6).1
  have N6 := Fr.snoc X6 N3 g_a0
  refine own_back (b := T6.setTop (mkF m 25 #[.val (.ref a0), .val (.ref a1)] [])) (fun t kt => ?_) ?_
  · show Steps p.tables e below (s₁.setTop (mkF m 0 #[.val (.ref a0), .val (.ref a1)] [])) _
    refine XS.aloadN X0.here hx rfl (hb hby d26_0) rfl rfl ?_
    refine XS.aloadN X0.here hx rfl (hb hby d26_1) rfl rfl ?_
    show Steps p.tables e below (s₁.setTop (mkF m 2 #[.val (.ref a0), .val (.ref a1)] [(.ref a1), (.ref a0)])) _
    refine st1 _ ?_
    refine XS.aloadN X1.here hx rfl (hb hby d26_5) rfl rfl ?_
    show Steps p.tables e below (T1.setTop (mkF m 6 #[.val (.ref a0), .val (.ref a1)] [(.ref a0)])) _
    refine st2 _ ?_
    refine XS.aloadN X2.here hx rfl (hb hby d26_9) rfl rfl ?_
    refine XS.iconst X2.here hx rfl (hb hby d26_10) ?_
    show Steps p.tables e below (T2.setTop (mkF m 11 #[.val (.ref a0), .val (.ref a1)] [(.int (-1 : Int32)), (.ref a0)])) _
    refine st3 _ ?_
    refine XS.aloadN X3.here hx rfl (hb hby d26_14) rfl rfl ?_
    refine XS.aloadN X3.here hx rfl (hb hby d26_15) rfl rfl ?_
    show Steps p.tables e below (T3.setTop (mkF m 16 #[.val (.ref a0), .val (.ref a1)] [(.ref a0), (.ref a0)])) _
    refine st4 _ ?_
    show Steps p.tables e below (T4.setTop (mkF m 19 #[.val (.ref a0), .val (.ref a1)] [(.ref a1), (.ref a0)])) _
    refine st5 _ ?_
    show Steps p.tables e below (T5.setTop (mkF m 22 #[.val (.ref a0), .val (.ref a1)] [(.int wm), (.ref a0)])) _
    refine st6 _ ?_
    exact kt
  obtain ⟨fs, hr, hrun, hended, hW, hsame⟩ := X6.leave (v := none) (fun _ => rfl) (BodyLoose.notSynchronized Bd)
  refine ⟨_, _, ?_, hrun, hended, _, _, rfl, ?_, ⟨_, rfl⟩, hW, hsame.mono (by decide) (by decide)⟩
  · show Steps p.tables e below (T6.setTop (mkF m 25 #[.val (.ref a0), .val (.ref a1)] [])) _
    exact X6.returnOut hx Bd.returns (hb hby d26_25) hr
  · show Q26 Z a0 a1 wm h0 n0 _ T6.heap _
    rw [e6]
    exact ⟨rfl, N6, K6, f6_1, f6_4, f6_0, Fw6, f6_5⟩
theorem d25_0 : decode jdk_38_method_55_code 0 = .ok (.new 267, 3) := by decide +kernel
theorem d25_3 : decode jdk_38_method_55_code 3 = .ok (.dup, 1) := by decide +kernel
theorem d25_4 : decode jdk_38_method_55_code 4 = .ok (.aload_n 0, 1) := by decide +kernel
theorem d25_5 : decode jdk_38_method_55_code 5 = .ok (.invokespecial 269, 3) := by decide +kernel
theorem d25_8 : decode jdk_38_method_55_code 8 = .ok (.areturn, 1) := by decide +kernel
theorem pn_25 : plainName "java/util/ArrayList" = true := by first | (simp [plainName, overriddenIn]; done) | decide +kernel
theorem pd_25_0 : parseMethodDescriptor "(Ljava/util/ArrayList;)V" = some ⟨[(.object "java/util/ArrayList")], none⟩ := by decide +kernel
theorem ef_25 (m : MethodId) (x0 : Addr) : entryFrame m #[(.ref x0)] 1 = mkF m 0 #[.val (.ref x0)] [] := by first | (simp [entryFrame, mkF, argsToLocals, Value.category]; done) | rfl
def Q25 (Z : State) (a0 : Addr) (wm : Int32) (h0 : Heap) (n0 : Nat) (v : Option Value) (h : Heap) (L : List Loc) : Prop := ∃ b : Addr, v = some (.ref b) ∧ Fr n0 L ∧ Keep h0 h [] ∧ n0 ≤ b ∧ h0.size ≤ b ∧ Exa Z h b "java/util/ArrayList$Itr" ∧ Fld Z h b "java/util/ArrayList$Itr" "this$0" "Ljava/util/ArrayList;" (.ref a0) ∧ Fld Z h b "java/util/ArrayList$Itr" "cursor" "I" (.int (0 : Int32)) ∧ Fld Z h b "java/util/ArrayList$Itr" "expectedModCount" "I" (.int wm) ∧ Fld Z h b "java/util/ArrayList$Itr" "lastRet" "I" (.int (-1 : Int32))
set_option maxRecDepth 65536 in
set_option maxHeartbeats 40000000 in
theorem rm25 (l : Launch) (Z : State) (aw : Array Value) (hw : ∀ d ∈ tables_1, d.before aw Z = true) (ws : List Jvm.Cond) (a0 : Addr) (wm : Int32) (h0 : Heap) (n0 : Nat) (Z0 : n0 ≤ h0.size) (E_a0 : Exa Z h0 a0 "java/util/ArrayList") (F_modCount_a0 : Fld Z h0 a0 "java/util/AbstractList" "modCount" "I" (.int wm)) :
    MetFree l (⟨"java/util/ArrayList", "iterator", "()Ljava/util/Iterator;"⟩ : MethodName) (head1 (Jvm.Cond.code (⟨"java/util/ArrayList", "iterator", "()Ljava/util/Iterator;"⟩ : MethodName) jdk_38_method_55_code 1 (some (.object "java/util/Iterator")) :: ws) ({ frames := 2, cells := 1, slots := 4, locals := 26 } : Room)) (fun a U => a = #[(.ref a0)] ∧ Z.Warmed39 U.vm ∧ U.heap = h0) (fun _ _ _ _ _ => True) (fun _ U o U' => ∃ v L, o = .returned v ∧ Q25 Z a0 wm h0 n0 v U'.heap L ∧ FrameEnd U o U' L ({ frames := 2, cells := 1, slots := 4, locals := 26 } : Room).cells ({ frames := 2, cells := 1, slots := 4, locals := 26 } : Room).slots) := by
  refine MetFree.of_bodySF (plainFor_of_name pn_25) hisR ?_
  intro p e s m args below meth c s₁ Bd hml0 hP hK
  obtain ⟨rfl, hZ, hh⟩ := hP
  have hx := Bd.exec
  have hby := Bd.bytes
  have hml : c.maxLocals = 1 := hml0
  have hown : s.vm.findClass "java/util/ArrayList" = some m.cls := findClass_of_methodNamed Bd.named
  have hnm := (name_of_methodNamed Bd.named Bd.method).1
  have X0 : Stand p l e ({ frames := 2, cells := 1, slots := 4, locals := 26 } : Room) s m #[(.ref a0)] below meth c s₁ [] 0 0 := Stand.of_body Bd
  have e0 : s₁.heap = h0 := by rw [← hh, Bd.state]; rfl
  have N0 := Fr.nil n0
  refine own_back (b := s₁.setTop (mkF m 0 #[.val (.ref a0)] [])) (fun t kt => castTop (ef_25 m a0) kt) ?_
  obtain ⟨T1, h1, X1, e1, E1, A1, D1, -, st1⟩ := newO X0 hx hZ hown (hw _ (List.mem_of_getElem? (i := 192) rfl)) (hw _ (List.mem_of_getElem? (i := 193) rfl)) (hw _ (List.mem_of_getElem? (i := 194) rfl)) e0 (g := (mkF m 0 #[.val (.ref a0)] [])) rfl (hb hby d25_0) (by decide) (by decide)
  obtain ⟨b1, g1⟩ : ∃ z, z = h0.size := ⟨_, rfl⟩
  rw [← g1] at A1 D1 st1
  have ne1_a0 : a0 ≠ b1 := Nat.ne_of_lt (Nat.lt_of_lt_of_le E_a0.lt (Nat.le_of_eq g1.symm))
  have lo1 : n0 ≤ b1 := Nat.le_trans Z0 (Nat.le_of_eq g1.symm)
  have sz1 : h0.size ≤ b1 := Nat.le_trans (Nat.le_refl _) (Nat.le_of_eq g1.symm)
  have f1_0 := E_a0.ext E1
  have f1_1 := F_modCount_a0.ext E1
  have K1 : Keep h0 h1 [] := (Keep.refl h0 _).ext E1
  have Z1 : n0 ≤ h1.size := Nat.le_trans Z0 E1.1
  have F1_this_0 : Fld Z h1 b1 "java/util/ArrayList$Itr" "this$0" "Ljava/util/ArrayList;" .null := D1 (Or.inr (hw _ (List.mem_of_getElem? (i := 200) rfl))) (ty := (.object "java/util/ArrayList")) (by decide)
  have F1_lastRet : Fld Z h1 b1 "java/util/ArrayList$Itr" "lastRet" "I" (.int (0 : Int32)) := D1 (Or.inl (hw _ (List.mem_of_getElem? (i := 203) rfl))) (ty := .int) (by decide)
  have F1_expectedModCount : Fld Z h1 b1 "java/util/ArrayList$Itr" "expectedModCount" "I" (.int (0 : Int32)) := D1 (Or.inl (hw _ (List.mem_of_getElem? (i := 206) rfl))) (ty := .int) (by decide)
  have F1_cursor : Fld Z h1 b1 "java/util/ArrayList$Itr" "cursor" "I" (.int (0 : Int32)) := D1 (Or.inl (hw _ (List.mem_of_getElem? (i := 217) rfl))) (ty := .int) (by decide)
  obtain ⟨_, _, ⟨T2, L2, k2, n2⟩, -, X2, ⟨Lc2, hQ2, l2, y2, z2⟩, st2⟩ := X1.specialBack hx (y := (⟨"java/util/ArrayList$Itr", "<init>", "(Ljava/util/ArrayList;)V"⟩ : MethodName)) rfl hown (mvT hZ (hw _ (List.mem_of_getElem? (i := 195) rfl))) (mvT hZ (hw _ (List.mem_of_getElem? (i := 196) rfl))) (mvT hZ (hw _ (List.mem_of_getElem? (i := 198) rfl))) (by decide) (backOf (W := 1) (rm26 l Z aw hw [] b1 a0 wm h1 n0 Z1 F1_this_0 F1_lastRet F1_cursor F1_expectedModCount A1 lo1 f1_0 f1_1) hZ (hw _ (List.mem_of_getElem? (i := 198) rfl)) (hw _ (List.mem_of_getElem? (i := 194) rfl)) (by decide) (by decide)) (g := (mkF m 5 #[.val (.ref a0)] [(.ref a0), (.ref b1), (.ref b1)])) rfl (by rw [hml]; rfl) (Steps.refl _) (a := b1) (argsL := [(.ref a0)]) (rest := [(.ref b1)]) (lenOf pd_25_0 rfl) rfl (by show 2 * 0 + _ ≤ _; exact Nat.le_of_eq rfl) (hb hby d25_5) (fun _ _ => ⟨rfl, e1, (by decide : 1 + 0 ≤ _), (by decide : 4 + 0 ≤ _)⟩)
  dsimp only [Pt.U, Pt.locs, Pt.cells, Pt.slots] at X2 l2 y2 z2 st2 hQ2
  rw [l2, y2, z2] at X2
  obtain ⟨rfl, Nq2, Kq2, P2_0, P2_1, P2_2, P2_3, P2_4⟩ := hQ2
  have N2 := Fr.app N0 Nq2
  have f2_0 := f1_0.keep Kq2
  have f2_1 := f1_1.keep Kq2 (ninS ne1_a0 nin0)
  have K2 : Keep h0 T2.heap [] := K1.trans Kq2 (allS (Or.inr sz1) all0)
  have Z2 : n0 ≤ T2.heap.size := Nat.le_trans Z1 Kq2.1
  refine own_back (b := T2.setTop (mkF m 8 #[.val (.ref a0)] [(.ref b1)])) (fun t kt => ?_) ?_
  · show Steps p.tables e below (s₁.setTop (mkF m 0 #[.val (.ref a0)] [])) _
    refine st1 _ ?_
    refine XS.dup X1.here hx rfl (hb hby d25_3) rfl rfl ?_
    refine XS.aloadN X1.here hx rfl (hb hby d25_4) rfl rfl ?_
    show Steps p.tables e below (T1.setTop (mkF m 5 #[.val (.ref a0)] [(.ref a0), (.ref b1), (.ref b1)])) _
    refine st2.trans ?_
    exact kt
  obtain ⟨fs, hr, hrun, hended, hW, hsame⟩ := X2.leave (v := some (.ref b1)) (fun h => by rw [Bd.returns] at h; cases h) (BodyLoose.notSynchronized Bd)
  refine ⟨_, _, ?_, hrun, hended, _, _, rfl, ?_, ⟨_, rfl⟩, hW, hsame.mono (by decide) (by decide)⟩
  · show Steps p.tables e below (T2.setTop (mkF m 8 #[.val (.ref a0)] [(.ref b1)])) _
    exact own_retA X2 hx Bd.returns rfl rfl (hb hby d25_8) hr
  · show Q25 Z a0 wm h0 n0 _ T2.heap _
    exact ⟨b1, rfl, N2, K2, lo1, sz1, P2_0, P2_1, P2_2, P2_3, P2_4⟩
theorem d27_0 : decode jdk_49_method_2_code 0 = .ok (.aload_n 0, 1) := by decide +kernel
theorem d27_1 : decode jdk_49_method_2_code 1 = .ok (.getfield 25, 3) := by decide +kernel
theorem d27_4 : decode jdk_49_method_2_code 4 = .ok (.aload_n 0, 1) := by decide +kernel
theorem d27_5 : decode jdk_49_method_2_code 5 = .ok (.getfield 1, 3) := by decide +kernel
theorem d27_8 : decode jdk_49_method_2_code 8 = .ok (.getfield 28, 3) := by decide +kernel
theorem d27_11 : decode jdk_49_method_2_code 11 = .ok (.if_icmp .eq 7, 3) := by decide +kernel
theorem d27_14 : decode jdk_49_method_2_code 14 = .ok (.iconst 1, 1) := by decide +kernel
theorem d27_15 : decode jdk_49_method_2_code 15 = .ok (.goto 4, 3) := by decide +kernel
theorem d27_18 : decode jdk_49_method_2_code 18 = .ok (.iconst 0, 1) := by decide +kernel
theorem d27_19 : decode jdk_49_method_2_code 19 = .ok (.ireturn, 1) := by decide +kernel
theorem pn_27 : plainName "java/util/ArrayList$Itr" = true := by first | (simp [plainName, overriddenIn]; done) | decide +kernel
theorem ef_27 (m : MethodId) (x0 : Addr) : entryFrame m #[(.ref x0)] 1 = mkF m 0 #[.val (.ref x0)] [] := by first | (simp [entryFrame, mkF, argsToLocals, Value.category]; done) | rfl
def f27 (wc : Int32) (wsz : Int32) : Int32 := (if wc = wsz then (0 : Int32) else (1 : Int32))
def Q27 (Z : State) (a0 : Addr) (al1 : Addr) (wc : Int32) (wsz : Int32) (h0 : Heap) (n0 : Nat) (v : Option Value) (h : Heap) (L : List Loc) : Prop := v = some (.int (f27 wc wsz)) ∧ Fr n0 L ∧ h = h0
set_option maxRecDepth 65536 in
set_option maxHeartbeats 40000000 in
theorem rm27 (l : Launch) (Z : State) (aw : Array Value) (hw : ∀ d ∈ tables_1, d.before aw Z = true) (ws : List Jvm.Cond) (a0 : Addr) (al1 : Addr) (wc : Int32) (wsz : Int32) (h0 : Heap) (n0 : Nat) (Z0 : n0 ≤ h0.size) (F_this_0_a0 : Fld Z h0 a0 "java/util/ArrayList$Itr" "this$0" "Ljava/util/ArrayList;" (.ref al1)) (F_cursor_a0 : Fld Z h0 a0 "java/util/ArrayList$Itr" "cursor" "I" (.int wc)) (F_size_al1 : Fld Z h0 al1 "java/util/ArrayList" "size" "I" (.int wsz)) :
    MetFree l (⟨"java/util/ArrayList$Itr", "hasNext", "()Z"⟩ : MethodName) (head1 (Jvm.Cond.code (⟨"java/util/ArrayList$Itr", "hasNext", "()Z"⟩ : MethodName) jdk_49_method_2_code 1 (some .boolean) :: ws) ({ frames := 0, cells := 0, slots := 0, locals := 0 } : Room)) (fun a U => a = #[(.ref a0)] ∧ Z.Warmed39 U.vm ∧ U.heap = h0) (fun _ _ _ _ _ => True) (fun _ U o U' => ∃ v L, o = .returned v ∧ Q27 Z a0 al1 wc wsz h0 n0 v U'.heap L ∧ FrameEnd U o U' L ({ frames := 0, cells := 0, slots := 0, locals := 0 } : Room).cells ({ frames := 0, cells := 0, slots := 0, locals := 0 } : Room).slots) := by
  refine MetFree.of_bodySF (plainFor_of_name pn_27) hisR ?_
  intro p e s m args below meth c s₁ Bd hml0 hP hK
  obtain ⟨rfl, hZ, hh⟩ := hP
  have hx := Bd.exec
  have hby := Bd.bytes
  have hml : c.maxLocals = 1 := hml0
  have hown : s.vm.findClass "java/util/ArrayList$Itr" = some m.cls := findClass_of_methodNamed Bd.named
  have hnm := (name_of_methodNamed Bd.named Bd.method).1
  have X0 : Stand p l e ({ frames := 0, cells := 0, slots := 0, locals := 0 } : Room) s m #[(.ref a0)] below meth c s₁ [] 0 0 := Stand.of_body Bd
  have e0 : s₁.heap = h0 := by rw [← hh, Bd.state]; rfl
  have N0 := Fr.nil n0
  refine own_back (b := s₁.setTop (mkF m 0 #[.val (.ref a0)] [])) (fun t kt => castTop (ef_27 m a0) kt) ?_
  obtain ⟨T1, X1, e1, st1⟩ := getF X0 hx hZ hown (host := "") (Or.inl (hw _ (List.mem_of_getElem? (i := 216) rfl))) Via.refl e0 F_cursor_a0 (g := (mkF m 1 #[.val (.ref a0)] [(.ref a0)])) rfl rfl (hb hby d27_1)
  obtain ⟨T2, X2, e2, st2⟩ := getF X1 hx hZ hown (host := "") (Or.inl (hw _ (List.mem_of_getElem? (i := 199) rfl))) Via.refl e1 F_this_0_a0 (g := (mkF m 5 #[.val (.ref a0)] [(.ref a0), (.int wc)])) rfl rfl (hb hby d27_5)
  obtain ⟨T3, X3, e3, st3⟩ := getF X2 hx hZ hown (Or.inr (hw _ (List.mem_of_getElem? (i := 218) rfl))) Via.refl e2 F_size_al1 (g := (mkF m 8 #[.val (.ref a0)] [(.ref al1), (.int wc)])) rfl rfl (hb hby d27_8)
  refine own_back (b := T3.setTop (mkF m 11 #[.val (.ref a0)] [(.int wsz), (.int wc)])) (fun t kt => ?_) ?_
  · show Steps p.tables e below (s₁.setTop (mkF m 0 #[.val (.ref a0)] [])) _
    refine XS.aloadN X0.here hx rfl (hb hby d27_0) rfl rfl ?_
    show Steps p.tables e below (s₁.setTop (mkF m 1 #[.val (.ref a0)] [(.ref a0)])) _
    refine st1 _ ?_
    refine XS.aloadN X1.here hx rfl (hb hby d27_4) rfl rfl ?_
    show Steps p.tables e below (T1.setTop (mkF m 5 #[.val (.ref a0)] [(.ref a0), (.int wc)])) _
    refine st2 _ ?_
    show Steps p.tables e below (T2.setTop (mkF m 8 #[.val (.ref a0)] [(.ref al1), (.int wc)])) _
    refine st3 _ ?_
    exact kt
  by_cases hc11_4 : wc = wsz
  · refine own_back (b := T3.setTop (mkF m 19 #[.val (.ref a0)] [(.int (0 : Int32))])) (fun t kt => ?_) ?_
    · show Steps p.tables e below (T3.setTop (mkF m 11 #[.val (.ref a0)] [(.int wsz), (.int wc)])) _
      refine XS.icmpYes X3.here hx rfl (pc0 := 11) (pc' := 18) rfl (hb hby d27_11) rfl (teq hc11_4).1 (by decide) (by decide) ?_
      refine XS.iconst X3.here hx rfl (hb hby d27_18) ?_
      exact kt
    obtain ⟨fs, hr, hrun, hended, hW, hsame⟩ := X3.leave (v := some (.int (0 : Int32))) (fun h => by rw [Bd.returns] at h; cases h) (BodyLoose.notSynchronized Bd)
    refine ⟨_, _, ?_, hrun, hended, _, _, rfl, ?_, ⟨_, rfl⟩, hW, hsame.mono (by decide) (by decide)⟩
    · show Steps p.tables e below (T3.setTop (mkF m 19 #[.val (.ref a0)] [(.int (0 : Int32))])) _
      exact retN X3 hx (t := .boolean) Bd.returns (by simp) (hb hby d27_19) hr
    · show Q27 Z a0 al1 wc wsz h0 n0 _ T3.heap _
      rw [e3]
      exact ⟨by rw [show f27 wc wsz = (0 : Int32) from by unfold f27; rw [if_pos hc11_4]], N0, rfl⟩
  · refine own_back (b := T3.setTop (mkF m 19 #[.val (.ref a0)] [(.int (1 : Int32))])) (fun t kt => ?_) ?_
    · show Steps p.tables e below (T3.setTop (mkF m 11 #[.val (.ref a0)] [(.int wsz), (.int wc)])) _
      refine XS.icmpNo X3.here hx rfl (hb hby d27_11) rfl (feq hc11_4).1 ?_
      refine XS.iconst X3.here hx rfl (hb hby d27_14) ?_
      refine XS.goto X3.here hx rfl (pc0 := 15) (pc' := 19) rfl (hb hby d27_15) (by decide) (by decide) ?_
      exact kt
    obtain ⟨fs, hr, hrun, hended, hW, hsame⟩ := X3.leave (v := some (.int (1 : Int32))) (fun h => by rw [Bd.returns] at h; cases h) (BodyLoose.notSynchronized Bd)
    refine ⟨_, _, ?_, hrun, hended, _, _, rfl, ?_, ⟨_, rfl⟩, hW, hsame.mono (by decide) (by decide)⟩
    · show Steps p.tables e below (T3.setTop (mkF m 19 #[.val (.ref a0)] [(.int (1 : Int32))])) _
      exact retN X3 hx (t := .boolean) Bd.returns (by simp) (hb hby d27_19) hr
    · show Q27 Z a0 al1 wc wsz h0 n0 _ T3.heap _
      rw [e3]
      exact ⟨by rw [show f27 wc wsz = (1 : Int32) from by unfold f27; rw [if_neg hc11_4]], N0, rfl⟩
theorem d29_0 : decode jdk_49_method_6_code 0 = .ok (.aload_n 0, 1) := by decide +kernel
theorem d29_1 : decode jdk_49_method_6_code 1 = .ok (.getfield 1, 3) := by decide +kernel
theorem d29_4 : decode jdk_49_method_6_code 4 = .ok (.getfield 17, 3) := by decide +kernel
theorem d29_7 : decode jdk_49_method_6_code 7 = .ok (.aload_n 0, 1) := by decide +kernel
theorem d29_8 : decode jdk_49_method_6_code 8 = .ok (.getfield 22, 3) := by decide +kernel
theorem d29_11 : decode jdk_49_method_6_code 11 = .ok (.if_icmp .eq 11, 3) := by decide +kernel
theorem d29_22 : decode jdk_49_method_6_code 22 = .ok (.return_, 1) := by decide +kernel
theorem pn_29 : plainName "java/util/ArrayList$Itr" = true := by first | (simp [plainName, overriddenIn]; done) | decide +kernel
theorem ef_29 (m : MethodId) (x0 : Addr) : entryFrame m #[(.ref x0)] 1 = mkF m 0 #[.val (.ref x0)] [] := by first | (simp [entryFrame, mkF, argsToLocals, Value.category]; done) | rfl
def Q29 (Z : State) (a0 : Addr) (al1 : Addr) (h0 : Heap) (n0 : Nat) (v : Option Value) (h : Heap) (L : List Loc) : Prop := v = none ∧ Fr n0 L ∧ h = h0
set_option maxRecDepth 65536 in
set_option maxHeartbeats 40000000 in
theorem rm29 (l : Launch) (Z : State) (aw : Array Value) (hw : ∀ d ∈ tables_1, d.before aw Z = true) (ws : List Jvm.Cond) (a0 : Addr) (al1 : Addr) (h0 : Heap) (n0 : Nat) (Z0 : n0 ≤ h0.size) (F_this_0_a0 : Fld Z h0 a0 "java/util/ArrayList$Itr" "this$0" "Ljava/util/ArrayList;" (.ref al1)) (F_expectedModCount_a0 : Fld Z h0 a0 "java/util/ArrayList$Itr" "expectedModCount" "I" (.int (1 : Int32))) (F_modCount_al1 : Fld Z h0 al1 "java/util/AbstractList" "modCount" "I" (.int (1 : Int32))) :
    MetFree l (⟨"java/util/ArrayList$Itr", "checkForComodification", "()V"⟩ : MethodName) (head1 (Jvm.Cond.code (⟨"java/util/ArrayList$Itr", "checkForComodification", "()V"⟩ : MethodName) jdk_49_method_6_code 1 none :: ws) ({ frames := 0, cells := 0, slots := 0, locals := 0 } : Room)) (fun a U => a = #[(.ref a0)] ∧ Z.Warmed39 U.vm ∧ U.heap = h0) (fun _ _ _ _ _ => True) (fun _ U o U' => ∃ v L, o = .returned v ∧ Q29 Z a0 al1 h0 n0 v U'.heap L ∧ FrameEnd U o U' L ({ frames := 0, cells := 0, slots := 0, locals := 0 } : Room).cells ({ frames := 0, cells := 0, slots := 0, locals := 0 } : Room).slots) := by
  refine MetFree.of_bodySF (plainFor_of_name pn_29) hisR ?_
  intro p e s m args below meth c s₁ Bd hml0 hP hK
  obtain ⟨rfl, hZ, hh⟩ := hP
  have hx := Bd.exec
  have hby := Bd.bytes
  have hml : c.maxLocals = 1 := hml0
  have hown : s.vm.findClass "java/util/ArrayList$Itr" = some m.cls := findClass_of_methodNamed Bd.named
  have hnm := (name_of_methodNamed Bd.named Bd.method).1
  have X0 : Stand p l e ({ frames := 0, cells := 0, slots := 0, locals := 0 } : Room) s m #[(.ref a0)] below meth c s₁ [] 0 0 := Stand.of_body Bd
  have e0 : s₁.heap = h0 := by rw [← hh, Bd.state]; rfl
  have N0 := Fr.nil n0
  refine own_back (b := s₁.setTop (mkF m 0 #[.val (.ref a0)] [])) (fun t kt => castTop (ef_29 m a0) kt) ?_
  obtain ⟨T1, X1, e1, st1⟩ := getF X0 hx hZ hown (host := "") (Or.inl (hw _ (List.mem_of_getElem? (i := 199) rfl))) Via.refl e0 F_this_0_a0 (g := (mkF m 1 #[.val (.ref a0)] [(.ref a0)])) rfl rfl (hb hby d29_1)
  obtain ⟨T2, X2, e2, st2⟩ := getF X1 hx hZ hown (host := "") (Or.inl (hw _ (List.mem_of_getElem? (i := 204) rfl))) (Via.of (hw _ (List.mem_of_getElem? (i := 154) rfl))) e1 F_modCount_al1 (g := (mkF m 4 #[.val (.ref a0)] [(.ref al1)])) rfl rfl (hb hby d29_4)
  obtain ⟨T3, X3, e3, st3⟩ := getF X2 hx hZ hown (host := "") (Or.inl (hw _ (List.mem_of_getElem? (i := 205) rfl))) Via.refl e2 F_expectedModCount_a0 (g := (mkF m 8 #[.val (.ref a0)] [(.ref a0), (.int (1 : Int32))])) rfl rfl (hb hby d29_8)
  refine own_back (b := T3.setTop (mkF m 22 #[.val (.ref a0)] [])) (fun t kt => ?_) ?_
  · show Steps p.tables e below (s₁.setTop (mkF m 0 #[.val (.ref a0)] [])) _
    refine XS.aloadN X0.here hx rfl (hb hby d29_0) rfl rfl ?_
    show Steps p.tables e below (s₁.setTop (mkF m 1 #[.val (.ref a0)] [(.ref a0)])) _
    refine st1 _ ?_
    show Steps p.tables e below (T1.setTop (mkF m 4 #[.val (.ref a0)] [(.ref al1)])) _
    refine st2 _ ?_
    refine XS.aloadN X2.here hx rfl (hb hby d29_7) rfl rfl ?_
    show Steps p.tables e below (T2.setTop (mkF m 8 #[.val (.ref a0)] [(.ref a0), (.int (1 : Int32))])) _
    refine st3 _ ?_
    refine XS.icmpYes X3.here hx rfl (pc0 := 11) (pc' := 22) rfl (hb hby d29_11) rfl (teq (by decide : (1 : Int32) = (1 : Int32))).1 (by decide) (by decide) ?_
    exact kt
  obtain ⟨fs, hr, hrun, hended, hW, hsame⟩ := X3.leave (v := none) (fun _ => rfl) (BodyLoose.notSynchronized Bd)
  refine ⟨_, _, ?_, hrun, hended, _, _, rfl, ?_, ⟨_, rfl⟩, hW, hsame.mono (by decide) (by decide)⟩
  · show Steps p.tables e below (T3.setTop (mkF m 22 #[.val (.ref a0)] [])) _
    exact X3.returnOut hx Bd.returns (hb hby d29_22) hr
  · show Q29 Z a0 al1 h0 n0 _ T3.heap _
    rw [e3]
    exact ⟨rfl, N0, rfl⟩
theorem d28_0 : decode jdk_49_method_3_code 0 = .ok (.aload_n 0, 1) := by decide +kernel
theorem d28_1 : decode jdk_49_method_3_code 1 = .ok (.invokevirtual 31, 3) := by decide +kernel
theorem d28_4 : decode jdk_49_method_3_code 4 = .ok (.aload_n 0, 1) := by decide +kernel
theorem d28_5 : decode jdk_49_method_3_code 5 = .ok (.getfield 25, 3) := by decide +kernel
theorem d28_8 : decode jdk_49_method_3_code 8 = .ok (.istore_n 1, 1) := by decide +kernel
theorem d28_9 : decode jdk_49_method_3_code 9 = .ok (.iload_n 1, 1) := by decide +kernel
theorem d28_10 : decode jdk_49_method_3_code 10 = .ok (.aload_n 0, 1) := by decide +kernel
theorem d28_11 : decode jdk_49_method_3_code 11 = .ok (.getfield 1, 3) := by decide +kernel
theorem d28_14 : decode jdk_49_method_3_code 14 = .ok (.getfield 28, 3) := by decide +kernel
theorem d28_17 : decode jdk_49_method_3_code 17 = .ok (.if_icmp .lt 11, 3) := by decide +kernel
theorem d28_28 : decode jdk_49_method_3_code 28 = .ok (.aload_n 0, 1) := by decide +kernel
theorem d28_29 : decode jdk_49_method_3_code 29 = .ok (.getfield 1, 3) := by decide +kernel
theorem d28_32 : decode jdk_49_method_3_code 32 = .ok (.getfield 37, 3) := by decide +kernel
theorem d28_35 : decode jdk_49_method_3_code 35 = .ok (.astore_n 2, 1) := by decide +kernel
theorem d28_36 : decode jdk_49_method_3_code 36 = .ok (.iload_n 1, 1) := by decide +kernel
theorem d28_37 : decode jdk_49_method_3_code 37 = .ok (.aload_n 2, 1) := by decide +kernel
theorem d28_38 : decode jdk_49_method_3_code 38 = .ok (.arraylength, 1) := by decide +kernel
theorem d28_39 : decode jdk_49_method_3_code 39 = .ok (.if_icmp .lt 11, 3) := by decide +kernel
theorem d28_50 : decode jdk_49_method_3_code 50 = .ok (.aload_n 0, 1) := by decide +kernel
theorem d28_51 : decode jdk_49_method_3_code 51 = .ok (.iload_n 1, 1) := by decide +kernel
theorem d28_52 : decode jdk_49_method_3_code 52 = .ok (.iconst 1, 1) := by decide +kernel
theorem d28_53 : decode jdk_49_method_3_code 53 = .ok (.iadd, 1) := by decide +kernel
theorem d28_54 : decode jdk_49_method_3_code 54 = .ok (.putfield 25, 3) := by decide +kernel
theorem d28_57 : decode jdk_49_method_3_code 57 = .ok (.aload_n 2, 1) := by decide +kernel
theorem d28_58 : decode jdk_49_method_3_code 58 = .ok (.aload_n 0, 1) := by decide +kernel
theorem d28_59 : decode jdk_49_method_3_code 59 = .ok (.iload_n 1, 1) := by decide +kernel
theorem d28_60 : decode jdk_49_method_3_code 60 = .ok (.dup_x1, 1) := by decide +kernel
theorem d28_61 : decode jdk_49_method_3_code 61 = .ok (.putfield 13, 3) := by decide +kernel
theorem d28_64 : decode jdk_49_method_3_code 64 = .ok (.aaload, 1) := by decide +kernel
theorem d28_65 : decode jdk_49_method_3_code 65 = .ok (.areturn, 1) := by decide +kernel
theorem pn_28 : plainName "java/util/ArrayList$Itr" = true := by first | (simp [plainName, overriddenIn]; done) | decide +kernel
theorem pd_28_0 : parseMethodDescriptor "()V" = some ⟨[], none⟩ := by decide +kernel
theorem ef_28 (m : MethodId) (x0 : Addr) : entryFrame m #[(.ref x0)] 3 = mkF m 0 #[.val (.ref x0), .unset, .unset] [] := by first | (simp [entryFrame, mkF, argsToLocals, Value.category]; done) | rfl
def Q28 (Z : State) (a0 : Addr) (al1 : Addr) (aa : Addr) (kA : ClassId) (el : Addr) (h0 : Heap) (n0 : Nat) (v : Option Value) (h : Heap) (L : List Loc) : Prop := v = some (.ref el) ∧ Fr n0 L ∧ Keep h0 h [a0] ∧ Exa Z h a0 "java/util/ArrayList$Itr" ∧ Fld Z h a0 "java/util/ArrayList$Itr" "this$0" "Ljava/util/ArrayList;" (.ref al1) ∧ Fld Z h a0 "java/util/ArrayList$Itr" "cursor" "I" (.int (1 : Int32)) ∧ Fld Z h a0 "java/util/ArrayList$Itr" "expectedModCount" "I" (.int (1 : Int32))
set_option maxRecDepth 65536 in
set_option maxHeartbeats 40000000 in
theorem rm28 (l : Launch) (Z : State) (aw : Array Value) (hw : ∀ d ∈ tables_1, d.before aw Z = true) (ws : List Jvm.Cond) (a0 : Addr) (al1 : Addr) (aa : Addr) (kA : ClassId) (el : Addr) (h0 : Heap) (n0 : Nat) (Z0 : n0 ≤ h0.size) (F_this_0_a0 : Fld Z h0 a0 "java/util/ArrayList$Itr" "this$0" "Ljava/util/ArrayList;" (.ref al1)) (F_cursor_a0 : Fld Z h0 a0 "java/util/ArrayList$Itr" "cursor" "I" (.int (0 : Int32))) (F_expectedModCount_a0 : Fld Z h0 a0 "java/util/ArrayList$Itr" "expectedModCount" "I" (.int (1 : Int32))) (F_lastRet_a0 : Fld Z h0 a0 "java/util/ArrayList$Itr" "lastRet" "I" (.int (-1 : Int32))) (E_a0 : Exa Z h0 a0 "java/util/ArrayList$Itr") (g_a0 : n0 ≤ a0) (E_al1 : Exa Z h0 al1 "java/util/ArrayList") (F_modCount_al1 : Fld Z h0 al1 "java/util/AbstractList" "modCount" "I" (.int (1 : Int32))) (F_size_al1 : Fld Z h0 al1 "java/util/ArrayList" "size" "I" (.int (1 : Int32))) (F_elementData_al1 : Fld Z h0 al1 "java/util/ArrayList" "elementData" "[Ljava/lang/Object;" (.ref aa)) (V_aa : Arv Z h0 aa kA (.object "java/lang/Object") (10 : Int32) [(.ref el), .null, .null, .null, .null, .null, .null, .null, .null, .null] .null) (E_aa : Exa Z h0 aa "[Ljava/lang/Object;") :
    MetFree l (⟨"java/util/ArrayList$Itr", "next", "()Ljava/lang/Object;"⟩ : MethodName) (head1 (Jvm.Cond.code (⟨"java/util/ArrayList$Itr", "next", "()Ljava/lang/Object;"⟩ : MethodName) jdk_49_method_3_code 3 (some (.object "java/lang/Object")) :: ws) ({ frames := 1, cells := 0, slots := 0, locals := 12 } : Room)) (fun a U => a = #[(.ref a0)] ∧ Z.Warmed39 U.vm ∧ U.heap = h0) (fun _ _ _ _ _ => True) (fun _ U o U' => ∃ v L, o = .returned v ∧ Q28 Z a0 al1 aa kA el h0 n0 v U'.heap L ∧ FrameEnd U o U' L ({ frames := 1, cells := 0, slots := 0, locals := 12 } : Room).cells ({ frames := 1, cells := 0, slots := 0, locals := 12 } : Room).slots) := by
  refine MetFree.of_bodySF (plainFor_of_name pn_28) hisR ?_
  intro p e s m args below meth c s₁ Bd hml0 hP hK
  obtain ⟨rfl, hZ, hh⟩ := hP
  have hx := Bd.exec
  have hby := Bd.bytes
  have hml : c.maxLocals = 3 := hml0
  have hown : s.vm.findClass "java/util/ArrayList$Itr" = some m.cls := findClass_of_methodNamed Bd.named
  have hnm := (name_of_methodNamed Bd.named Bd.method).1
  have X0 : Stand p l e ({ frames := 1, cells := 0, slots := 0, locals := 12 } : Room) s m #[(.ref a0)] below meth c s₁ [] 0 0 := Stand.of_body Bd
  have e0 : s₁.heap = h0 := by rw [← hh, Bd.state]; rfl
  have N0 := Fr.nil n0
  refine own_back (b := s₁.setTop (mkF m 0 #[.val (.ref a0), .unset, .unset] [])) (fun t kt => castTop (ef_28 m a0) kt) ?_
  obtain ⟨cq1, kq1, q1a, q1b, q1c⟩ := isOf hZ e0 E_a0
  obtain ⟨_, _, ⟨T1, L1, k1, n1⟩, -, X1, ⟨Lc1, hQ1, l1, y1, z1⟩, st1⟩ := X0.virtualBack hx (y := (⟨"java/util/ArrayList$Itr", "checkForComodification", "()V"⟩ : MethodName)) (z := (⟨"java/util/ArrayList$Itr", "checkForComodification", "()V"⟩ : MethodName)) hown (mvT hZ (hw _ (List.mem_of_getElem? (i := 227) rfl))) (mvT hZ (hw _ (List.mem_of_getElem? (i := 228) rfl))) (notFace_of_selects (args := #[]) (mvT hZ (hw _ (List.mem_of_getElem? (i := 230) rfl)))) (mvT hZ (hw _ (List.mem_of_getElem? (i := 230) rfl))) (mvT hZ (hw _ (List.mem_of_getElem? (i := 229) rfl))) (by decide) (backOf (W := 0) (rm29 l Z aw hw [] a0 al1 h0 n0 Z0 F_this_0_a0 F_expectedModCount_a0 F_modCount_al1) hZ (hw _ (List.mem_of_getElem? (i := 231) rfl)) (hw _ (List.mem_of_getElem? (i := 194) rfl)) (by decide) (by decide)) q1a q1c (g := (mkF m 1 #[.val (.ref a0), .unset, .unset] [(.ref a0)])) rfl (by rw [hml]; rfl) (Steps.refl _) (argsL := []) (rest := []) (lenOf pd_28_0 rfl) rfl (by show 2 * 0 + _ ≤ _; exact Nat.le_of_eq rfl) (hb hby d28_1) (fun _ _ => ⟨rfl, e0, (by decide : 0 + 0 ≤ _), (by decide : 0 + 0 ≤ _)⟩)
  dsimp only [Pt.U, Pt.locs, Pt.cells, Pt.slots] at X1 l1 y1 z1 st1 hQ1
  rw [l1, y1, z1] at X1
  obtain ⟨rfl, Nq1, e1⟩ := hQ1
  have N1 := Fr.app N0 Nq1
  obtain ⟨T2, X2, e2, st2⟩ := getF X1 hx hZ hown (host := "") (Or.inl (hw _ (List.mem_of_getElem? (i := 216) rfl))) Via.refl e1 F_cursor_a0 (g := (mkF m 5 #[.val (.ref a0), .unset, .unset] [(.ref a0)])) rfl rfl (hb hby d28_5)
  obtain ⟨T3, X3, e3, st3⟩ := getF X2 hx hZ hown (host := "") (Or.inl (hw _ (List.mem_of_getElem? (i := 199) rfl))) Via.refl e2 F_this_0_a0 (g := (mkF m 11 #[.val (.ref a0), .val (.int (0 : Int32)), .unset] [(.ref a0), (.int (0 : Int32))])) rfl rfl (hb hby d28_11)
  obtain ⟨T4, X4, e4, st4⟩ := getF X3 hx hZ hown (Or.inr (hw _ (List.mem_of_getElem? (i := 218) rfl))) Via.refl e3 F_size_al1 (g := (mkF m 14 #[.val (.ref a0), .val (.int (0 : Int32)), .unset] [(.ref al1), (.int (0 : Int32))])) rfl rfl (hb hby d28_14)
  obtain ⟨T5, X5, e5, st5⟩ := getF X4 hx hZ hown (host := "") (Or.inl (hw _ (List.mem_of_getElem? (i := 199) rfl))) Via.refl e4 F_this_0_a0 (g := (mkF m 29 #[.val (.ref a0), .val (.int (0 : Int32)), .unset] [(.ref a0)])) rfl rfl (hb hby d28_29)
  obtain ⟨T6, X6, e6, st6⟩ := getF X5 hx hZ hown (host := "") (Or.inl (hw _ (List.mem_of_getElem? (i := 232) rfl))) Via.refl e5 F_elementData_al1 (g := (mkF m 32 #[.val (.ref a0), .val (.int (0 : Int32)), .unset] [(.ref al1)])) rfl rfl (hb hby d28_32)
  obtain ⟨cl7, Ar7, qk7, S7, N7', -, -⟩ := own_same V_aa
  obtain ⟨T8, h8, X8, e8, W8, st8⟩ := putF X6 hx hZ hown (host := "") (Or.inl (hw _ (List.mem_of_getElem? (i := 216) rfl))) Via.refl e6 F_cursor_a0 E_a0 (Or.inl (hw _ (List.mem_of_getElem? (i := 217) rfl))) (hw _ (List.mem_of_getElem? (i := 193) rfl)) (ty := .int) (by decide) rfl rfl (g := (mkF m 54 #[.val (.ref a0), .val (.int (0 : Int32)), .val (.ref aa)] [(.int (1 : Int32)), (.ref a0)])) rfl rfl (hb hby d28_54)
  have Fw8 := F_cursor_a0.same W8
  have f8_0 := F_this_0_a0.other W8 (Or.inr (slot_ne (Or.inr (hw _ (List.mem_of_getElem? (i := 200) rfl))) (Or.inl (hw _ (List.mem_of_getElem? (i := 217) rfl))) (by decide) (t := (.object "java/util/ArrayList")) (t' := .int) (by decide) (by decide)))
  have f8_1 := F_expectedModCount_a0.other W8 (Or.inr (slot_ne (Or.inl (hw _ (List.mem_of_getElem? (i := 206) rfl))) (Or.inl (hw _ (List.mem_of_getElem? (i := 217) rfl))) (by decide) (t := .int) (t' := .int) (by decide) (by decide)))
  have f8_2 := F_lastRet_a0.other W8 (Or.inr (slot_ne (Or.inl (hw _ (List.mem_of_getElem? (i := 203) rfl))) (Or.inl (hw _ (List.mem_of_getElem? (i := 217) rfl))) (by decide) (t := .int) (t' := .int) (by decide) (by decide)))
  have f8_3 := E_a0.wr W8
  have f8_4 := E_al1.wr W8
  have f8_5 := F_modCount_al1.other W8 (Or.inl (ne_exa E_al1 E_a0 (by decide)))
  have f8_6 := F_size_al1.other W8 (Or.inl (ne_exa E_al1 E_a0 (by decide)))
  have f8_7 := F_elementData_al1.other W8 (Or.inl (ne_exa E_al1 E_a0 (by decide)))
  have f8_8 := V_aa.other W8 (ne_exa E_aa E_a0 (by decide))
  have f8_9 := E_aa.wr W8
  have K8 : Keep h0 h8 [a0] := (Keep.refl h0 _).wr W8 (Or.inl (List.mem_of_getElem? (i := 0) rfl))
  have Z8 : n0 ≤ h8.size := Nat.le_trans Z0 (Keep.of_wr W8).1
  have N8 := Fr.snoc X8 N1 g_a0
  obtain ⟨T9, h9, X9, e9, W9, st9⟩ := putF X8 hx hZ hown (host := "") (Or.inl (hw _ (List.mem_of_getElem? (i := 202) rfl))) Via.refl e8 f8_2 f8_3 (Or.inl (hw _ (List.mem_of_getElem? (i := 203) rfl))) (hw _ (List.mem_of_getElem? (i := 193) rfl)) (ty := .int) (by decide) rfl rfl (g := (mkF m 61 #[.val (.ref a0), .val (.int (0 : Int32)), .val (.ref aa)] [(.int (0 : Int32)), (.ref a0), (.int (0 : Int32)), (.ref aa)])) rfl rfl (hb hby d28_61)
  have Fw9 := f8_2.same W9
  have f9_0 := f8_0.other W9 (Or.inr (slot_ne (Or.inr (hw _ (List.mem_of_getElem? (i := 200) rfl))) (Or.inl (hw _ (List.mem_of_getElem? (i := 203) rfl))) (by decide) (t := (.object "java/util/ArrayList")) (t' := .int) (by decide) (by decide)))
  have f9_1 := f8_1.other W9 (Or.inr (slot_ne (Or.inl (hw _ (List.mem_of_getElem? (i := 206) rfl))) (Or.inl (hw _ (List.mem_of_getElem? (i := 203) rfl))) (by decide) (t := .int) (t' := .int) (by decide) (by decide)))
  have f9_2 := f8_3.wr W9
  have f9_3 := f8_4.wr W9
  have f9_4 := f8_5.other W9 (Or.inl (ne_exa f8_4 f8_3 (by decide)))
  have f9_5 := f8_6.other W9 (Or.inl (ne_exa f8_4 f8_3 (by decide)))
  have f9_6 := f8_7.other W9 (Or.inl (ne_exa f8_4 f8_3 (by decide)))
  have f9_7 := f8_8.other W9 (ne_exa f8_9 f8_3 (by decide))
  have f9_8 := f8_9.wr W9
  have f9_9 := Fw8.other W9 (Or.inr (slot_ne (Or.inl (hw _ (List.mem_of_getElem? (i := 217) rfl))) (Or.inl (hw _ (List.mem_of_getElem? (i := 203) rfl))) (by decide) (t := .int) (t' := .int) (by decide) (by decide)))
  have K9 : Keep h0 h9 [a0] := K8.wr W9 (Or.inl (List.mem_of_getElem? (i := 0) rfl))
  have Z9 : n0 ≤ h9.size := Nat.le_trans Z8 (Keep.of_wr W9).1
  have N9 := Fr.snoc X9 N8 g_a0
  obtain ⟨cl10, Ar10, qk10, S10, N10', Hh10, G10⟩ := own_same f9_7
  have hin10 : ¬ ((0 : Int32) < 0 ∨ cl10.slots.size ≤ ((0 : Int32)).toNatClampNeg) := inb_of S10 ⟨by decide, by decide⟩
  have hat10 : cl10.slots[((0 : Int32)).toNatClampNeg]? = some (.ref el) := Has.at Hh10 hin10 rfl
  refine own_back (b := T9.setTop (mkF m 65 #[.val (.ref a0), .val (.int (0 : Int32)), .val (.ref aa)] [(.ref el)])) (fun t kt => ?_) ?_
  · show Steps p.tables e below (s₁.setTop (mkF m 0 #[.val (.ref a0), .unset, .unset] [])) _
    refine XS.aloadN X0.here hx rfl (hb hby d28_0) rfl rfl ?_
    show Steps p.tables e below (s₁.setTop (mkF m 1 #[.val (.ref a0), .unset, .unset] [(.ref a0)])) _
    refine st1.trans ?_
    refine XS.aloadN X1.here hx rfl (hb hby d28_4) rfl rfl ?_
    show Steps p.tables e below (T1.setTop (mkF m 5 #[.val (.ref a0), .unset, .unset] [(.ref a0)])) _
    refine st2 _ ?_
    refine XS.istoreN X2.here hx rfl (hb hby d28_8) rfl (l' := #[.val (.ref a0), .val (.int (0 : Int32)), .unset]) rfl ?_
    refine XS.iloadN X2.here hx rfl (hb hby d28_9) rfl ?_
    refine XS.aloadN X2.here hx rfl (hb hby d28_10) rfl rfl ?_
    show Steps p.tables e below (T2.setTop (mkF m 11 #[.val (.ref a0), .val (.int (0 : Int32)), .unset] [(.ref a0), (.int (0 : Int32))])) _
    refine st3 _ ?_
    show Steps p.tables e below (T3.setTop (mkF m 14 #[.val (.ref a0), .val (.int (0 : Int32)), .unset] [(.ref al1), (.int (0 : Int32))])) _
    refine st4 _ ?_
    refine XS.icmpYes X4.here hx rfl (pc0 := 17) (pc' := 28) rfl (hb hby d28_17) rfl (tlt (by decide : (0 : Int32) < (1 : Int32))).1 (by decide) (by decide) ?_
    refine XS.aloadN X4.here hx rfl (hb hby d28_28) rfl rfl ?_
    show Steps p.tables e below (T4.setTop (mkF m 29 #[.val (.ref a0), .val (.int (0 : Int32)), .unset] [(.ref a0)])) _
    refine st5 _ ?_
    show Steps p.tables e below (T5.setTop (mkF m 32 #[.val (.ref a0), .val (.int (0 : Int32)), .unset] [(.ref al1)])) _
    refine st6 _ ?_
    refine XS.astoreN X6.here hx rfl (hb hby d28_35) rfl rfl (l' := #[.val (.ref a0), .val (.int (0 : Int32)), .val (.ref aa)]) rfl ?_
    refine XS.iloadN X6.here hx rfl (hb hby d28_36) rfl ?_
    refine XS.aloadN X6.here hx rfl (hb hby d28_37) rfl rfl ?_
    show Steps p.tables e below (T6.setTop (mkF m 38 #[.val (.ref a0), .val (.int (0 : Int32)), .val (.ref aa)] [(.ref aa), (.int (0 : Int32))])) _
    refine X6.arraylength hx (by rw [e6]; exact Ar7.1) (State.isArrayOf_alike hZ.alike Ar7.2.1) (g := (mkF m 38 #[.val (.ref a0), .val (.int (0 : Int32)), .val (.ref aa)] [(.ref aa), (.int (0 : Int32))])) rfl rfl (hb hby d28_38) _ ?_
    rw [len_of S7 N7']
    refine XS.icmpYes X6.here hx rfl (pc0 := 39) (pc' := 50) rfl (hb hby d28_39) rfl (tlt (by decide : (0 : Int32) < (10 : Int32))).1 (by decide) (by decide) ?_
    refine XS.aloadN X6.here hx rfl (hb hby d28_50) rfl rfl ?_
    refine XS.iloadN X6.here hx rfl (hb hby d28_51) rfl ?_
    refine XS.iconst X6.here hx rfl (hb hby d28_52) ?_
    refine XS.iadd X6.here hx rfl (hb hby d28_53) rfl ?_
    show Steps p.tables e below (T6.setTop (mkF m 54 #[.val (.ref a0), .val (.int (0 : Int32)), .val (.ref aa)] [(.int (1 : Int32)), (.ref a0)])) _
    refine st8 _ ?_
    refine XS.aloadN X8.here hx rfl (hb hby d28_57) rfl rfl ?_
    refine XS.aloadN X8.here hx rfl (hb hby d28_58) rfl rfl ?_
    refine XS.iloadN X8.here hx rfl (hb hby d28_59) rfl ?_
    refine XS.dupX1 X8.here hx rfl (hb hby d28_60) rfl rfl rfl ?_
    show Steps p.tables e below (T8.setTop (mkF m 61 #[.val (.ref a0), .val (.int (0 : Int32)), .val (.ref aa)] [(.int (0 : Int32)), (.ref a0), (.int (0 : Int32)), (.ref aa)])) _
    refine st9 _ ?_
    show Steps p.tables e below (T9.setTop (mkF m 64 #[.val (.ref a0), .val (.int (0 : Int32)), .val (.ref aa)] [(.int (0 : Int32)), (.ref aa)])) _
    refine X9.aaload hx (j := (0 : Int32)) (v := (.ref el)) (by rw [e9]; exact Ar10.1) (State.isArrayOf_alike hZ.alike Ar10.2.1) rfl Ar10.2.2 hin10 hat10 (g := (mkF m 64 #[.val (.ref a0), .val (.int (0 : Int32)), .val (.ref aa)] [(.int (0 : Int32)), (.ref aa)])) rfl rfl (hb hby d28_64) _ ?_
    exact kt
  obtain ⟨fs, hr, hrun, hended, hW, hsame⟩ := X9.leave (v := some (.ref el)) (fun h => by rw [Bd.returns] at h; cases h) (BodyLoose.notSynchronized Bd)
  refine ⟨_, _, ?_, hrun, hended, _, _, rfl, ?_, ⟨_, rfl⟩, hW, hsame.mono (by decide) (by decide)⟩
  · show Steps p.tables e below (T9.setTop (mkF m 65 #[.val (.ref a0), .val (.int (0 : Int32)), .val (.ref aa)] [(.ref el)])) _
    exact own_retA X9 hx Bd.returns rfl rfl (hb hby d28_65) hr
  · show Q28 Z a0 al1 aa kA el h0 n0 _ T9.heap _
    rw [e9]
    exact ⟨rfl, N9, K9, f9_2, f9_0, f9_9, f9_1⟩
theorem d30_0 : decode jdk_33_method_27_code 0 = .ok (.aload_n 0, 1) := by decide +kernel
theorem d30_1 : decode jdk_33_method_27_code 1 = .ok (.getfield 205, 3) := by decide +kernel
theorem d30_4 : decode jdk_33_method_27_code 4 = .ok (.ireturn, 1) := by decide +kernel
theorem pn_30 : plainName "java/lang/Integer" = true := by first | (simp [plainName, overriddenIn]; done) | decide +kernel
theorem ef_30 (m : MethodId) (x0 : Addr) : entryFrame m #[(.ref x0)] 1 = mkF m 0 #[.val (.ref x0)] [] := by first | (simp [entryFrame, mkF, argsToLocals, Value.category]; done) | rfl
def Q30 (Z : State) (a0 : Addr) (w : Int32) (h0 : Heap) (n0 : Nat) (v : Option Value) (h : Heap) (L : List Loc) : Prop := v = some (.int w) ∧ Fr n0 L ∧ h = h0
set_option maxRecDepth 65536 in
set_option maxHeartbeats 40000000 in
theorem rm30 (l : Launch) (Z : State) (aw : Array Value) (hw : ∀ d ∈ tables_1, d.before aw Z = true) (ws : List Jvm.Cond) (a0 : Addr) (w : Int32) (h0 : Heap) (n0 : Nat) (Z0 : n0 ≤ h0.size) (F_value_a0 : Fld Z h0 a0 "java/lang/Integer" "value" "I" (.int w)) :
    MetFree l (⟨"java/lang/Integer", "intValue", "()I"⟩ : MethodName) (head1 (Jvm.Cond.code (⟨"java/lang/Integer", "intValue", "()I"⟩ : MethodName) jdk_33_method_27_code 1 (some .int) :: ws) ({ frames := 0, cells := 0, slots := 0, locals := 0 } : Room)) (fun a U => a = #[(.ref a0)] ∧ Z.Warmed39 U.vm ∧ U.heap = h0) (fun _ _ _ _ _ => True) (fun _ U o U' => ∃ v L, o = .returned v ∧ Q30 Z a0 w h0 n0 v U'.heap L ∧ FrameEnd U o U' L ({ frames := 0, cells := 0, slots := 0, locals := 0 } : Room).cells ({ frames := 0, cells := 0, slots := 0, locals := 0 } : Room).slots) := by
  refine MetFree.of_bodySF (plainFor_of_name pn_30) hisR ?_
  intro p e s m args below meth c s₁ Bd hml0 hP hK
  obtain ⟨rfl, hZ, hh⟩ := hP
  have hx := Bd.exec
  have hby := Bd.bytes
  have hml : c.maxLocals = 1 := hml0
  have hown : s.vm.findClass "java/lang/Integer" = some m.cls := findClass_of_methodNamed Bd.named
  have hnm := (name_of_methodNamed Bd.named Bd.method).1
  have X0 : Stand p l e ({ frames := 0, cells := 0, slots := 0, locals := 0 } : Room) s m #[(.ref a0)] below meth c s₁ [] 0 0 := Stand.of_body Bd
  have e0 : s₁.heap = h0 := by rw [← hh, Bd.state]; rfl
  have N0 := Fr.nil n0
  refine own_back (b := s₁.setTop (mkF m 0 #[.val (.ref a0)] [])) (fun t kt => castTop (ef_30 m a0) kt) ?_
  obtain ⟨T1, X1, e1, st1⟩ := getF X0 hx hZ hown (host := "") (Or.inl (hw _ (List.mem_of_getElem? (i := 240) rfl))) Via.refl e0 F_value_a0 (g := (mkF m 1 #[.val (.ref a0)] [(.ref a0)])) rfl rfl (hb hby d30_1)
  refine own_back (b := T1.setTop (mkF m 4 #[.val (.ref a0)] [(.int w)])) (fun t kt => ?_) ?_
  · show Steps p.tables e below (s₁.setTop (mkF m 0 #[.val (.ref a0)] [])) _
    refine XS.aloadN X0.here hx rfl (hb hby d30_0) rfl rfl ?_
    show Steps p.tables e below (s₁.setTop (mkF m 1 #[.val (.ref a0)] [(.ref a0)])) _
    refine st1 _ ?_
    exact kt
  obtain ⟨fs, hr, hrun, hended, hW, hsame⟩ := X1.leave (v := some (.int w)) (fun h => by rw [Bd.returns] at h; cases h) (BodyLoose.notSynchronized Bd)
  refine ⟨_, _, ?_, hrun, hended, _, _, rfl, ?_, ⟨_, rfl⟩, hW, hsame.mono (by decide) (by decide)⟩
  · show Steps p.tables e below (T1.setTop (mkF m 4 #[.val (.ref a0)] [(.int w)])) _
    exact retI X1 hx Bd.returns (hb hby d30_4) hr
  · show Q30 Z a0 w h0 n0 _ T1.heap _
    rw [e1]
    exact ⟨rfl, N0, rfl⟩
theorem d24_0 : decode prog_12_method_2_code 0 = .ok (.aload_n 3, 1) := by decide +kernel
theorem d24_1 : decode prog_12_method_2_code 1 = .ok (.invokeinterface 56 1, 5) := by decide +kernel
theorem d24_6 : decode prog_12_method_2_code 6 = .ok (.astore 4, 2) := by decide +kernel
theorem d24_8 : decode prog_12_method_2_code 8 = .ok (.aload 4, 2) := by decide +kernel
theorem d24_10 : decode prog_12_method_2_code 10 = .ok (.invokeinterface 62 1, 5) := by decide +kernel
theorem d24_15 : decode prog_12_method_2_code 15 = .ok (.ifCond .eq 65, 3) := by decide +kernel
theorem d24_18 : decode prog_12_method_2_code 18 = .ok (.aload 4, 2) := by decide +kernel
theorem d24_20 : decode prog_12_method_2_code 20 = .ok (.invokeinterface 68 1, 5) := by decide +kernel
theorem d24_25 : decode prog_12_method_2_code 25 = .ok (.checkcast 72, 3) := by decide +kernel
theorem d24_28 : decode prog_12_method_2_code 28 = .ok (.invokevirtual 74, 3) := by decide +kernel
theorem d24_31 : decode prog_12_method_2_code 31 = .ok (.istore 5, 2) := by decide +kernel
theorem d24_33 : decode prog_12_method_2_code 33 = .ok (.iload 5, 2) := by decide +kernel
theorem d24_35 : decode prog_12_method_2_code 35 = .ok (.aload_n 0, 1) := by decide +kernel
theorem d24_36 : decode prog_12_method_2_code 36 = .ok (.getfield 30, 3) := by decide +kernel
theorem d24_39 : decode prog_12_method_2_code 39 = .ok (.if_icmp .ne 21, 3) := by decide +kernel
theorem d24_42 : decode prog_12_method_2_code 42 = .ok (.aload_n 0, 1) := by decide +kernel
theorem d24_43 : decode prog_12_method_2_code 43 = .ok (.iconst 1, 1) := by decide +kernel
theorem d24_44 : decode prog_12_method_2_code 44 = .ok (.putfield 78, 3) := by decide +kernel
theorem d24_47 : decode prog_12_method_2_code 47 = .ok (.aload_n 0, 1) := by decide +kernel
theorem d24_48 : decode prog_12_method_2_code 48 = .ok (.lload_n 1, 1) := by decide +kernel
theorem d24_49 : decode prog_12_method_2_code 49 = .ok (.aload_n 0, 1) := by decide +kernel
theorem d24_50 : decode prog_12_method_2_code 50 = .ok (.getfield 47, 3) := by decide +kernel
theorem d24_53 : decode prog_12_method_2_code 53 = .ok (.ladd, 1) := by decide +kernel
theorem d24_54 : decode prog_12_method_2_code 54 = .ok (.putfield 20, 3) := by decide +kernel
theorem d24_57 : decode prog_12_method_2_code 57 = .ok (.goto 20, 3) := by decide +kernel
theorem d24_77 : decode prog_12_method_2_code 77 = .ok (.goto (-69), 3) := by decide +kernel
theorem d24_80 : decode prog_12_method_2_code 80 = .ok (.return_, 1) := by decide +kernel
theorem pn_24 : plainName "com/example/many_to_leader/manytoleader/bully/CandidatePool" = true := by first | (simp [plainName, overriddenIn]; done) | decide +kernel
theorem pd_24_0 : parseMethodDescriptor "()Ljava/util/Iterator;" = some ⟨[], some (.object "java/util/Iterator")⟩ := by decide +kernel
theorem pd_24_1 : parseMethodDescriptor "()Z" = some ⟨[], some .boolean⟩ := by decide +kernel
theorem pd_24_2 : parseMethodDescriptor "()Ljava/lang/Object;" = some ⟨[], some (.object "java/lang/Object")⟩ := by decide +kernel
theorem pd_24_3 : parseMethodDescriptor "()I" = some ⟨[], some .int⟩ := by decide +kernel
theorem ef_24 (m : MethodId) (x0 : Addr) (x1 : Int64) (x2 : Addr) : entryFrame m #[(.ref x0), (.long x1), (.ref x2)] 6 = mkF m 0 #[.val (.ref x0), .val (.long x1), .second, .val (.ref x2), .unset, .unset] [] := by first | (simp [entryFrame, mkF, argsToLocals, Value.category]; done) | rfl
def Q24 (Z : State) (a0 : Addr) (q1 : Int64) (a2 : Addr) (wI : Int64) (wid : Int32) (wck : Int64) (wh : Int64) (aa : Addr) (kA : ClassId) (el : Addr) (h0 : Heap) (n0 : Nat) (v : Option Value) (h : Heap) (L : List Loc) : Prop := v = none ∧ Fr n0 L ∧ Keep h0 h [a0] ∧ Exa Z h a0 "com/example/many_to_leader/manytoleader/bully/CandidatePool" ∧ Fld Z h a0 "com/example/many_to_leader/manytoleader/bully/CandidatePool" "heartbeatDeadline" "J" (.long (q1 + wI)) ∧ Fld Z h a0 "com/example/many_to_leader/manytoleader/bully/CandidatePool" "candidate" "Z" (.int (1 : Int32)) ∧ Fld Z h a0 "com/example/many_to_leader/manytoleader/bully/CandidatePool" "checkDeadline" "J" (.long wck) ∧ Fld Z h a0 "com/example/many_to_leader/manytoleader/bully/CandidatePool" "intervalMillis" "J" (.long wI)
set_option maxRecDepth 65536 in
set_option maxHeartbeats 40000000 in
theorem rm24 (l : Launch) (Z : State) (aw : Array Value) (hw : ∀ d ∈ tables_1, d.before aw Z = true) (ws : List Jvm.Cond) (a0 : Addr) (q1 : Int64) (a2 : Addr) (wI : Int64) (wid : Int32) (wck : Int64) (wh : Int64) (aa : Addr) (kA : ClassId) (el : Addr) (h0 : Heap) (n0 : Nat) (Z0 : n0 ≤ h0.size) (E_a0 : Exa Z h0 a0 "com/example/many_to_leader/manytoleader/bully/CandidatePool") (g_a0 : n0 ≤ a0) (F_id_a0 : Fld Z h0 a0 "com/example/many_to_leader/manytoleader/bully/CandidatePool" "id" "I" (.int wid)) (F_intervalMillis_a0 : Fld Z h0 a0 "com/example/many_to_leader/manytoleader/bully/CandidatePool" "intervalMillis" "J" (.long wI)) (F_heartbeatDeadline_a0 : Fld Z h0 a0 "com/example/many_to_leader/manytoleader/bully/CandidatePool" "heartbeatDeadline" "J" (.long wh)) (F_checkDeadline_a0 : Fld Z h0 a0 "com/example/many_to_leader/manytoleader/bully/CandidatePool" "checkDeadline" "J" (.long wck)) (F_candidate_a0 : Fld Z h0 a0 "com/example/many_to_leader/manytoleader/bully/CandidatePool" "candidate" "Z" (.int (0 : Int32))) (E_a2 : Exa Z h0 a2 "java/util/ArrayList") (F_modCount_a2 : Fld Z h0 a2 "java/util/AbstractList" "modCount" "I" (.int (1 : Int32))) (F_size_a2 : Fld Z h0 a2 "java/util/ArrayList" "size" "I" (.int (1 : Int32))) (F_elementData_a2 : Fld Z h0 a2 "java/util/ArrayList" "elementData" "[Ljava/lang/Object;" (.ref aa)) (V_aa : Arv Z h0 aa kA (.object "java/lang/Object") (10 : Int32) [(.ref el), .null, .null, .null, .null, .null, .null, .null, .null, .null] .null) (E_aa : Exa Z h0 aa "[Ljava/lang/Object;") (E_el : Exa Z h0 el "java/lang/Integer") (F_value_el : Fld Z h0 el "java/lang/Integer" "value" "I" (.int wid)) :
    MetFree l (⟨"com/example/many_to_leader/manytoleader/bully/CandidatePool", "assume", "(JLjava/util/Collection;)V"⟩ : MethodName) (head1 (Jvm.Cond.code (⟨"com/example/many_to_leader/manytoleader/bully/CandidatePool", "assume", "(JLjava/util/Collection;)V"⟩ : MethodName) prog_12_method_2_code 6 none :: ws) ({ frames := 3, cells := 1, slots := 4, locals := 38 } : Room)) (fun a U => a = #[(.ref a0), (.long q1), (.ref a2)] ∧ Z.Warmed39 U.vm ∧ U.heap = h0) (fun _ _ _ _ _ => True) (fun _ U o U' => ∃ v L, o = .returned v ∧ Q24 Z a0 q1 a2 wI wid wck wh aa kA el h0 n0 v U'.heap L ∧ FrameEnd U o U' L ({ frames := 3, cells := 1, slots := 4, locals := 38 } : Room).cells ({ frames := 3, cells := 1, slots := 4, locals := 38 } : Room).slots) := by
  refine MetFree.of_bodySF (plainFor_of_name pn_24) hisR ?_
  intro p e s m args below meth c s₁ Bd hml0 hP hK
  obtain ⟨rfl, hZ, hh⟩ := hP
  have hx := Bd.exec
  have hby := Bd.bytes
  have hml : c.maxLocals = 6 := hml0
  have hown : s.vm.findClass "com/example/many_to_leader/manytoleader/bully/CandidatePool" = some m.cls := findClass_of_methodNamed Bd.named
  have hnm := (name_of_methodNamed Bd.named Bd.method).1
  have X0 : Stand p l e ({ frames := 3, cells := 1, slots := 4, locals := 38 } : Room) s m #[(.ref a0), (.long q1), (.ref a2)] below meth c s₁ [] 0 0 := Stand.of_body Bd
  have e0 : s₁.heap = h0 := by rw [← hh, Bd.state]; rfl
  have N0 := Fr.nil n0
  refine own_back (b := s₁.setTop (mkF m 0 #[.val (.ref a0), .val (.long q1), .second, .val (.ref a2), .unset, .unset] [])) (fun t kt => castTop (ef_24 m a0 q1 a2) kt) ?_
  obtain ⟨cq1, kq1, q1a, q1b, q1c⟩ := isOf hZ e0 E_a2
  obtain ⟨_, _, ⟨T1, L1, k1, n1⟩, -, X1, ⟨Lc1, hQ1, l1, y1, z1⟩, st1⟩ := X0.interfaceBack hx (xi := (⟨"java/util/Collection", "iterator", "()Ljava/util/Iterator;"⟩ : MethodName)) (y := (⟨"java/util/ArrayList", "iterator", "()Ljava/util/Iterator;"⟩ : MethodName)) hown (mvT hZ (hw _ (List.mem_of_getElem? (i := 183) rfl))) (mvT hZ (hw _ (List.mem_of_getElem? (i := 184) rfl))) (mvT hZ (hw _ (List.mem_of_getElem? (i := 185) rfl))) (mvT hZ (hw _ (List.mem_of_getElem? (i := 186) rfl))) (mvT hZ (hw _ (List.mem_of_getElem? (i := 187) rfl))) (mvT hZ (hw _ (List.mem_of_getElem? (i := 188) rfl))) (mvT hZ (hw _ (List.mem_of_getElem? (i := 189) rfl))) (mvT hZ (hw _ (List.mem_of_getElem? (i := 190) rfl))) (by decide) (backOf (W := 0) (rm25 l Z aw hw [] a2 (1 : Int32) h0 n0 Z0 E_a2 F_modCount_a2) hZ (hw _ (List.mem_of_getElem? (i := 191) rfl)) (hw _ (List.mem_of_getElem? (i := 97) rfl)) (by decide) (by decide)) q1a q1b q1c (g := (mkF m 1 #[.val (.ref a0), .val (.long q1), .second, .val (.ref a2), .unset, .unset] [(.ref a2)])) rfl (by rw [hml]; rfl) (Steps.refl _) (argsL := []) (rest := []) (lenOf pd_24_0 rfl) rfl (by show 2 * 0 + _ ≤ _; exact Nat.le_of_eq rfl) (hb hby d24_1) (fun _ _ => ⟨rfl, e0, (by decide : 0 + 1 ≤ _), (by decide : 0 + 4 ≤ _)⟩)
  dsimp only [Pt.U, Pt.locs, Pt.cells, Pt.slots] at X1 l1 y1 z1 st1 hQ1
  rw [l1, y1, z1] at X1
  obtain ⟨b1, hQ1⟩ := hQ1
  obtain ⟨rfl, Nq1, Kq1, P1_0, P1_1, P1_2, P1_3, P1_4, P1_5, P1_6⟩ := hQ1
  have N1 := Fr.app N0 Nq1
  have ne1_a0 : a0 ≠ b1 := Nat.ne_of_lt (Nat.lt_of_lt_of_le E_a0.lt P1_1)
  have ne1_a2 : a2 ≠ b1 := Nat.ne_of_lt (Nat.lt_of_lt_of_le E_a2.lt P1_1)
  have ne1_aa : aa ≠ b1 := Nat.ne_of_lt (Nat.lt_of_lt_of_le V_aa.lt P1_1)
  have ne1_el : el ≠ b1 := Nat.ne_of_lt (Nat.lt_of_lt_of_le E_el.lt P1_1)
  have sz1 : h0.size ≤ b1 := Nat.le_trans (Nat.le_refl _) P1_1
  have f1_0 := E_a0.keep Kq1
  have f1_1 := F_id_a0.keep Kq1 nin0
  have f1_2 := F_intervalMillis_a0.keep Kq1 nin0
  have f1_3 := F_heartbeatDeadline_a0.keep Kq1 nin0
  have f1_4 := F_checkDeadline_a0.keep Kq1 nin0
  have f1_5 := F_candidate_a0.keep Kq1 nin0
  have f1_6 := E_a2.keep Kq1
  have f1_7 := F_modCount_a2.keep Kq1 nin0
  have f1_8 := F_size_a2.keep Kq1 nin0
  have f1_9 := F_elementData_a2.keep Kq1 nin0
  have f1_10 := V_aa.keep Kq1 nin0
  have f1_11 := E_aa.keep Kq1
  have f1_12 := E_el.keep Kq1
  have f1_13 := F_value_el.keep Kq1 nin0
  have K1 : Keep h0 T1.heap [a0] := (Keep.refl h0 _).trans Kq1 all0
  have Z1 : n0 ≤ T1.heap.size := Nat.le_trans Z0 Kq1.1
  obtain ⟨cq2, kq2, q2a, q2b, q2c⟩ := isOf hZ rfl P1_2
  obtain ⟨_, _, ⟨T2, L2, k2, n2⟩, -, X2, ⟨Lc2, hQ2, l2, y2, z2⟩, st2⟩ := X1.interfaceBack hx (xi := (⟨"java/util/Iterator", "hasNext", "()Z"⟩ : MethodName)) (y := (⟨"java/util/ArrayList$Itr", "hasNext", "()Z"⟩ : MethodName)) hown (mvT hZ (hw _ (List.mem_of_getElem? (i := 207) rfl))) (mvT hZ (hw _ (List.mem_of_getElem? (i := 208) rfl))) (mvT hZ (hw _ (List.mem_of_getElem? (i := 209) rfl))) (mvT hZ (hw _ (List.mem_of_getElem? (i := 210) rfl))) (mvT hZ (hw _ (List.mem_of_getElem? (i := 211) rfl))) (mvT hZ (hw _ (List.mem_of_getElem? (i := 212) rfl))) (mvT hZ (hw _ (List.mem_of_getElem? (i := 213) rfl))) (mvT hZ (hw _ (List.mem_of_getElem? (i := 214) rfl))) (by decide) (backOf (W := 0) (rm27 l Z aw hw [] b1 a2 (0 : Int32) (1 : Int32) T1.heap n0 Z1 P1_3 P1_4 f1_8) hZ (hw _ (List.mem_of_getElem? (i := 215) rfl)) (hw _ (List.mem_of_getElem? (i := 194) rfl)) (by decide) (by decide)) q2a q2b q2c (g := (mkF m 10 #[.val (.ref a0), .val (.long q1), .second, .val (.ref a2), .val (.ref b1), .unset] [(.ref b1)])) rfl (by rw [hml]; rfl) (Steps.refl _) (argsL := []) (rest := []) (lenOf pd_24_1 rfl) rfl (by show 2 * 0 + _ ≤ _; exact Nat.le_of_eq rfl) (hb hby d24_10) (fun _ _ => ⟨rfl, rfl, (by decide : 1 + 0 ≤ _), (by decide : 4 + 0 ≤ _)⟩)
  dsimp only [Pt.U, Pt.locs, Pt.cells, Pt.slots] at X2 l2 y2 z2 st2 hQ2
  rw [l2, y2, z2] at X2
  obtain ⟨rfl, Nq2, e2⟩ := hQ2
  have N2 := Fr.app N1 Nq2
  obtain ⟨cq3, kq3, q3a, q3b, q3c⟩ := isOf hZ e2 P1_2
  obtain ⟨_, _, ⟨T3, L3, k3, n3⟩, -, X3, ⟨Lc3, hQ3, l3, y3, z3⟩, st3⟩ := X2.interfaceBack hx (xi := (⟨"java/util/Iterator", "next", "()Ljava/lang/Object;"⟩ : MethodName)) (y := (⟨"java/util/ArrayList$Itr", "next", "()Ljava/lang/Object;"⟩ : MethodName)) hown (mvT hZ (hw _ (List.mem_of_getElem? (i := 219) rfl))) (mvT hZ (hw _ (List.mem_of_getElem? (i := 220) rfl))) (mvT hZ (hw _ (List.mem_of_getElem? (i := 221) rfl))) (mvT hZ (hw _ (List.mem_of_getElem? (i := 222) rfl))) (mvT hZ (hw _ (List.mem_of_getElem? (i := 223) rfl))) (mvT hZ (hw _ (List.mem_of_getElem? (i := 224) rfl))) (mvT hZ (hw _ (List.mem_of_getElem? (i := 225) rfl))) (mvT hZ (hw _ (List.mem_of_getElem? (i := 214) rfl))) (by decide) (backOf (W := 0) (rm28 l Z aw hw [] b1 a2 aa kA el T1.heap n0 Z1 P1_3 P1_4 P1_5 P1_6 P1_2 P1_0 f1_6 f1_7 f1_8 f1_9 f1_10 f1_11) hZ (hw _ (List.mem_of_getElem? (i := 226) rfl)) (hw _ (List.mem_of_getElem? (i := 194) rfl)) (by decide) (by decide)) q3a q3b q3c (g := (mkF m 20 #[.val (.ref a0), .val (.long q1), .second, .val (.ref a2), .val (.ref b1), .unset] [(.ref b1)])) rfl (by rw [hml]; rfl) (Steps.refl _) (argsL := []) (rest := []) (lenOf pd_24_2 rfl) rfl (by show 2 * 0 + _ ≤ _; exact Nat.le_of_eq rfl) (hb hby d24_20) (fun _ _ => ⟨rfl, e2, (by decide : 1 + 0 ≤ _), (by decide : 4 + 0 ≤ _)⟩)
  dsimp only [Pt.U, Pt.locs, Pt.cells, Pt.slots] at X3 l3 y3 z3 st3 hQ3
  rw [l3, y3, z3] at X3
  obtain ⟨rfl, Nq3, Kq3, P3_0, P3_1, P3_2, P3_3⟩ := hQ3
  have N3 := Fr.app N2 Nq3
  have f3_0 := f1_0.keep Kq3
  have f3_1 := f1_1.keep Kq3 (ninS ne1_a0 nin0)
  have f3_2 := f1_2.keep Kq3 (ninS ne1_a0 nin0)
  have f3_3 := f1_3.keep Kq3 (ninS ne1_a0 nin0)
  have f3_4 := f1_4.keep Kq3 (ninS ne1_a0 nin0)
  have f3_5 := f1_5.keep Kq3 (ninS ne1_a0 nin0)
  have f3_6 := f1_6.keep Kq3
  have f3_7 := f1_7.keep Kq3 (ninS ne1_a2 nin0)
  have f3_8 := f1_8.keep Kq3 (ninS ne1_a2 nin0)
  have f3_9 := f1_9.keep Kq3 (ninS ne1_a2 nin0)
  have f3_10 := f1_10.keep Kq3 (ninS ne1_aa nin0)
  have f3_11 := f1_11.keep Kq3
  have f3_12 := f1_12.keep Kq3
  have f3_13 := f1_13.keep Kq3 (ninS ne1_el nin0)
  have K3 : Keep h0 T3.heap [a0] := K1.trans Kq3 (allS (Or.inr sz1) all0)
  have Z3 : n0 ≤ T3.heap.size := Nat.le_trans Z1 Kq3.1
  obtain ⟨T4, X4, e4, st4⟩ := castY X3 hx hZ hown (hw _ (List.mem_of_getElem? (i := 233) rfl)) rfl (Ins.self f3_12) (g := (mkF m 25 #[.val (.ref a0), .val (.long q1), .second, .val (.ref a2), .val (.ref b1), .unset] [(.ref el)])) rfl rfl (hb hby d24_25)
  obtain ⟨cq5, kq5, q5a, q5b, q5c⟩ := isOf hZ e4 f3_12
  obtain ⟨_, _, ⟨T5, L5, k5, n5⟩, -, X5, ⟨Lc5, hQ5, l5, y5, z5⟩, st5⟩ := X4.virtualBack hx (y := (⟨"java/lang/Integer", "intValue", "()I"⟩ : MethodName)) (z := (⟨"java/lang/Integer", "intValue", "()I"⟩ : MethodName)) hown (mvT hZ (hw _ (List.mem_of_getElem? (i := 235) rfl))) (mvT hZ (hw _ (List.mem_of_getElem? (i := 236) rfl))) (notFace_of_selects (args := #[]) (mvT hZ (hw _ (List.mem_of_getElem? (i := 238) rfl)))) (mvT hZ (hw _ (List.mem_of_getElem? (i := 238) rfl))) (mvT hZ (hw _ (List.mem_of_getElem? (i := 237) rfl))) (by decide) (backOf (W := 0) (rm30 l Z aw hw [] el wid T3.heap n0 Z3 f3_13) hZ (hw _ (List.mem_of_getElem? (i := 239) rfl)) (hw _ (List.mem_of_getElem? (i := 143) rfl)) (by decide) (by decide)) q5a q5c (g := (mkF m 28 #[.val (.ref a0), .val (.long q1), .second, .val (.ref a2), .val (.ref b1), .unset] [(.ref el)])) rfl (by rw [hml]; rfl) (Steps.refl _) (argsL := []) (rest := []) (lenOf pd_24_3 rfl) rfl (by show 2 * 0 + _ ≤ _; exact Nat.le_of_eq rfl) (hb hby d24_28) (fun _ _ => ⟨rfl, e4, (by decide : 1 + 0 ≤ _), (by decide : 4 + 0 ≤ _)⟩)
  dsimp only [Pt.U, Pt.locs, Pt.cells, Pt.slots] at X5 l5 y5 z5 st5 hQ5
  rw [l5, y5, z5] at X5
  obtain ⟨rfl, Nq5, e5⟩ := hQ5
  have N5 := Fr.app N3 Nq5
  obtain ⟨T6, X6, e6, st6⟩ := getF X5 hx hZ hown (host := "") (Or.inl (hw _ (List.mem_of_getElem? (i := 75) rfl))) Via.refl e5 f3_1 (g := (mkF m 36 #[.val (.ref a0), .val (.long q1), .second, .val (.ref a2), .val (.ref b1), .val (.int wid)] [(.ref a0), (.int wid)])) rfl rfl (hb hby d24_36)
  obtain ⟨T7, h7, X7, e7, W7, st7⟩ := putFN X6 hx hZ hown (hw _ (List.mem_of_getElem? (i := 139) rfl)) Via.refl e6 f3_5 f3_0 (Or.inl (hw _ (List.mem_of_getElem? (i := 140) rfl))) (hw _ (List.mem_of_getElem? (i := 30) rfl)) (ty := .boolean) (v' := (.int (1 : Int32))) (by decide) rfl (by decide) (g := (mkF m 44 #[.val (.ref a0), .val (.long q1), .second, .val (.ref a2), .val (.ref b1), .val (.int wid)] [(.int (1 : Int32)), (.ref a0)])) rfl rfl (hb hby d24_44)
  have Fw7 := f3_5.same W7
  have f7_0 := f3_0.wr W7
  have f7_1 := f3_1.other W7 (Or.inr (slot_ne (Or.inr (hw _ (List.mem_of_getElem? (i := 76) rfl))) (Or.inl (hw _ (List.mem_of_getElem? (i := 140) rfl))) (by decide) (t := .int) (t' := .boolean) (by decide) (by decide)))
  have f7_2 := f3_2.other W7 (Or.inr (slot_ne (Or.inr (hw _ (List.mem_of_getElem? (i := 87) rfl))) (Or.inl (hw _ (List.mem_of_getElem? (i := 140) rfl))) (by decide) (t := .long) (t' := .boolean) (by decide) (by decide)))
  have f7_3 := f3_3.other W7 (Or.inr (slot_ne (Or.inl (hw _ (List.mem_of_getElem? (i := 70) rfl))) (Or.inl (hw _ (List.mem_of_getElem? (i := 140) rfl))) (by decide) (t := .long) (t' := .boolean) (by decide) (by decide)))
  have f7_4 := f3_4.other W7 (Or.inr (slot_ne (Or.inl (hw _ (List.mem_of_getElem? (i := 74) rfl))) (Or.inl (hw _ (List.mem_of_getElem? (i := 140) rfl))) (by decide) (t := .long) (t' := .boolean) (by decide) (by decide)))
  have f7_5 := f3_6.wr W7
  have f7_6 := f3_7.other W7 (Or.inl (ne_exa f3_6 f3_0 (by decide)))
  have f7_7 := f3_8.other W7 (Or.inl (ne_exa f3_6 f3_0 (by decide)))
  have f7_8 := f3_9.other W7 (Or.inl (ne_exa f3_6 f3_0 (by decide)))
  have f7_9 := f3_10.other W7 (ne_exa f3_11 f3_0 (by decide))
  have f7_10 := f3_11.wr W7
  have f7_11 := f3_12.wr W7
  have f7_12 := f3_13.other W7 (Or.inl (ne_exa f3_12 f3_0 (by decide)))
  have f7_13 := P3_0.wr W7
  have f7_14 := P3_1.other W7 (Or.inl (Ne.symm ne1_a0))
  have f7_15 := P3_2.other W7 (Or.inl (Ne.symm ne1_a0))
  have f7_16 := P3_3.other W7 (Or.inl (Ne.symm ne1_a0))
  have K7 : Keep h0 h7 [a0] := K3.wr W7 (Or.inl (List.mem_of_getElem? (i := 0) rfl))
  have Z7 : n0 ≤ h7.size := Nat.le_trans Z3 (Keep.of_wr W7).1
  have N7 := Fr.snoc X7 N5 g_a0
  obtain ⟨T8, X8, e8, st8⟩ := getF X7 hx hZ hown (host := "") (Or.inl (hw _ (List.mem_of_getElem? (i := 86) rfl))) Via.refl e7 f7_2 (g := (mkF m 50 #[.val (.ref a0), .val (.long q1), .second, .val (.ref a2), .val (.ref b1), .val (.int wid)] [(.ref a0), (.long q1), (.ref a0)])) rfl rfl (hb hby d24_50)
  obtain ⟨T9, h9, X9, e9, W9, st9⟩ := putF X8 hx hZ hown (host := "") (Or.inl (hw _ (List.mem_of_getElem? (i := 69) rfl))) Via.refl e8 f7_3 f7_0 (Or.inl (hw _ (List.mem_of_getElem? (i := 70) rfl))) (hw _ (List.mem_of_getElem? (i := 30) rfl)) (ty := .long) (by decide) rfl rfl (g := (mkF m 54 #[.val (.ref a0), .val (.long q1), .second, .val (.ref a2), .val (.ref b1), .val (.int wid)] [(.long (q1 + wI)), (.ref a0)])) rfl rfl (hb hby d24_54)
  have Fw9 := f7_3.same W9
  have f9_0 := f7_0.wr W9
  have f9_1 := f7_1.other W9 (Or.inr (slot_ne (Or.inr (hw _ (List.mem_of_getElem? (i := 76) rfl))) (Or.inl (hw _ (List.mem_of_getElem? (i := 70) rfl))) (by decide) (t := .int) (t' := .long) (by decide) (by decide)))
  have f9_2 := f7_2.other W9 (Or.inr (slot_ne (Or.inr (hw _ (List.mem_of_getElem? (i := 87) rfl))) (Or.inl (hw _ (List.mem_of_getElem? (i := 70) rfl))) (by decide) (t := .long) (t' := .long) (by decide) (by decide)))
  have f9_3 := f7_4.other W9 (Or.inr (slot_ne (Or.inl (hw _ (List.mem_of_getElem? (i := 74) rfl))) (Or.inl (hw _ (List.mem_of_getElem? (i := 70) rfl))) (by decide) (t := .long) (t' := .long) (by decide) (by decide)))
  have f9_4 := f7_5.wr W9
  have f9_5 := f7_6.other W9 (Or.inl (ne_exa f7_5 f7_0 (by decide)))
  have f9_6 := f7_7.other W9 (Or.inl (ne_exa f7_5 f7_0 (by decide)))
  have f9_7 := f7_8.other W9 (Or.inl (ne_exa f7_5 f7_0 (by decide)))
  have f9_8 := f7_9.other W9 (ne_exa f7_10 f7_0 (by decide))
  have f9_9 := f7_10.wr W9
  have f9_10 := f7_11.wr W9
  have f9_11 := f7_12.other W9 (Or.inl (ne_exa f7_11 f7_0 (by decide)))
  have f9_12 := f7_13.wr W9
  have f9_13 := f7_14.other W9 (Or.inl (Ne.symm ne1_a0))
  have f9_14 := f7_15.other W9 (Or.inl (Ne.symm ne1_a0))
  have f9_15 := f7_16.other W9 (Or.inl (Ne.symm ne1_a0))
  have f9_16 := Fw7.other W9 (Or.inr (slot_ne (Or.inl (hw _ (List.mem_of_getElem? (i := 140) rfl))) (Or.inl (hw _ (List.mem_of_getElem? (i := 70) rfl))) (by decide) (t := .boolean) (t' := .long) (by decide) (by decide)))
  have K9 : Keep h0 h9 [a0] := K7.wr W9 (Or.inl (List.mem_of_getElem? (i := 0) rfl))
  have Z9 : n0 ≤ h9.size := Nat.le_trans Z7 (Keep.of_wr W9).1
  have N9 := Fr.snoc X9 N7 g_a0
  obtain ⟨cq10, kq10, q10a, q10b, q10c⟩ := isOf hZ e9 f9_12
  obtain ⟨_, _, ⟨T10, L10, k10, n10⟩, -, X10, ⟨Lc10, hQ10, l10, y10, z10⟩, st10⟩ := X9.interfaceBack hx (xi := (⟨"java/util/Iterator", "hasNext", "()Z"⟩ : MethodName)) (y := (⟨"java/util/ArrayList$Itr", "hasNext", "()Z"⟩ : MethodName)) hown (mvT hZ (hw _ (List.mem_of_getElem? (i := 207) rfl))) (mvT hZ (hw _ (List.mem_of_getElem? (i := 208) rfl))) (mvT hZ (hw _ (List.mem_of_getElem? (i := 209) rfl))) (mvT hZ (hw _ (List.mem_of_getElem? (i := 210) rfl))) (mvT hZ (hw _ (List.mem_of_getElem? (i := 211) rfl))) (mvT hZ (hw _ (List.mem_of_getElem? (i := 212) rfl))) (mvT hZ (hw _ (List.mem_of_getElem? (i := 213) rfl))) (mvT hZ (hw _ (List.mem_of_getElem? (i := 214) rfl))) (by decide) (backOf (W := 0) (rm27 l Z aw hw [] b1 a2 (1 : Int32) (1 : Int32) h9 n0 Z9 f9_13 f9_14 f9_6) hZ (hw _ (List.mem_of_getElem? (i := 215) rfl)) (hw _ (List.mem_of_getElem? (i := 194) rfl)) (by decide) (by decide)) q10a q10b q10c (g := (mkF m 10 #[.val (.ref a0), .val (.long q1), .second, .val (.ref a2), .val (.ref b1), .val (.int wid)] [(.ref b1)])) rfl (by rw [hml]; rfl) (Steps.refl _) (argsL := []) (rest := []) (lenOf pd_24_1 rfl) rfl (by show 2 * 0 + _ ≤ _; exact Nat.le_of_eq rfl) (hb hby d24_10) (fun _ _ => ⟨rfl, e9, (by decide : 1 + 0 ≤ _), (by decide : 4 + 0 ≤ _)⟩)
  dsimp only [Pt.U, Pt.locs, Pt.cells, Pt.slots] at X10 l10 y10 z10 st10 hQ10
  rw [l10, y10, z10] at X10
  obtain ⟨rfl, Nq10, e10⟩ := hQ10
  have N10 := Fr.app N9 Nq10
  refine own_back (b := T10.setTop (mkF m 80 #[.val (.ref a0), .val (.long q1), .second, .val (.ref a2), .val (.ref b1), .val (.int wid)] [])) (fun t kt => ?_) ?_
  · show Steps p.tables e below (s₁.setTop (mkF m 0 #[.val (.ref a0), .val (.long q1), .second, .val (.ref a2), .unset, .unset] [])) _
    refine XS.aloadN X0.here hx rfl (hb hby d24_0) rfl rfl ?_
    show Steps p.tables e below (s₁.setTop (mkF m 1 #[.val (.ref a0), .val (.long q1), .second, .val (.ref a2), .unset, .unset] [(.ref a2)])) _
    refine st1.trans ?_
    refine XS.astore X1.here hx rfl (hb hby d24_6) rfl rfl (l' := #[.val (.ref a0), .val (.long q1), .second, .val (.ref a2), .val (.ref b1), .unset]) rfl ?_
    refine XS.aload X1.here hx rfl (hb hby d24_8) rfl rfl ?_
    show Steps p.tables e below (T1.setTop (mkF m 10 #[.val (.ref a0), .val (.long q1), .second, .val (.ref a2), .val (.ref b1), .unset] [(.ref b1)])) _
    refine st2.trans ?_
    refine XS.ifNo X2.here hx rfl (hb hby d24_15) rfl ((if0 _ _).trans (feq (by decide)).1) ?_
    refine XS.aload X2.here hx rfl (hb hby d24_18) rfl rfl ?_
    show Steps p.tables e below (T2.setTop (mkF m 20 #[.val (.ref a0), .val (.long q1), .second, .val (.ref a2), .val (.ref b1), .unset] [(.ref b1)])) _
    refine st3.trans ?_
    show Steps p.tables e below (T3.setTop (mkF m 25 #[.val (.ref a0), .val (.long q1), .second, .val (.ref a2), .val (.ref b1), .unset] [(.ref el)])) _
    refine st4 _ ?_
    show Steps p.tables e below (T4.setTop (mkF m 28 #[.val (.ref a0), .val (.long q1), .second, .val (.ref a2), .val (.ref b1), .unset] [(.ref el)])) _
    refine st5.trans ?_
    refine XS.istore X5.here hx rfl (hb hby d24_31) rfl (l' := #[.val (.ref a0), .val (.long q1), .second, .val (.ref a2), .val (.ref b1), .val (.int wid)]) rfl ?_
    refine XS.iload X5.here hx rfl (hb hby d24_33) rfl ?_
    refine XS.aloadN X5.here hx rfl (hb hby d24_35) rfl rfl ?_
    show Steps p.tables e below (T5.setTop (mkF m 36 #[.val (.ref a0), .val (.long q1), .second, .val (.ref a2), .val (.ref b1), .val (.int wid)] [(.ref a0), (.int wid)])) _
    refine st6 _ ?_
    refine XS.icmpNo X6.here hx rfl (hb hby d24_39) rfl (teq (rfl : wid = wid)).2 ?_
    refine XS.aloadN X6.here hx rfl (hb hby d24_42) rfl rfl ?_
    refine XS.iconst X6.here hx rfl (hb hby d24_43) ?_
    show Steps p.tables e below (T6.setTop (mkF m 44 #[.val (.ref a0), .val (.long q1), .second, .val (.ref a2), .val (.ref b1), .val (.int wid)] [(.int (1 : Int32)), (.ref a0)])) _
    refine st7 _ ?_
    refine XS.aloadN X7.here hx rfl (hb hby d24_47) rfl rfl ?_
    refine XS.lloadN X7.here hx rfl (hb hby d24_48) rfl ?_
    refine XS.aloadN X7.here hx rfl (hb hby d24_49) rfl rfl ?_
    show Steps p.tables e below (T7.setTop (mkF m 50 #[.val (.ref a0), .val (.long q1), .second, .val (.ref a2), .val (.ref b1), .val (.int wid)] [(.ref a0), (.long q1), (.ref a0)])) _
    refine st8 _ ?_
    refine XS.ladd X8.here hx rfl (hb hby d24_53) rfl ?_
    show Steps p.tables e below (T8.setTop (mkF m 54 #[.val (.ref a0), .val (.long q1), .second, .val (.ref a2), .val (.ref b1), .val (.int wid)] [(.long (q1 + wI)), (.ref a0)])) _
    refine st9 _ ?_
    refine XS.goto X9.here hx rfl (pc0 := 57) (pc' := 77) rfl (hb hby d24_57) (by decide) (by decide) ?_
    refine XS.goto X9.here hx rfl (pc0 := 77) (pc' := 8) rfl (hb hby d24_77) (by decide) (by decide) ?_
    refine XS.aload X9.here hx rfl (hb hby d24_8) rfl rfl ?_
    show Steps p.tables e below (T9.setTop (mkF m 10 #[.val (.ref a0), .val (.long q1), .second, .val (.ref a2), .val (.ref b1), .val (.int wid)] [(.ref b1)])) _
    refine st10.trans ?_
    refine XS.ifYes X10.here hx rfl (pc0 := 15) (pc' := 80) rfl (hb hby d24_15) rfl ((if0 _ _).trans (teq (by decide)).1) (by decide) (by decide) ?_
    exact kt
  obtain ⟨fs, hr, hrun, hended, hW, hsame⟩ := X10.leave (v := none) (fun _ => rfl) (BodyLoose.notSynchronized Bd)
  refine ⟨_, _, ?_, hrun, hended, _, _, rfl, ?_, ⟨_, rfl⟩, hW, hsame.mono (by decide) (by decide)⟩
  · show Steps p.tables e below (T10.setTop (mkF m 80 #[.val (.ref a0), .val (.long q1), .second, .val (.ref a2), .val (.ref b1), .val (.int wid)] [])) _
    exact X10.returnOut hx Bd.returns (hb hby d24_80) hr
  · show Q24 Z a0 q1 a2 wI wid wck wh aa kA el h0 n0 _ T10.heap _
    rw [e10]
    exact ⟨rfl, N10, K9, f9_0, Fw9, f9_16, f9_3, f9_2⟩
theorem d16_0 : decode jdk_29_method_70_code 0 = .ok (.lload_n 0, 1) := by decide +kernel
theorem d16_1 : decode jdk_29_method_70_code 1 = .ok (.lload_n 2, 1) := by decide +kernel
theorem d16_2 : decode jdk_29_method_70_code 2 = .ok (.lcmp, 1) := by decide +kernel
theorem d16_3 : decode jdk_29_method_70_code 3 = .ok (.ifCond .gt 7, 3) := by decide +kernel
theorem d16_6 : decode jdk_29_method_70_code 6 = .ok (.lload_n 0, 1) := by decide +kernel
theorem d16_7 : decode jdk_29_method_70_code 7 = .ok (.goto 4, 3) := by decide +kernel
theorem d16_10 : decode jdk_29_method_70_code 10 = .ok (.lload_n 2, 1) := by decide +kernel
theorem d16_11 : decode jdk_29_method_70_code 11 = .ok (.lreturn, 1) := by decide +kernel
theorem ef_16 (m : MethodId) (x0 : Int64) (x1 : Int64) : entryFrame m #[(.long x0), (.long x1)] 4 = mkF m 0 #[.val (.long x0), .second, .val (.long x1), .second] [] := by first | (simp [entryFrame, mkF, argsToLocals, Value.category]; done) | rfl
def f16 (q0 : Int64) (q1 : Int64) : Int64 := (if q1 < q0 then q1 else q0)
def Q16 (Z : State) (q0 : Int64) (q1 : Int64) (h0 : Heap) (n0 : Nat) (v : Option Value) (h : Heap) (L : List Loc) : Prop := v = some (.long (f16 q0 q1)) ∧ Fr n0 L ∧ h = h0
set_option maxRecDepth 65536 in
set_option maxHeartbeats 40000000 in
theorem rm16 (l : Launch) (Z : State) (aw : Array Value) (hw : ∀ d ∈ tables_1, d.before aw Z = true) (ws : List Jvm.Cond) (q0 : Int64) (q1 : Int64) (h0 : Heap) (n0 : Nat) (Z0 : n0 ≤ h0.size) :
    MetFree l (⟨"java/lang/Math", "min", "(JJ)J"⟩ : MethodName) (head1 (Jvm.Cond.code (⟨"java/lang/Math", "min", "(JJ)J"⟩ : MethodName) jdk_29_method_70_code 4 (some .long) :: ws) ({ frames := 0, cells := 0, slots := 0, locals := 0 } : Room)) (fun a U => a = #[(.long q0), (.long q1)] ∧ Z.Warmed39 U.vm ∧ U.heap = h0) (fun _ _ _ _ _ => True) (fun _ U o U' => ∃ v L, o = .returned v ∧ Q16 Z q0 q1 h0 n0 v U'.heap L ∧ FrameEnd U o U' L ({ frames := 0, cells := 0, slots := 0, locals := 0 } : Room).cells ({ frames := 0, cells := 0, slots := 0, locals := 0 } : Room).slots) := by
  refine MetFree.of_bodySF (Jvm.Free.JP.mathPlain rfl (by decide +kernel)) hisR ?_
  intro p e s m args below meth c s₁ Bd hml0 hP hK
  obtain ⟨rfl, hZ, hh⟩ := hP
  have hx := Bd.exec
  have hby := Bd.bytes
  have hml : c.maxLocals = 4 := hml0
  have hown : s.vm.findClass "java/lang/Math" = some m.cls := findClass_of_methodNamed Bd.named
  have hnm := (name_of_methodNamed Bd.named Bd.method).1
  have X0 : Stand p l e ({ frames := 0, cells := 0, slots := 0, locals := 0 } : Room) s m #[(.long q0), (.long q1)] below meth c s₁ [] 0 0 := Stand.of_body Bd
  have e0 : s₁.heap = h0 := by rw [← hh, Bd.state]; rfl
  have N0 := Fr.nil n0
  refine own_back (b := s₁.setTop (mkF m 0 #[.val (.long q0), .second, .val (.long q1), .second] [])) (fun t kt => castTop (ef_16 m q0 q1) kt) ?_
  refine own_back (b := s₁.setTop (mkF m 3 #[.val (.long q0), .second, .val (.long q1), .second] [(.int (lcmpW q0 q1))])) (fun t kt => ?_) ?_
  · show Steps p.tables e below (s₁.setTop (mkF m 0 #[.val (.long q0), .second, .val (.long q1), .second] [])) _
    refine XS.lloadN X0.here hx rfl (hb hby d16_0) rfl ?_
    refine XS.lloadN X0.here hx rfl (hb hby d16_1) rfl ?_
    refine XS.lcmp X0.here hx rfl (hb hby d16_2) rfl ?_
    exact kt
  by_cases hc3_1 : q1 < q0
  · refine own_back (b := s₁.setTop (mkF m 11 #[.val (.long q0), .second, .val (.long q1), .second] [(.long q1)])) (fun t kt => ?_) ?_
    · show Steps p.tables e below (s₁.setTop (mkF m 3 #[.val (.long q0), .second, .val (.long q1), .second] [(.int (lcmpW q0 q1))])) _
      refine XS.ifYes X0.here hx rfl (pc0 := 3) (pc' := 10) rfl (hb hby d16_3) rfl ((if0 _ _).trans (tlt ((lw_gt _ _).mpr hc3_1)).2.2.1) (by decide) (by decide) ?_
      refine XS.lloadN X0.here hx rfl (hb hby d16_10) rfl ?_
      exact kt
    obtain ⟨fs, hr, hrun, hended, hW, hsame⟩ := X0.leave (v := some (.long q1)) (fun h => by rw [Bd.returns] at h; cases h) (BodyLoose.notSynchronized Bd)
    refine ⟨_, _, ?_, hrun, hended, _, _, rfl, ?_, ⟨_, rfl⟩, hW, hsame.mono (by decide) (by decide)⟩
    · show Steps p.tables e below (s₁.setTop (mkF m 11 #[.val (.long q0), .second, .val (.long q1), .second] [(.long q1)])) _
      exact own_retL X0 hx Bd.returns (hb hby d16_11) hr
    · show Q16 Z q0 q1 h0 n0 _ s₁.heap _
      rw [e0]
      exact ⟨by rw [show f16 q0 q1 = q1 from by unfold f16; rw [if_pos hc3_1]], N0, rfl⟩
  · refine own_back (b := s₁.setTop (mkF m 11 #[.val (.long q0), .second, .val (.long q1), .second] [(.long q0)])) (fun t kt => ?_) ?_
    · show Steps p.tables e below (s₁.setTop (mkF m 3 #[.val (.long q0), .second, .val (.long q1), .second] [(.int (lcmpW q0 q1))])) _
      refine XS.ifNo X0.here hx rfl (hb hby d16_3) rfl ((if0 _ _).trans (flt (fun q => hc3_1 ((lw_gt _ _).mp q))).2.2.1) ?_
      refine XS.lloadN X0.here hx rfl (hb hby d16_6) rfl ?_
      refine XS.goto X0.here hx rfl (pc0 := 7) (pc' := 11) rfl (hb hby d16_7) (by decide) (by decide) ?_
      exact kt
    obtain ⟨fs, hr, hrun, hended, hW, hsame⟩ := X0.leave (v := some (.long q0)) (fun h => by rw [Bd.returns] at h; cases h) (BodyLoose.notSynchronized Bd)
    refine ⟨_, _, ?_, hrun, hended, _, _, rfl, ?_, ⟨_, rfl⟩, hW, hsame.mono (by decide) (by decide)⟩
    · show Steps p.tables e below (s₁.setTop (mkF m 11 #[.val (.long q0), .second, .val (.long q1), .second] [(.long q0)])) _
      exact own_retL X0 hx Bd.returns (hb hby d16_11) hr
    · show Q16 Z q0 q1 h0 n0 _ s₁.heap _
      rw [e0]
      exact ⟨by rw [show f16 q0 q1 = q0 from by unfold f16; rw [if_neg hc3_1]], N0, rfl⟩
theorem d14_0 : decode prog_12_method_9_code 0 = .ok (.lload_n 1, 1) := by decide +kernel
theorem d14_1 : decode prog_12_method_9_code 1 = .ok (.aload_n 0, 1) := by decide +kernel
theorem d14_2 : decode prog_12_method_9_code 2 = .ok (.getfield 20, 3) := by decide +kernel
theorem d14_5 : decode prog_12_method_9_code 5 = .ok (.lcmp, 1) := by decide +kernel
theorem d14_6 : decode prog_12_method_9_code 6 = .ok (.ifCond .lt 7, 3) := by decide +kernel
theorem d14_9 : decode prog_12_method_9_code 9 = .ok (.iconst 1, 1) := by decide +kernel
theorem d14_10 : decode prog_12_method_9_code 10 = .ok (.goto 4, 3) := by decide +kernel
theorem d14_13 : decode prog_12_method_9_code 13 = .ok (.iconst 0, 1) := by decide +kernel
theorem d14_14 : decode prog_12_method_9_code 14 = .ok (.istore_n 3, 1) := by decide +kernel
theorem d14_15 : decode prog_12_method_9_code 15 = .ok (.iload_n 3, 1) := by decide +kernel
theorem d14_16 : decode prog_12_method_9_code 16 = .ok (.ifCond .eq 13, 3) := by decide +kernel
theorem d14_19 : decode prog_12_method_9_code 19 = .ok (.aload_n 0, 1) := by decide +kernel
theorem d14_20 : decode prog_12_method_9_code 20 = .ok (.lload_n 1, 1) := by decide +kernel
theorem d14_21 : decode prog_12_method_9_code 21 = .ok (.aload_n 0, 1) := by decide +kernel
theorem d14_22 : decode prog_12_method_9_code 22 = .ok (.getfield 47, 3) := by decide +kernel
theorem d14_25 : decode prog_12_method_9_code 25 = .ok (.ladd, 1) := by decide +kernel
theorem d14_26 : decode prog_12_method_9_code 26 = .ok (.putfield 20, 3) := by decide +kernel
theorem d14_29 : decode prog_12_method_9_code 29 = .ok (.iload_n 3, 1) := by decide +kernel
theorem d14_30 : decode prog_12_method_9_code 30 = .ok (.ireturn, 1) := by decide +kernel
theorem pn_14 : plainName "com/example/many_to_leader/manytoleader/bully/CandidatePool" = true := by first | (simp [plainName, overriddenIn]; done) | decide +kernel
theorem ef_14 (m : MethodId) (x0 : Addr) (x1 : Int64) : entryFrame m #[(.ref x0), (.long x1)] 4 = mkF m 0 #[.val (.ref x0), .val (.long x1), .second, .unset] [] := by first | (simp [entryFrame, mkF, argsToLocals, Value.category]; done) | rfl
def f14 (q1 : Int64) (w : Int64) (wi : Int64) (wck : Int64) (wcn : Int32) : Int32 := (if q1 < w then (0 : Int32) else (1 : Int32))
def Q14 (Z : State) (a0 : Addr) (q1 : Int64) (w : Int64) (wi : Int64) (wck : Int64) (wcn : Int32) (h0 : Heap) (n0 : Nat) (v : Option Value) (h : Heap) (L : List Loc) : Prop := v = some (.int (f14 q1 w wi wck wcn)) ∧ Fr n0 L ∧ Keep h0 h [a0] ∧ Exa Z h a0 "com/example/many_to_leader/manytoleader/bully/CandidatePool" ∧ Fld Z h a0 "com/example/many_to_leader/manytoleader/bully/CandidatePool" "heartbeatDeadline" "J" (.long (own_hd q1 w wi)) ∧ Fld Z h a0 "com/example/many_to_leader/manytoleader/bully/CandidatePool" "intervalMillis" "J" (.long wi) ∧ Fld Z h a0 "com/example/many_to_leader/manytoleader/bully/CandidatePool" "checkDeadline" "J" (.long wck) ∧ Fld Z h a0 "com/example/many_to_leader/manytoleader/bully/CandidatePool" "candidate" "Z" (.int wcn)
set_option maxRecDepth 65536 in
set_option maxHeartbeats 40000000 in
theorem rm14 (l : Launch) (Z : State) (aw : Array Value) (hw : ∀ d ∈ tables_1, d.before aw Z = true) (ws : List Jvm.Cond) (a0 : Addr) (q1 : Int64) (w : Int64) (wi : Int64) (wck : Int64) (wcn : Int32) (h0 : Heap) (n0 : Nat) (Z0 : n0 ≤ h0.size) (E_a0 : Exa Z h0 a0 "com/example/many_to_leader/manytoleader/bully/CandidatePool") (g_a0 : n0 ≤ a0) (F_heartbeatDeadline_a0 : Fld Z h0 a0 "com/example/many_to_leader/manytoleader/bully/CandidatePool" "heartbeatDeadline" "J" (.long w)) (F_intervalMillis_a0 : Fld Z h0 a0 "com/example/many_to_leader/manytoleader/bully/CandidatePool" "intervalMillis" "J" (.long wi)) (F_checkDeadline_a0 : Fld Z h0 a0 "com/example/many_to_leader/manytoleader/bully/CandidatePool" "checkDeadline" "J" (.long wck)) (F_candidate_a0 : Fld Z h0 a0 "com/example/many_to_leader/manytoleader/bully/CandidatePool" "candidate" "Z" (.int wcn)) :
    MetFree l (⟨"com/example/many_to_leader/manytoleader/bully/CandidatePool", "heartbeatDue", "(J)Z"⟩ : MethodName) (head1 (Jvm.Cond.code (⟨"com/example/many_to_leader/manytoleader/bully/CandidatePool", "heartbeatDue", "(J)Z"⟩ : MethodName) prog_12_method_9_code 4 (some .boolean) :: ws) ({ frames := 0, cells := 0, slots := 0, locals := 0 } : Room)) (fun a U => a = #[(.ref a0), (.long q1)] ∧ Z.Warmed39 U.vm ∧ U.heap = h0) (fun _ _ _ _ _ => True) (fun _ U o U' => ∃ v L, o = .returned v ∧ Q14 Z a0 q1 w wi wck wcn h0 n0 v U'.heap L ∧ FrameEnd U o U' L ({ frames := 0, cells := 0, slots := 0, locals := 0 } : Room).cells ({ frames := 0, cells := 0, slots := 0, locals := 0 } : Room).slots) := by
  refine MetFree.of_bodySF (plainFor_of_name pn_14) hisR ?_
  intro p e s m args below meth c s₁ Bd hml0 hP hK
  obtain ⟨rfl, hZ, hh⟩ := hP
  have hx := Bd.exec
  have hby := Bd.bytes
  have hml : c.maxLocals = 4 := hml0
  have hown : s.vm.findClass "com/example/many_to_leader/manytoleader/bully/CandidatePool" = some m.cls := findClass_of_methodNamed Bd.named
  have hnm := (name_of_methodNamed Bd.named Bd.method).1
  have X0 : Stand p l e ({ frames := 0, cells := 0, slots := 0, locals := 0 } : Room) s m #[(.ref a0), (.long q1)] below meth c s₁ [] 0 0 := Stand.of_body Bd
  have e0 : s₁.heap = h0 := by rw [← hh, Bd.state]; rfl
  have N0 := Fr.nil n0
  refine own_back (b := s₁.setTop (mkF m 0 #[.val (.ref a0), .val (.long q1), .second, .unset] [])) (fun t kt => castTop (ef_14 m a0 q1) kt) ?_
  obtain ⟨T1, X1, e1, st1⟩ := getF X0 hx hZ hown (host := "") (Or.inl (hw _ (List.mem_of_getElem? (i := 69) rfl))) Via.refl e0 F_heartbeatDeadline_a0 (g := (mkF m 2 #[.val (.ref a0), .val (.long q1), .second, .unset] [(.ref a0), (.long q1)])) rfl rfl (hb hby d14_2)
  refine own_back (b := T1.setTop (mkF m 6 #[.val (.ref a0), .val (.long q1), .second, .unset] [(.int (lcmpW q1 w))])) (fun t kt => ?_) ?_
  · show Steps p.tables e below (s₁.setTop (mkF m 0 #[.val (.ref a0), .val (.long q1), .second, .unset] [])) _
    refine XS.lloadN X0.here hx rfl (hb hby d14_0) rfl ?_
    refine XS.aloadN X0.here hx rfl (hb hby d14_1) rfl rfl ?_
    show Steps p.tables e below (s₁.setTop (mkF m 2 #[.val (.ref a0), .val (.long q1), .second, .unset] [(.ref a0), (.long q1)])) _
    refine st1 _ ?_
    refine XS.lcmp X1.here hx rfl (hb hby d14_5) rfl ?_
    exact kt
  by_cases hc6_2 : q1 < w
  · refine own_back (b := T1.setTop (mkF m 30 #[.val (.ref a0), .val (.long q1), .second, .val (.int (0 : Int32))] [(.int (0 : Int32))])) (fun t kt => ?_) ?_
    · show Steps p.tables e below (T1.setTop (mkF m 6 #[.val (.ref a0), .val (.long q1), .second, .unset] [(.int (lcmpW q1 w))])) _
      refine XS.ifYes X1.here hx rfl (pc0 := 6) (pc' := 13) rfl (hb hby d14_6) rfl ((if0 _ _).trans (tlt ((lw_lt _ _).mpr hc6_2)).1) (by decide) (by decide) ?_
      refine XS.iconst X1.here hx rfl (hb hby d14_13) ?_
      refine XS.istoreN X1.here hx rfl (hb hby d14_14) rfl (l' := #[.val (.ref a0), .val (.long q1), .second, .val (.int (0 : Int32))]) rfl ?_
      refine XS.iloadN X1.here hx rfl (hb hby d14_15) rfl ?_
      refine XS.ifYes X1.here hx rfl (pc0 := 16) (pc' := 29) rfl (hb hby d14_16) rfl ((if0 _ _).trans (teq (by decide : (0 : Int32) = (0 : Int32))).1) (by decide) (by decide) ?_
      refine XS.iloadN X1.here hx rfl (hb hby d14_29) rfl ?_
      exact kt
    obtain ⟨fs, hr, hrun, hended, hW, hsame⟩ := X1.leave (v := some (.int (0 : Int32))) (fun h => by rw [Bd.returns] at h; cases h) (BodyLoose.notSynchronized Bd)
    refine ⟨_, _, ?_, hrun, hended, _, _, rfl, ?_, ⟨_, rfl⟩, hW, hsame.mono (by decide) (by decide)⟩
    · show Steps p.tables e below (T1.setTop (mkF m 30 #[.val (.ref a0), .val (.long q1), .second, .val (.int (0 : Int32))] [(.int (0 : Int32))])) _
      exact retN X1 hx (t := .boolean) Bd.returns (by simp) (hb hby d14_30) hr
    · show Q14 Z a0 q1 w wi wck wcn h0 n0 _ T1.heap _
      rw [e1]
      exact ⟨by rw [show f14 q1 w wi wck wcn = (0 : Int32) from by unfold f14; rw [if_pos hc6_2]], N0, (Keep.refl h0 _), E_a0, (by rw [own_hd_t hc6_2]; exact F_heartbeatDeadline_a0), F_intervalMillis_a0, F_checkDeadline_a0, F_candidate_a0⟩
  · obtain ⟨T3, X3, e3, st3⟩ := getF X1 hx hZ hown (host := "") (Or.inl (hw _ (List.mem_of_getElem? (i := 86) rfl))) Via.refl e1 F_intervalMillis_a0 (g := (mkF m 22 #[.val (.ref a0), .val (.long q1), .second, .val (.int (1 : Int32))] [(.ref a0), (.long q1), (.ref a0)])) rfl rfl (hb hby d14_22)
    obtain ⟨T4, h4, X4, e4, W4, st4⟩ := putF X3 hx hZ hown (host := "") (Or.inl (hw _ (List.mem_of_getElem? (i := 69) rfl))) Via.refl e3 F_heartbeatDeadline_a0 E_a0 (Or.inl (hw _ (List.mem_of_getElem? (i := 70) rfl))) (hw _ (List.mem_of_getElem? (i := 30) rfl)) (ty := .long) (by decide) rfl rfl (g := (mkF m 26 #[.val (.ref a0), .val (.long q1), .second, .val (.int (1 : Int32))] [(.long (q1 + wi)), (.ref a0)])) rfl rfl (hb hby d14_26)
    have Fw4 := F_heartbeatDeadline_a0.same W4
    have f4_0 := E_a0.wr W4
    have f4_1 := F_intervalMillis_a0.other W4 (Or.inr (slot_ne (Or.inr (hw _ (List.mem_of_getElem? (i := 87) rfl))) (Or.inl (hw _ (List.mem_of_getElem? (i := 70) rfl))) (by decide) (t := .long) (t' := .long) (by decide) (by decide)))
    have f4_2 := F_checkDeadline_a0.other W4 (Or.inr (slot_ne (Or.inl (hw _ (List.mem_of_getElem? (i := 74) rfl))) (Or.inl (hw _ (List.mem_of_getElem? (i := 70) rfl))) (by decide) (t := .long) (t' := .long) (by decide) (by decide)))
    have f4_3 := F_candidate_a0.other W4 (Or.inr (slot_ne (Or.inl (hw _ (List.mem_of_getElem? (i := 140) rfl))) (Or.inl (hw _ (List.mem_of_getElem? (i := 70) rfl))) (by decide) (t := .boolean) (t' := .long) (by decide) (by decide)))
    have K4 : Keep h0 h4 [a0] := (Keep.refl h0 _).wr W4 (Or.inl (List.mem_of_getElem? (i := 0) rfl))
    have Z4 : n0 ≤ h4.size := Nat.le_trans Z0 (Keep.of_wr W4).1
    have N4 := Fr.snoc X4 N0 g_a0
    refine own_back (b := T4.setTop (mkF m 30 #[.val (.ref a0), .val (.long q1), .second, .val (.int (1 : Int32))] [(.int (1 : Int32))])) (fun t kt => ?_) ?_
    · show Steps p.tables e below (T1.setTop (mkF m 6 #[.val (.ref a0), .val (.long q1), .second, .unset] [(.int (lcmpW q1 w))])) _
      refine XS.ifNo X1.here hx rfl (hb hby d14_6) rfl ((if0 _ _).trans (flt (fun q => hc6_2 ((lw_lt _ _).mp q))).1) ?_
      refine XS.iconst X1.here hx rfl (hb hby d14_9) ?_
      refine XS.goto X1.here hx rfl (pc0 := 10) (pc' := 14) rfl (hb hby d14_10) (by decide) (by decide) ?_
      refine XS.istoreN X1.here hx rfl (hb hby d14_14) rfl (l' := #[.val (.ref a0), .val (.long q1), .second, .val (.int (1 : Int32))]) rfl ?_
      refine XS.iloadN X1.here hx rfl (hb hby d14_15) rfl ?_
      refine XS.ifNo X1.here hx rfl (hb hby d14_16) rfl ((if0 _ _).trans (feq (by decide : ¬ ((1 : Int32) = (0 : Int32)))).1) ?_
      refine XS.aloadN X1.here hx rfl (hb hby d14_19) rfl rfl ?_
      show Steps p.tables e below (T1.setTop (mkF m 20 #[.val (.ref a0), .val (.long q1), .second, .val (.int (1 : Int32))] [(.ref a0)])) _
      refine XS.lloadN X1.here hx rfl (hb hby d14_20) rfl ?_
      refine XS.aloadN X1.here hx rfl (hb hby d14_21) rfl rfl ?_
      show Steps p.tables e below (T1.setTop (mkF m 22 #[.val (.ref a0), .val (.long q1), .second, .val (.int (1 : Int32))] [(.ref a0), (.long q1), (.ref a0)])) _
      refine st3 _ ?_
      refine XS.ladd X3.here hx rfl (hb hby d14_25) rfl ?_
      show Steps p.tables e below (T3.setTop (mkF m 26 #[.val (.ref a0), .val (.long q1), .second, .val (.int (1 : Int32))] [(.long (q1 + wi)), (.ref a0)])) _
      refine st4 _ ?_
      refine XS.iloadN X4.here hx rfl (hb hby d14_29) rfl ?_
      exact kt
    obtain ⟨fs, hr, hrun, hended, hW, hsame⟩ := X4.leave (v := some (.int (1 : Int32))) (fun h => by rw [Bd.returns] at h; cases h) (BodyLoose.notSynchronized Bd)
    refine ⟨_, _, ?_, hrun, hended, _, _, rfl, ?_, ⟨_, rfl⟩, hW, hsame.mono (by decide) (by decide)⟩
    · show Steps p.tables e below (T4.setTop (mkF m 30 #[.val (.ref a0), .val (.long q1), .second, .val (.int (1 : Int32))] [(.int (1 : Int32))])) _
      exact retN X4 hx (t := .boolean) Bd.returns (by simp) (hb hby d14_30) hr
    · show Q14 Z a0 q1 w wi wck wcn h0 n0 _ T4.heap _
      rw [e4]
      exact ⟨by rw [show f14 q1 w wi wck wcn = (1 : Int32) from by unfold f14; rw [if_neg hc6_2]], N4, K4, f4_0, (by rw [own_hd_f hc6_2]; exact Fw4), f4_1, f4_2, f4_3⟩
theorem d15_0 : decode prog_12_method_4_code 0 = .ok (.aload_n 0, 1) := by decide +kernel
theorem d15_1 : decode prog_12_method_4_code 1 = .ok (.getfield 20, 3) := by decide +kernel
theorem d15_4 : decode prog_12_method_4_code 4 = .ok (.aload_n 0, 1) := by decide +kernel
theorem d15_5 : decode prog_12_method_4_code 5 = .ok (.getfield 27, 3) := by decide +kernel
theorem d15_8 : decode prog_12_method_4_code 8 = .ok (.invokestatic 95, 3) := by decide +kernel
theorem d15_11 : decode prog_12_method_4_code 11 = .ok (.lreturn, 1) := by decide +kernel
theorem pn_15 : plainName "com/example/many_to_leader/manytoleader/bully/CandidatePool" = true := by first | (simp [plainName, overriddenIn]; done) | decide +kernel
theorem pd_15_0 : parseMethodDescriptor "(JJ)J" = some ⟨[.long, .long], some .long⟩ := by decide +kernel
theorem ef_15 (m : MethodId) (x0 : Addr) : entryFrame m #[(.ref x0)] 1 = mkF m 0 #[.val (.ref x0)] [] := by first | (simp [entryFrame, mkF, argsToLocals, Value.category]; done) | rfl
def f15 (w1 : Int64) (w2 : Int64) : Int64 := (f16 w1 w2)
def Q15 (Z : State) (a0 : Addr) (w1 : Int64) (w2 : Int64) (h0 : Heap) (n0 : Nat) (v : Option Value) (h : Heap) (L : List Loc) : Prop := v = some (.long (f15 w1 w2)) ∧ Fr n0 L ∧ h = h0
set_option maxRecDepth 65536 in
set_option maxHeartbeats 40000000 in
theorem rm15 (l : Launch) (Z : State) (aw : Array Value) (hw : ∀ d ∈ tables_1, d.before aw Z = true) (ws : List Jvm.Cond) (a0 : Addr) (w1 : Int64) (w2 : Int64) (h0 : Heap) (n0 : Nat) (Z0 : n0 ≤ h0.size) (F_heartbeatDeadline_a0 : Fld Z h0 a0 "com/example/many_to_leader/manytoleader/bully/CandidatePool" "heartbeatDeadline" "J" (.long w1)) (F_checkDeadline_a0 : Fld Z h0 a0 "com/example/many_to_leader/manytoleader/bully/CandidatePool" "checkDeadline" "J" (.long w2)) :
    MetFree l (⟨"com/example/many_to_leader/manytoleader/bully/CandidatePool", "deadline", "()J"⟩ : MethodName) (head1 (Jvm.Cond.code (⟨"com/example/many_to_leader/manytoleader/bully/CandidatePool", "deadline", "()J"⟩ : MethodName) prog_12_method_4_code 1 (some .long) :: ws) ({ frames := 1, cells := 0, slots := 0, locals := 15 } : Room)) (fun a U => a = #[(.ref a0)] ∧ Z.Warmed39 U.vm ∧ U.heap = h0) (fun _ _ _ _ _ => True) (fun _ U o U' => ∃ v L, o = .returned v ∧ Q15 Z a0 w1 w2 h0 n0 v U'.heap L ∧ FrameEnd U o U' L ({ frames := 1, cells := 0, slots := 0, locals := 15 } : Room).cells ({ frames := 1, cells := 0, slots := 0, locals := 15 } : Room).slots) := by
  refine MetFree.of_bodySF (plainFor_of_name pn_15) hisR ?_
  intro p e s m args below meth c s₁ Bd hml0 hP hK
  obtain ⟨rfl, hZ, hh⟩ := hP
  have hx := Bd.exec
  have hby := Bd.bytes
  have hml : c.maxLocals = 1 := hml0
  have hown : s.vm.findClass "com/example/many_to_leader/manytoleader/bully/CandidatePool" = some m.cls := findClass_of_methodNamed Bd.named
  have hnm := (name_of_methodNamed Bd.named Bd.method).1
  have X0 : Stand p l e ({ frames := 1, cells := 0, slots := 0, locals := 15 } : Room) s m #[(.ref a0)] below meth c s₁ [] 0 0 := Stand.of_body Bd
  have e0 : s₁.heap = h0 := by rw [← hh, Bd.state]; rfl
  have N0 := Fr.nil n0
  refine own_back (b := s₁.setTop (mkF m 0 #[.val (.ref a0)] [])) (fun t kt => castTop (ef_15 m a0) kt) ?_
  obtain ⟨T1, X1, e1, st1⟩ := getF X0 hx hZ hown (host := "") (Or.inl (hw _ (List.mem_of_getElem? (i := 69) rfl))) Via.refl e0 F_heartbeatDeadline_a0 (g := (mkF m 1 #[.val (.ref a0)] [(.ref a0)])) rfl rfl (hb hby d15_1)
  obtain ⟨T2, X2, e2, st2⟩ := getF X1 hx hZ hown (host := "") (Or.inl (hw _ (List.mem_of_getElem? (i := 73) rfl))) Via.refl e1 F_checkDeadline_a0 (g := (mkF m 5 #[.val (.ref a0)] [(.ref a0), (.long w1)])) rfl rfl (hb hby d15_5)
  obtain ⟨_, _, ⟨T3, L3, k3, n3⟩, -, X3, ⟨Lc3, hQ3, l3, y3, z3⟩, st3⟩ := Jvm.LawKit.callS X2 hx (y := (⟨"java/lang/Math", "min", "(JJ)J"⟩ : MethodName)) hown (mvT hZ (hw _ (List.mem_of_getElem? (i := 130) rfl))) (mvT hZ (hw _ (List.mem_of_getElem? (i := 131) rfl))) (mvT hZ (hw _ (List.mem_of_getElem? (i := 132) rfl))) (mvT hZ (hw _ (List.mem_of_getElem? (i := 133) rfl))) (by decide) (backOf (W := 0) (rm16 l Z aw hw [] w1 w2 h0 n0 Z0 ) hZ (hw _ (List.mem_of_getElem? (i := 133) rfl)) (hw _ (List.mem_of_getElem? (i := 132) rfl)) (by decide) (by decide)) (g := (mkF m 8 #[.val (.ref a0)] [(.long w2), (.long w1)])) rfl (by rw [hml]; rfl) (argsL := [(.long w1), (.long w2)]) (rest := []) (lenOf pd_15_0 rfl) rfl (by show 2 * 0 + _ ≤ _; exact Nat.le_of_eq rfl) (hb hby d15_8) (fun _ _ => ⟨rfl, e2, (by decide : 0 + 0 ≤ _), (by decide : 0 + 0 ≤ _)⟩)
  dsimp only [Pt.U, Pt.locs, Pt.cells, Pt.slots] at X3 l3 y3 z3 st3 hQ3
  rw [l3, y3, z3] at X3
  obtain ⟨rfl, Nq3, e3⟩ := hQ3
  have N3 := Fr.app N0 Nq3
  refine own_back (b := T3.setTop (mkF m 11 #[.val (.ref a0)] [(.long (f16 w1 w2))])) (fun t kt => ?_) ?_
  · show Steps p.tables e below (s₁.setTop (mkF m 0 #[.val (.ref a0)] [])) _
    refine XS.aloadN X0.here hx rfl (hb hby d15_0) rfl rfl ?_
    show Steps p.tables e below (s₁.setTop (mkF m 1 #[.val (.ref a0)] [(.ref a0)])) _
    refine st1 _ ?_
    refine XS.aloadN X1.here hx rfl (hb hby d15_4) rfl rfl ?_
    show Steps p.tables e below (T1.setTop (mkF m 5 #[.val (.ref a0)] [(.ref a0), (.long w1)])) _
    refine st2 _ ?_
    show Steps p.tables e below (T2.setTop (mkF m 8 #[.val (.ref a0)] [(.long w2), (.long w1)])) _
    refine st3 _ ?_
    exact kt
  obtain ⟨fs, hr, hrun, hended, hW, hsame⟩ := X3.leave (v := some (.long (f16 w1 w2))) (fun h => by rw [Bd.returns] at h; cases h) (BodyLoose.notSynchronized Bd)
  refine ⟨_, _, ?_, hrun, hended, _, _, rfl, ?_, ⟨_, rfl⟩, hW, hsame.mono (by decide) (by decide)⟩
  · show Steps p.tables e below (T3.setTop (mkF m 11 #[.val (.ref a0)] [(.long (f16 w1 w2))])) _
    exact own_retL X3 hx Bd.returns (hb hby d15_11) hr
  · show Q15 Z a0 w1 w2 h0 n0 _ T3.heap _
    rw [e3]
    exact ⟨by rw [show f15 w1 w2 = (f16 w1 w2) from by unfold f15; rfl], N3, rfl⟩
theorem d17_0 : decode prog_12_method_3_code 0 = .ok (.aload_n 0, 1) := by decide +kernel
theorem d17_1 : decode prog_12_method_3_code 1 = .ok (.getfield 78, 3) := by decide +kernel
theorem d17_4 : decode prog_12_method_3_code 4 = .ok (.ireturn, 1) := by decide +kernel
theorem pn_17c0 : plainName "com/example/many_to_leader/manytoleader/bully/CandidatePool" = true := by first | (simp [plainName, overriddenIn]; done) | decide +kernel
theorem ef_17c0 (m : MethodId) (x0 : Addr) : entryFrame m #[(.ref x0)] 1 = mkF m 0 #[.val (.ref x0)] [] := by first | (simp [entryFrame, mkF, argsToLocals, Value.category]; done) | rfl
def Q17c0 (Z : State) (a0 : Addr) (h0 : Heap) (n0 : Nat) (v : Option Value) (h : Heap) (L : List Loc) : Prop := v = some (.int (0 : Int32)) ∧ Fr n0 L ∧ h = h0
set_option maxRecDepth 65536 in
set_option maxHeartbeats 40000000 in
theorem rm17c0 (l : Launch) (Z : State) (aw : Array Value) (hw : ∀ d ∈ tables_1, d.before aw Z = true) (ws : List Jvm.Cond) (a0 : Addr) (h0 : Heap) (n0 : Nat) (Z0 : n0 ≤ h0.size) (F_candidate_a0 : Fld Z h0 a0 "com/example/many_to_leader/manytoleader/bully/CandidatePool" "candidate" "Z" (.int (0 : Int32))) :
    MetFree l (⟨"com/example/many_to_leader/manytoleader/bully/CandidatePool", "isCandidate", "()Z"⟩ : MethodName) (head1 (Jvm.Cond.code (⟨"com/example/many_to_leader/manytoleader/bully/CandidatePool", "isCandidate", "()Z"⟩ : MethodName) prog_12_method_3_code 1 (some .boolean) :: ws) ({ frames := 0, cells := 0, slots := 0, locals := 0 } : Room)) (fun a U => a = #[(.ref a0)] ∧ Z.Warmed39 U.vm ∧ U.heap = h0) (fun _ _ _ _ _ => True) (fun _ U o U' => ∃ v L, o = .returned v ∧ Q17c0 Z a0 h0 n0 v U'.heap L ∧ FrameEnd U o U' L ({ frames := 0, cells := 0, slots := 0, locals := 0 } : Room).cells ({ frames := 0, cells := 0, slots := 0, locals := 0 } : Room).slots) := by
  refine MetFree.of_bodySF (plainFor_of_name pn_17c0) hisR ?_
  intro p e s m args below meth c s₁ Bd hml0 hP hK
  obtain ⟨rfl, hZ, hh⟩ := hP
  have hx := Bd.exec
  have hby := Bd.bytes
  have hml : c.maxLocals = 1 := hml0
  have hown : s.vm.findClass "com/example/many_to_leader/manytoleader/bully/CandidatePool" = some m.cls := findClass_of_methodNamed Bd.named
  have hnm := (name_of_methodNamed Bd.named Bd.method).1
  have X0 : Stand p l e ({ frames := 0, cells := 0, slots := 0, locals := 0 } : Room) s m #[(.ref a0)] below meth c s₁ [] 0 0 := Stand.of_body Bd
  have e0 : s₁.heap = h0 := by rw [← hh, Bd.state]; rfl
  have N0 := Fr.nil n0
  refine own_back (b := s₁.setTop (mkF m 0 #[.val (.ref a0)] [])) (fun t kt => castTop (ef_17c0 m a0) kt) ?_
  obtain ⟨T1, X1, e1, st1⟩ := getF X0 hx hZ hown (host := "") (Or.inl (hw _ (List.mem_of_getElem? (i := 139) rfl))) Via.refl e0 F_candidate_a0 (g := (mkF m 1 #[.val (.ref a0)] [(.ref a0)])) rfl rfl (hb hby d17_1)
  refine own_back (b := T1.setTop (mkF m 4 #[.val (.ref a0)] [(.int (0 : Int32))])) (fun t kt => ?_) ?_
  · show Steps p.tables e below (s₁.setTop (mkF m 0 #[.val (.ref a0)] [])) _
    refine XS.aloadN X0.here hx rfl (hb hby d17_0) rfl rfl ?_
    show Steps p.tables e below (s₁.setTop (mkF m 1 #[.val (.ref a0)] [(.ref a0)])) _
    refine st1 _ ?_
    exact kt
  obtain ⟨fs, hr, hrun, hended, hW, hsame⟩ := X1.leave (v := some (.int (0 : Int32))) (fun h => by rw [Bd.returns] at h; cases h) (BodyLoose.notSynchronized Bd)
  refine ⟨_, _, ?_, hrun, hended, _, _, rfl, ?_, ⟨_, rfl⟩, hW, hsame.mono (by decide) (by decide)⟩
  · show Steps p.tables e below (T1.setTop (mkF m 4 #[.val (.ref a0)] [(.int (0 : Int32))])) _
    exact retN X1 hx (t := .boolean) Bd.returns (by simp) (hb hby d17_4) hr
  · show Q17c0 Z a0 h0 n0 _ T1.heap _
    rw [e1]
    exact ⟨rfl, N0, rfl⟩
theorem pn_17c1 : plainName "com/example/many_to_leader/manytoleader/bully/CandidatePool" = true := by first | (simp [plainName, overriddenIn]; done) | decide +kernel
theorem ef_17c1 (m : MethodId) (x0 : Addr) : entryFrame m #[(.ref x0)] 1 = mkF m 0 #[.val (.ref x0)] [] := by first | (simp [entryFrame, mkF, argsToLocals, Value.category]; done) | rfl
def Q17c1 (Z : State) (a0 : Addr) (h0 : Heap) (n0 : Nat) (v : Option Value) (h : Heap) (L : List Loc) : Prop := v = some (.int (1 : Int32)) ∧ Fr n0 L ∧ h = h0
set_option maxRecDepth 65536 in
set_option maxHeartbeats 40000000 in
theorem rm17c1 (l : Launch) (Z : State) (aw : Array Value) (hw : ∀ d ∈ tables_1, d.before aw Z = true) (ws : List Jvm.Cond) (a0 : Addr) (h0 : Heap) (n0 : Nat) (Z0 : n0 ≤ h0.size) (F_candidate_a0 : Fld Z h0 a0 "com/example/many_to_leader/manytoleader/bully/CandidatePool" "candidate" "Z" (.int (1 : Int32))) :
    MetFree l (⟨"com/example/many_to_leader/manytoleader/bully/CandidatePool", "isCandidate", "()Z"⟩ : MethodName) (head1 (Jvm.Cond.code (⟨"com/example/many_to_leader/manytoleader/bully/CandidatePool", "isCandidate", "()Z"⟩ : MethodName) prog_12_method_3_code 1 (some .boolean) :: ws) ({ frames := 0, cells := 0, slots := 0, locals := 0 } : Room)) (fun a U => a = #[(.ref a0)] ∧ Z.Warmed39 U.vm ∧ U.heap = h0) (fun _ _ _ _ _ => True) (fun _ U o U' => ∃ v L, o = .returned v ∧ Q17c1 Z a0 h0 n0 v U'.heap L ∧ FrameEnd U o U' L ({ frames := 0, cells := 0, slots := 0, locals := 0 } : Room).cells ({ frames := 0, cells := 0, slots := 0, locals := 0 } : Room).slots) := by
  refine MetFree.of_bodySF (plainFor_of_name pn_17c1) hisR ?_
  intro p e s m args below meth c s₁ Bd hml0 hP hK
  obtain ⟨rfl, hZ, hh⟩ := hP
  have hx := Bd.exec
  have hby := Bd.bytes
  have hml : c.maxLocals = 1 := hml0
  have hown : s.vm.findClass "com/example/many_to_leader/manytoleader/bully/CandidatePool" = some m.cls := findClass_of_methodNamed Bd.named
  have hnm := (name_of_methodNamed Bd.named Bd.method).1
  have X0 : Stand p l e ({ frames := 0, cells := 0, slots := 0, locals := 0 } : Room) s m #[(.ref a0)] below meth c s₁ [] 0 0 := Stand.of_body Bd
  have e0 : s₁.heap = h0 := by rw [← hh, Bd.state]; rfl
  have N0 := Fr.nil n0
  refine own_back (b := s₁.setTop (mkF m 0 #[.val (.ref a0)] [])) (fun t kt => castTop (ef_17c1 m a0) kt) ?_
  obtain ⟨T1, X1, e1, st1⟩ := getF X0 hx hZ hown (host := "") (Or.inl (hw _ (List.mem_of_getElem? (i := 139) rfl))) Via.refl e0 F_candidate_a0 (g := (mkF m 1 #[.val (.ref a0)] [(.ref a0)])) rfl rfl (hb hby d17_1)
  refine own_back (b := T1.setTop (mkF m 4 #[.val (.ref a0)] [(.int (1 : Int32))])) (fun t kt => ?_) ?_
  · show Steps p.tables e below (s₁.setTop (mkF m 0 #[.val (.ref a0)] [])) _
    refine XS.aloadN X0.here hx rfl (hb hby d17_0) rfl rfl ?_
    show Steps p.tables e below (s₁.setTop (mkF m 1 #[.val (.ref a0)] [(.ref a0)])) _
    refine st1 _ ?_
    exact kt
  obtain ⟨fs, hr, hrun, hended, hW, hsame⟩ := X1.leave (v := some (.int (1 : Int32))) (fun h => by rw [Bd.returns] at h; cases h) (BodyLoose.notSynchronized Bd)
  refine ⟨_, _, ?_, hrun, hended, _, _, rfl, ?_, ⟨_, rfl⟩, hW, hsame.mono (by decide) (by decide)⟩
  · show Steps p.tables e below (T1.setTop (mkF m 4 #[.val (.ref a0)] [(.int (1 : Int32))])) _
    exact retN X1 hx (t := .boolean) Bd.returns (by simp) (hb hby d17_4) hr
  · show Q17c1 Z a0 h0 n0 _ T1.heap _
    rw [e1]
    exact ⟨rfl, N0, rfl⟩
theorem own_mint (x : Int64) : f15 x (9223372036854775807 : Int64) = x := by
  unfold f15 f16
  have h := rng64 x
  have k : (9223372036854775807 : Int64).toInt = 9223372036854775807 := rfl
  rw [if_neg]
  rw [Int64.lt_iff_toInt_lt, k]; omega
theorem own_due0 {q w i c : Int64} {n : Int32} (h : q < w) : f14 q w i c n = 0 := by unfold f14; rw [if_pos h]
theorem own_due1 {q w i c : Int64} {n : Int32} (h : ¬ (q < w)) : f14 q w i c n = 1 := by unfold f14; rw [if_neg h]
theorem pn_0 : plainName "com/example/many_to_leader/manytoleader/bully/CandidatePoolHeartbeatDuePinLaw" = true := by first | (simp [plainName, overriddenIn]; done) | decide +kernel
theorem pd_0_0 : parseMethodDescriptor "(JJ)V" = some ⟨[.long, .long], none⟩ := by decide +kernel
theorem pd_0_1 : parseMethodDescriptor "(JJ)Lcom/example/many_to_leader/manytoleader/bully/Timeouts;" = some ⟨[.long, .long], some (.object "com/example/many_to_leader/manytoleader/bully/Timeouts")⟩ := by decide +kernel
theorem pd_0_2 : parseMethodDescriptor "(II)V" = some ⟨[.int, .int], none⟩ := by decide +kernel
theorem pd_0_3 : parseMethodDescriptor "(IILcom/example/many_to_leader/manytoleader/bully/PoolSize;Lcom/example/many_to_leader/manytoleader/bully/Timeouts;)V" = some ⟨[.int, .int, (.object "com/example/many_to_leader/manytoleader/bully/PoolSize"), (.object "com/example/many_to_leader/manytoleader/bully/Timeouts")], none⟩ := by decide +kernel
theorem pd_0_4 : parseMethodDescriptor "()V" = some ⟨[], none⟩ := by decide +kernel
theorem pd_0_5 : parseMethodDescriptor "(J)Z" = some ⟨[.long], some .boolean⟩ := by decide +kernel
theorem pd_0_6 : parseMethodDescriptor "()J" = some ⟨[], some .long⟩ := by decide +kernel
theorem pd_0_7 : parseMethodDescriptor "()Z" = some ⟨[], some .boolean⟩ := by decide +kernel
theorem pd_0_8 : parseMethodDescriptor "(I)Ljava/lang/Integer;" = some ⟨[.int], some (.object "java/lang/Integer")⟩ := by decide +kernel
theorem pd_0_9 : parseMethodDescriptor "(Ljava/lang/Object;)Z" = some ⟨[(.object "java/lang/Object")], some .boolean⟩ := by decide +kernel
theorem pd_0_10 : parseMethodDescriptor "(JLjava/util/Collection;)V" = some ⟨[.long, (.object "java/util/Collection")], none⟩ := by decide +kernel
theorem ef_0 (m : MethodId) (x0 : Int32) (x1 : Int64) (x2 : Int64) (x3 : Int64) (x4 : Int64) : entryFrame m #[(.int x0), (.long x1), (.long x2), (.long x3), (.long x4)] maxLocals = mkF m 0 #[.val (.int x0), .val (.long x1), .second, .val (.long x2), .second, .val (.long x3), .second, .val (.long x4), .second, .unset, .unset, .unset, .unset, .unset, .unset, .unset, .unset, .unset, .unset, .unset, .unset, .unset, .unset, .unset, .unset, .unset, .unset, .unset] [] := by first | (simp [entryFrame, mkF, argsToLocals, Value.category, maxLocals]; done) | rfl
def m0_0 (p0 : Int32) (q1 : Int64) (q2 : Int64) (q3 : Int64) (q4 : Int64) : Int64 := ((1 : Int64) + (q2 &&& (4611686018427387903 : Int64)))
theorem own_iv (p0 : Int32) (q1 q2 q3 q4 : Int64) : ¬ m0_0 p0 q1 q2 q3 q4 < (1 : Int64) ∧ m0_0 p0 q1 q2 q3 q4 < m0_0 p0 q1 q2 q3 q4 + (1 : Int64) := by
  have h : 1 ≤ (m0_0 p0 q1 q2 q3 q4).toInt ∧ (m0_0 p0 q1 q2 q3 q4).toInt ≤ 4611686018427387904 := by
    unfold m0_0
    have hm := c_maskL q2 4611686018427387903 62 (by decide) (by decide)
    have ha := c_ladd 1 (q2 &&& 4611686018427387903)
    have hr := rng64 ((1 : Int64) + (q2 &&& 4611686018427387903))
    have k1 : (1 : Int64).toInt = 1 := rfl
    have : (2 ^ 62 : Nat) = 4611686018427387904 := by decide
    omega
  have k1 : (1 : Int64).toInt = 1 := rfl
  have ha := c_ladd (m0_0 p0 q1 q2 q3 q4) 1
  have hr := rng64 (m0_0 p0 q1 q2 q3 q4 + 1)
  rw [Int64.lt_iff_toInt_lt, Int64.lt_iff_toInt_lt, k1]
  omega
def f0 (p0 : Int32) (q1 : Int64) (q2 : Int64) (q3 : Int64) (q4 : Int64) : Int32 := (if (p0 &&& (1 : Int32)) = (0 : Int32) then (if q3 < (9223372036854775807 : Int64) then (if q4 < (9223372036854775807 : Int64) then (1 : Int32) else (1 : Int32)) else (if q4 < (q3 + (m0_0 p0 q1 q2 q3 q4)) then (1 : Int32) else (1 : Int32))) else (if q3 < (q1 + (m0_0 p0 q1 q2 q3 q4)) then (if q4 < (q1 + (m0_0 p0 q1 q2 q3 q4)) then (1 : Int32) else (1 : Int32)) else (if q4 < (q3 + (m0_0 p0 q1 q2 q3 q4)) then (1 : Int32) else (1 : Int32))))
def Q0 (Z : State) (p0 : Int32) (q1 : Int64) (q2 : Int64) (q3 : Int64) (q4 : Int64) (wd : Addr) (kd : ClassId) (wc : Addr) (h0 : Heap) (n0 : Nat) (v : Option Value) (h : Heap) (L : List Loc) : Prop := v = some (.int (f0 p0 q1 q2 q3 q4)) ∧ Fr n0 L
set_option maxRecDepth 65536 in
set_option maxHeartbeats 40000000 in
theorem rm0 (l : Launch) (Z : State) (aw : Array Value) (hw : ∀ d ∈ tables_1, d.before aw Z = true) (ws : List Jvm.Cond) (p0 : Int32) (q1 : Int64) (q2 : Int64) (q3 : Int64) (q4 : Int64) (wd : Addr) (kd : ClassId) (wc : Addr) (h0 : Heap) (n0 : Nat) (Z0 : n0 ≤ h0.size) (S_DEFAULTCAPACITY_EMPTY_ELEMENTDATA : Sta Z h0 "java/util/ArrayList" "DEFAULTCAPACITY_EMPTY_ELEMENTDATA" "[Ljava/lang/Object;" (.ref wd)) (V_wd : Arv Z h0 wd kd (.object "java/lang/Object") (0 : Int32) [] .null) (E_wd : Exa Z h0 wd "[Ljava/lang/Object;") (S_high : Sta Z h0 "java/lang/Integer$IntegerCache" "high" "I" (.int (127 : Int32))) (S_cache : Sta Z h0 "java/lang/Integer$IntegerCache" "cache" "[Ljava/lang/Integer;" (.ref wc)) (X_ic : ICache Z h0 wc) :
    MetFree l x (head1 (Jvm.Cond.code x code maxLocals ret :: ws) room_1) (fun a U => a = #[(.int p0), (.long q1), (.long q2), (.long q3), (.long q4)] ∧ Z.Warmed39 U.vm ∧ U.heap = h0) (fun _ _ _ _ _ => True) (fun _ U o U' => ∃ v L, o = .returned v ∧ Q0 Z p0 q1 q2 q3 q4 wd kd wc h0 n0 v U'.heap L ∧ FrameEnd U o U' L room_1.cells room_1.slots) := by
  refine MetFree.of_bodySF (plainFor_of_name pn_0) hisR ?_
  intro p e s m args below meth c s₁ Bd hml0 hP hK
  obtain ⟨rfl, hZ, hh⟩ := hP
  have hx := Bd.exec
  have hby := Bd.bytes
  have hml : c.maxLocals = 28 := hml0
  have hown : s.vm.findClass "com/example/many_to_leader/manytoleader/bully/CandidatePoolHeartbeatDuePinLaw" = some m.cls := findClass_of_methodNamed Bd.named
  have hnm := (name_of_methodNamed Bd.named Bd.method).1
  have X0 : Stand p l e room_1 s m #[(.int p0), (.long q1), (.long q2), (.long q3), (.long q4)] below meth c s₁ [] 0 0 := Stand.of_body Bd
  have e0 : s₁.heap = h0 := by rw [← hh, Bd.state]; rfl
  have N0 := Fr.nil n0
  refine own_back (b := s₁.setTop (mkF m 0 #[.val (.int p0), .val (.long q1), .second, .val (.long q2), .second, .val (.long q3), .second, .val (.long q4), .second, .unset, .unset, .unset, .unset, .unset, .unset, .unset, .unset, .unset, .unset, .unset, .unset, .unset, .unset, .unset, .unset, .unset, .unset, .unset] [])) (fun t kt => castTop (ef_0 m p0 q1 q2 q3 q4) kt) ?_
  refine own_back (b := s₁.setTop (mkF m 3 #[.val (.int p0), .val (.long q1), .second, .val (.long q2), .second, .val (.long q3), .second, .val (.long q4), .second, .unset, .unset, .unset, .unset, .unset, .unset, .unset, .unset, .unset, .unset, .unset, .unset, .unset, .unset, .unset, .unset, .unset, .unset, .unset] [(.int (p0 &&& (1 : Int32)))])) (fun t kt => ?_) ?_
  · show Steps p.tables e below (s₁.setTop (mkF m 0 #[.val (.int p0), .val (.long q1), .second, .val (.long q2), .second, .val (.long q3), .second, .val (.long q4), .second, .unset, .unset, .unset, .unset, .unset, .unset, .unset, .unset, .unset, .unset, .unset, .unset, .unset, .unset, .unset, .unset, .unset, .unset, .unset] [])) _
    refine XS.iloadN X0.here hx rfl (hb hby at_0) rfl ?_
    refine XS.iconst X0.here hx rfl (hb hby at_1) ?_
    refine XS.iand X0.here hx rfl (hb hby at_2) rfl ?_
    exact kt
  by_cases hc3_1 : (p0 &&& (1 : Int32)) = (0 : Int32)
  · obtain ⟨T2, h2, X2, e2, E2, A2, D2, -, st2⟩ := newO X0 hx hZ hown (hw _ (List.mem_of_getElem? (i := 1) rfl)) (hw _ (List.mem_of_getElem? (i := 2) rfl)) (hw _ (List.mem_of_getElem? (i := 3) rfl)) e0 (g := (mkF m 25 #[.val (.int p0), .val (.long q1), .second, .val (.long q2), .second, .val (.long q3), .second, .val (.long q4), .second, .val (.int (0 : Int32)), .val (.int p0), .val (.long (m0_0 p0 q1 q2 q3 q4)), .second, .unset, .unset, .unset, .unset, .unset, .unset, .unset, .unset, .unset, .unset, .unset, .unset, .unset, .unset, .unset] [])) rfl (hb hby at_25) (by decide) (by decide)
    obtain ⟨b2, g2⟩ : ∃ z, z = h0.size := ⟨_, rfl⟩
    rw [← g2] at A2 D2 st2
    have lo2 : n0 ≤ b2 := Nat.le_trans Z0 (Nat.le_of_eq g2.symm)
    have sz2 : h0.size ≤ b2 := Nat.le_trans (Nat.le_refl _) (Nat.le_of_eq g2.symm)
    have K2 : Keep h0 h2 [] := (Keep.refl h0 _).ext E2
    have Z2 : n0 ≤ h2.size := Nat.le_trans Z0 E2.1
    have F2_answerMillis : Fld Z h2 b2 "com/example/many_to_leader/manytoleader/bully/Timeouts" "answerMillis" "J" (.long (0 : Int64)) := D2 (Or.inr (hw _ (List.mem_of_getElem? (i := 14) rfl))) (ty := .long) (by decide)
    have F2_coordinatorMillis : Fld Z h2 b2 "com/example/many_to_leader/manytoleader/bully/Timeouts" "coordinatorMillis" "J" (.long (0 : Int64)) := D2 (Or.inr (hw _ (List.mem_of_getElem? (i := 16) rfl))) (ty := .long) (by decide)
    have F2_heartbeatIntervalMillis : Fld Z h2 b2 "com/example/many_to_leader/manytoleader/bully/Timeouts" "heartbeatIntervalMillis" "J" (.long (0 : Int64)) := D2 (Or.inr (hw _ (List.mem_of_getElem? (i := 18) rfl))) (ty := .long) (by decide)
    have F2_heartbeatTimeoutMillis : Fld Z h2 b2 "com/example/many_to_leader/manytoleader/bully/Timeouts" "heartbeatTimeoutMillis" "J" (.long (0 : Int64)) := D2 (Or.inr (hw _ (List.mem_of_getElem? (i := 20) rfl))) (ty := .long) (by decide)
    have F2_invitationPeriodMillis : Fld Z h2 b2 "com/example/many_to_leader/manytoleader/bully/Timeouts" "invitationPeriodMillis" "J" (.long (0 : Int64)) := D2 (Or.inr (hw _ (List.mem_of_getElem? (i := 22) rfl))) (ty := .long) (by decide)
    obtain ⟨_, _, ⟨T3, L3, k3, n3⟩, -, X3, ⟨Lc3, hQ3, l3, y3, z3⟩, st3⟩ := X2.specialBack hx (y := (⟨"com/example/many_to_leader/manytoleader/bully/Timeouts", "<init>", "(JJ)V"⟩ : MethodName)) rfl hown (mvT hZ (hw _ (List.mem_of_getElem? (i := 4) rfl))) (mvT hZ (hw _ (List.mem_of_getElem? (i := 5) rfl))) (mvT hZ (hw _ (List.mem_of_getElem? (i := 6) rfl))) (by decide) (backOf (W := 1) (rm1 l Z aw hw [] b2 (1 : Int64) (1 : Int64) h2 n0 Z2 F2_answerMillis F2_coordinatorMillis F2_heartbeatIntervalMillis F2_heartbeatTimeoutMillis F2_invitationPeriodMillis A2 lo2 (own_irrL _) (own_irrL _)) hZ (hw _ (List.mem_of_getElem? (i := 6) rfl)) (hw _ (List.mem_of_getElem? (i := 3) rfl)) (by decide) (by decide)) (g := (mkF m 31 #[.val (.int p0), .val (.long q1), .second, .val (.long q2), .second, .val (.long q3), .second, .val (.long q4), .second, .val (.int (0 : Int32)), .val (.int p0), .val (.long (m0_0 p0 q1 q2 q3 q4)), .second, .unset, .unset, .unset, .unset, .unset, .unset, .unset, .unset, .unset, .unset, .unset, .unset, .unset, .unset, .unset] [(.long (1 : Int64)), (.long (1 : Int64)), (.ref b2), (.ref b2)])) rfl (by rw [hml]; rfl) (Steps.refl _) (a := b2) (argsL := [(.long (1 : Int64)), (.long (1 : Int64))]) (rest := [(.ref b2)]) (lenOf pd_0_0 rfl) rfl (by show 2 * 0 + _ ≤ _; exact Nat.le_of_eq rfl) (hb hby at_31) (fun _ _ => ⟨rfl, e2, (by decide : 1 + 0 ≤ _), (by decide : 5 + 0 ≤ _)⟩)
    dsimp only [Pt.U, Pt.locs, Pt.cells, Pt.slots] at X3 l3 y3 z3 st3 hQ3
    rw [l3, y3, z3] at X3
    obtain ⟨rfl, Nq3, Kq3, P3_0, P3_1, P3_2, P3_3, P3_4, P3_5⟩ := hQ3
    have N3 := Fr.app N0 Nq3
    have K3 : Keep h0 T3.heap [] := K2.trans Kq3 (allS (Or.inr sz2) all0)
    have Z3 : n0 ≤ T3.heap.size := Nat.le_trans Z2 Kq3.1
    obtain ⟨cq4, kq4, q4a, q4b, q4c⟩ := isOf hZ rfl P3_0
    obtain ⟨_, _, ⟨T4, L4, k4, n4⟩, -, X4, ⟨Lc4, hQ4, l4, y4, z4⟩, st4⟩ := X3.virtualBack hx (y := (⟨"com/example/many_to_leader/manytoleader/bully/Timeouts", "withHeartbeats", "(JJ)Lcom/example/many_to_leader/manytoleader/bully/Timeouts;"⟩ : MethodName)) (z := (⟨"com/example/many_to_leader/manytoleader/bully/Timeouts", "withHeartbeats", "(JJ)Lcom/example/many_to_leader/manytoleader/bully/Timeouts;"⟩ : MethodName)) hown (mvT hZ (hw _ (List.mem_of_getElem? (i := 23) rfl))) (mvT hZ (hw _ (List.mem_of_getElem? (i := 24) rfl))) (notFace_of_selects (args := #[]) (mvT hZ (hw _ (List.mem_of_getElem? (i := 26) rfl)))) (mvT hZ (hw _ (List.mem_of_getElem? (i := 26) rfl))) (mvT hZ (hw _ (List.mem_of_getElem? (i := 25) rfl))) (by decide) (backOf (W := 0) (rm4 l Z aw hw [] b2 (m0_0 p0 q1 q2 q3 q4) ((m0_0 p0 q1 q2 q3 q4) + (1 : Int64)) (1 : Int64) (1 : Int64) (0 : Int64) T3.heap n0 Z3 P3_1 P3_2 P3_5 (own_iv p0 q1 q2 q3 q4).1 (own_iv p0 q1 q2 q3 q4).2) hZ (hw _ (List.mem_of_getElem? (i := 27) rfl)) (hw _ (List.mem_of_getElem? (i := 3) rfl)) (by decide) (by decide)) q4a q4c (g := (mkF m 40 #[.val (.int p0), .val (.long q1), .second, .val (.long q2), .second, .val (.long q3), .second, .val (.long q4), .second, .val (.int (0 : Int32)), .val (.int p0), .val (.long (m0_0 p0 q1 q2 q3 q4)), .second, .unset, .unset, .unset, .unset, .unset, .unset, .unset, .unset, .unset, .unset, .unset, .unset, .unset, .unset, .unset] [(.long ((m0_0 p0 q1 q2 q3 q4) + (1 : Int64))), (.long (m0_0 p0 q1 q2 q3 q4)), (.ref b2)])) rfl (by rw [hml]; rfl) (Steps.refl _) (argsL := [(.long (m0_0 p0 q1 q2 q3 q4)), (.long ((m0_0 p0 q1 q2 q3 q4) + (1 : Int64)))]) (rest := []) (lenOf pd_0_1 rfl) rfl (by show 2 * 0 + _ ≤ _; exact Nat.le_of_eq rfl) (hb hby at_40) (fun _ _ => ⟨rfl, rfl, (by decide : 1 + 1 ≤ _), (by decide : 5 + 5 ≤ _)⟩)
    dsimp only [Pt.U, Pt.locs, Pt.cells, Pt.slots] at X4 l4 y4 z4 st4 hQ4
    rw [l4, y4, z4] at X4
    obtain ⟨b4, hQ4⟩ := hQ4
    obtain ⟨rfl, Nq4, Kq4, P4_0, P4_1, P4_2, P4_3, P4_4⟩ := hQ4
    have N4 := Fr.app N3 Nq4
    have ne4_b2 : b2 ≠ b4 := Nat.ne_of_lt (Nat.lt_of_lt_of_le P3_0.lt P4_1)
    have sz4 : h0.size ≤ b4 := Nat.le_trans K3.1 P4_1
    have f4_0 := P3_0.keep Kq4
    have f4_1 := P3_1.keep Kq4 nin0
    have f4_2 := P3_2.keep Kq4 nin0
    have f4_3 := P3_3.keep Kq4 nin0
    have f4_4 := P3_4.keep Kq4 nin0
    have f4_5 := P3_5.keep Kq4 nin0
    have K4 : Keep h0 T4.heap [] := K3.trans Kq4 all0
    have Z4 : n0 ≤ T4.heap.size := Nat.le_trans Z3 Kq4.1
    obtain ⟨T5, h5, X5, e5, E5, A5, D5, -, st5⟩ := newO X4 hx hZ hown (hw _ (List.mem_of_getElem? (i := 29) rfl)) (hw _ (List.mem_of_getElem? (i := 30) rfl)) (hw _ (List.mem_of_getElem? (i := 31) rfl)) rfl (g := (mkF m 45 #[.val (.int p0), .val (.long q1), .second, .val (.long q2), .second, .val (.long q3), .second, .val (.long q4), .second, .val (.int (0 : Int32)), .val (.int p0), .val (.long (m0_0 p0 q1 q2 q3 q4)), .second, .val (.ref b4), .unset, .unset, .unset, .unset, .unset, .unset, .unset, .unset, .unset, .unset, .unset, .unset, .unset, .unset] [])) rfl (hb hby at_45) (by decide) (by decide)
    obtain ⟨b5, g5⟩ : ∃ z, z = T4.heap.size := ⟨_, rfl⟩
    rw [← g5] at A5 D5 st5
    have ne5_b2 : b2 ≠ b5 := Nat.ne_of_lt (Nat.lt_of_lt_of_le f4_0.lt (Nat.le_of_eq g5.symm))
    have ne5_b4 : b4 ≠ b5 := Nat.ne_of_lt (Nat.lt_of_lt_of_le P4_2.lt (Nat.le_of_eq g5.symm))
    have lo5 : n0 ≤ b5 := Nat.le_trans Z4 (Nat.le_of_eq g5.symm)
    have sz5 : h0.size ≤ b5 := Nat.le_trans K4.1 (Nat.le_of_eq g5.symm)
    have f5_0 := f4_0.ext E5
    have f5_1 := f4_1.ext E5
    have f5_2 := f4_2.ext E5
    have f5_3 := f4_3.ext E5
    have f5_4 := f4_4.ext E5
    have f5_5 := f4_5.ext E5
    have f5_6 := P4_2.ext E5
    have f5_7 := P4_3.ext E5
    have f5_8 := P4_4.ext E5
    have K5 := K4.ext E5
    have Z5 : n0 ≤ h5.size := Nat.le_trans Z4 E5.1
    have F5_known : Fld Z h5 b5 "com/example/many_to_leader/manytoleader/bully/CandidatePool" "known" "Ljava/util/TreeMap;" .null := D5 (Or.inr (hw _ (List.mem_of_getElem? (i := 67) rfl))) (ty := (.object "java/util/TreeMap")) (by decide)
    have F5_heartbeatDeadline : Fld Z h5 b5 "com/example/many_to_leader/manytoleader/bully/CandidatePool" "heartbeatDeadline" "J" (.long (0 : Int64)) := D5 (Or.inl (hw _ (List.mem_of_getElem? (i := 70) rfl))) (ty := .long) (by decide)
    have F5_outOfBoundsSince : Fld Z h5 b5 "com/example/many_to_leader/manytoleader/bully/CandidatePool" "outOfBoundsSince" "J" (.long (0 : Int64)) := D5 (Or.inl (hw _ (List.mem_of_getElem? (i := 72) rfl))) (ty := .long) (by decide)
    have F5_checkDeadline : Fld Z h5 b5 "com/example/many_to_leader/manytoleader/bully/CandidatePool" "checkDeadline" "J" (.long (0 : Int64)) := D5 (Or.inl (hw _ (List.mem_of_getElem? (i := 74) rfl))) (ty := .long) (by decide)
    have F5_id : Fld Z h5 b5 "com/example/many_to_leader/manytoleader/bully/CandidatePool" "id" "I" (.int (0 : Int32)) := D5 (Or.inr (hw _ (List.mem_of_getElem? (i := 76) rfl))) (ty := .int) (by decide)
    have F5_membersAbove : Fld Z h5 b5 "com/example/many_to_leader/manytoleader/bully/CandidatePool" "membersAbove" "I" (.int (0 : Int32)) := D5 (Or.inr (hw _ (List.mem_of_getElem? (i := 78) rfl))) (ty := .int) (by decide)
    have F5_size : Fld Z h5 b5 "com/example/many_to_leader/manytoleader/bully/CandidatePool" "size" "Lcom/example/many_to_leader/manytoleader/bully/PoolSize;" .null := D5 (Or.inr (hw _ (List.mem_of_getElem? (i := 80) rfl))) (ty := (.object "com/example/many_to_leader/manytoleader/bully/PoolSize")) (by decide)
    have F5_intervalMillis : Fld Z h5 b5 "com/example/many_to_leader/manytoleader/bully/CandidatePool" "intervalMillis" "J" (.long (0 : Int64)) := D5 (Or.inr (hw _ (List.mem_of_getElem? (i := 87) rfl))) (ty := .long) (by decide)
    have F5_timeoutMillis : Fld Z h5 b5 "com/example/many_to_leader/manytoleader/bully/CandidatePool" "timeoutMillis" "J" (.long (0 : Int64)) := D5 (Or.inr (hw _ (List.mem_of_getElem? (i := 94) rfl))) (ty := .long) (by decide)
    have F5_candidate : Fld Z h5 b5 "com/example/many_to_leader/manytoleader/bully/CandidatePool" "candidate" "Z" (.int (0 : Int32)) := D5 (Or.inl (hw _ (List.mem_of_getElem? (i := 140) rfl))) (ty := .boolean) (by decide)
    obtain ⟨T6, h6, X6, e6, E6, A6, D6, -, st6⟩ := newO X5 hx hZ hown (hw _ (List.mem_of_getElem? (i := 32) rfl)) (hw _ (List.mem_of_getElem? (i := 33) rfl)) (hw _ (List.mem_of_getElem? (i := 34) rfl)) e5 (g := (mkF m 52 #[.val (.int p0), .val (.long q1), .second, .val (.long q2), .second, .val (.long q3), .second, .val (.long q4), .second, .val (.int (0 : Int32)), .val (.int p0), .val (.long (m0_0 p0 q1 q2 q3 q4)), .second, .val (.ref b4), .unset, .unset, .unset, .unset, .unset, .unset, .unset, .unset, .unset, .unset, .unset, .unset, .unset, .unset] [(.int (0 : Int32)), (.int p0), (.ref b5), (.ref b5)])) rfl (hb hby at_52) (by decide) (by decide)
    obtain ⟨b6, g6⟩ : ∃ z, z = h5.size := ⟨_, rfl⟩
    rw [← g6] at A6 D6 st6
    have ne6_b2 : b2 ≠ b6 := Nat.ne_of_lt (Nat.lt_of_lt_of_le f5_0.lt (Nat.le_of_eq g6.symm))
    have ne6_b4 : b4 ≠ b6 := Nat.ne_of_lt (Nat.lt_of_lt_of_le f5_6.lt (Nat.le_of_eq g6.symm))
    have ne6_b5 : b5 ≠ b6 := Nat.ne_of_lt (Nat.lt_of_lt_of_le A5.lt (Nat.le_of_eq g6.symm))
    have lo6 : n0 ≤ b6 := Nat.le_trans Z5 (Nat.le_of_eq g6.symm)
    have sz6 : h0.size ≤ b6 := Nat.le_trans K5.1 (Nat.le_of_eq g6.symm)
    have f6_0 := f5_0.ext E6
    have f6_1 := f5_1.ext E6
    have f6_2 := f5_2.ext E6
    have f6_3 := f5_3.ext E6
    have f6_4 := f5_4.ext E6
    have f6_5 := f5_5.ext E6
    have f6_6 := f5_6.ext E6
    have f6_7 := f5_7.ext E6
    have f6_8 := f5_8.ext E6
    have f6_9 := A5.ext E6
    have f6_10 := F5_known.ext E6
    have f6_11 := F5_heartbeatDeadline.ext E6
    have f6_12 := F5_outOfBoundsSince.ext E6
    have f6_13 := F5_checkDeadline.ext E6
    have f6_14 := F5_id.ext E6
    have f6_15 := F5_membersAbove.ext E6
    have f6_16 := F5_size.ext E6
    have f6_17 := F5_intervalMillis.ext E6
    have f6_18 := F5_timeoutMillis.ext E6
    have f6_19 := F5_candidate.ext E6
    have K6 := K5.ext E6
    have Z6 : n0 ≤ h6.size := Nat.le_trans Z5 E6.1
    have F6_min : Fld Z h6 b6 "com/example/many_to_leader/manytoleader/bully/PoolSize" "min" "I" (.int (0 : Int32)) := D6 (Or.inr (hw _ (List.mem_of_getElem? (i := 40) rfl))) (ty := .int) (by decide)
    have F6_max : Fld Z h6 b6 "com/example/many_to_leader/manytoleader/bully/PoolSize" "max" "I" (.int (0 : Int32)) := D6 (Or.inr (hw _ (List.mem_of_getElem? (i := 42) rfl))) (ty := .int) (by decide)
    obtain ⟨_, _, ⟨T7, L7, k7, n7⟩, -, X7, ⟨Lc7, hQ7, l7, y7, z7⟩, st7⟩ := X6.specialBack hx (y := (⟨"com/example/many_to_leader/manytoleader/bully/PoolSize", "<init>", "(II)V"⟩ : MethodName)) rfl hown (mvT hZ (hw _ (List.mem_of_getElem? (i := 35) rfl))) (mvT hZ (hw _ (List.mem_of_getElem? (i := 36) rfl))) (mvT hZ (hw _ (List.mem_of_getElem? (i := 37) rfl))) (by decide) (backOf (W := 5) (rm5 l Z aw hw [] b6 (1 : Int32) (1 : Int32) h6 n0 Z6 F6_min F6_max A6 lo6 (own_irr _) (own_irr _)) hZ (hw _ (List.mem_of_getElem? (i := 37) rfl)) (hw _ (List.mem_of_getElem? (i := 34) rfl)) (by decide) (by decide)) (g := (mkF m 58 #[.val (.int p0), .val (.long q1), .second, .val (.long q2), .second, .val (.long q3), .second, .val (.long q4), .second, .val (.int (0 : Int32)), .val (.int p0), .val (.long (m0_0 p0 q1 q2 q3 q4)), .second, .val (.ref b4), .unset, .unset, .unset, .unset, .unset, .unset, .unset, .unset, .unset, .unset, .unset, .unset, .unset, .unset] [(.int (1 : Int32)), (.int (1 : Int32)), (.ref b6), (.ref b6), (.int (0 : Int32)), (.int p0), (.ref b5), (.ref b5)])) rfl (by rw [hml]; rfl) (Steps.refl _) (a := b6) (argsL := [(.int (1 : Int32)), (.int (1 : Int32))]) (rest := [(.ref b6), (.int (0 : Int32)), (.int p0), (.ref b5), (.ref b5)]) (lenOf pd_0_2 rfl) rfl (by show 2 * 0 + _ ≤ _; exact Nat.le_of_eq rfl) (hb hby at_58) (fun _ _ => ⟨rfl, e6, (by decide : 4 + 0 ≤ _), (by decide : 23 + 0 ≤ _)⟩)
    dsimp only [Pt.U, Pt.locs, Pt.cells, Pt.slots] at X7 l7 y7 z7 st7 hQ7
    rw [l7, y7, z7] at X7
    obtain ⟨rfl, Nq7, Kq7, P7_0⟩ := hQ7
    have N7 := Fr.app N4 Nq7
    have f7_0 := f6_0.keep Kq7
    have f7_1 := f6_1.keep Kq7 (ninS ne6_b2 nin0)
    have f7_2 := f6_2.keep Kq7 (ninS ne6_b2 nin0)
    have f7_3 := f6_3.keep Kq7 (ninS ne6_b2 nin0)
    have f7_4 := f6_4.keep Kq7 (ninS ne6_b2 nin0)
    have f7_5 := f6_5.keep Kq7 (ninS ne6_b2 nin0)
    have f7_6 := f6_6.keep Kq7
    have f7_7 := f6_7.keep Kq7 (ninS ne6_b4 nin0)
    have f7_8 := f6_8.keep Kq7 (ninS ne6_b4 nin0)
    have f7_9 := f6_9.keep Kq7
    have f7_10 := f6_10.keep Kq7 (ninS ne6_b5 nin0)
    have f7_11 := f6_11.keep Kq7 (ninS ne6_b5 nin0)
    have f7_12 := f6_12.keep Kq7 (ninS ne6_b5 nin0)
    have f7_13 := f6_13.keep Kq7 (ninS ne6_b5 nin0)
    have f7_14 := f6_14.keep Kq7 (ninS ne6_b5 nin0)
    have f7_15 := f6_15.keep Kq7 (ninS ne6_b5 nin0)
    have f7_16 := f6_16.keep Kq7 (ninS ne6_b5 nin0)
    have f7_17 := f6_17.keep Kq7 (ninS ne6_b5 nin0)
    have f7_18 := f6_18.keep Kq7 (ninS ne6_b5 nin0)
    have f7_19 := f6_19.keep Kq7 (ninS ne6_b5 nin0)
    have K7 : Keep h0 T7.heap [] := K6.trans Kq7 (allS (Or.inr sz6) all0)
    have Z7 : n0 ≤ T7.heap.size := Nat.le_trans Z6 Kq7.1
    obtain ⟨_, _, ⟨T8, L8, k8, n8⟩, -, X8, ⟨Lc8, hQ8, l8, y8, z8⟩, st8⟩ := X7.specialBack hx (y := (⟨"com/example/many_to_leader/manytoleader/bully/CandidatePool", "<init>", "(IILcom/example/many_to_leader/manytoleader/bully/PoolSize;Lcom/example/many_to_leader/manytoleader/bully/Timeouts;)V"⟩ : MethodName)) rfl hown (mvT hZ (hw _ (List.mem_of_getElem? (i := 43) rfl))) (mvT hZ (hw _ (List.mem_of_getElem? (i := 44) rfl))) (mvT hZ (hw _ (List.mem_of_getElem? (i := 45) rfl))) (by decide) (backOf (W := 1) (rm6 l Z aw hw [] b5 p0 (0 : Int32) b6 b4 (m0_0 p0 q1 q2 q3 q4) ((m0_0 p0 q1 q2 q3 q4) + (1 : Int64)) T7.heap n0 Z7 f7_10 f7_11 f7_12 f7_13 f7_14 f7_15 f7_16 f7_17 f7_18 f7_19 f7_9 lo5 f7_6 f7_7 f7_8) hZ (hw _ (List.mem_of_getElem? (i := 45) rfl)) (hw _ (List.mem_of_getElem? (i := 31) rfl)) (by decide) (by decide)) (g := (mkF m 63 #[.val (.int p0), .val (.long q1), .second, .val (.long q2), .second, .val (.long q3), .second, .val (.long q4), .second, .val (.int (0 : Int32)), .val (.int p0), .val (.long (m0_0 p0 q1 q2 q3 q4)), .second, .val (.ref b4), .unset, .unset, .unset, .unset, .unset, .unset, .unset, .unset, .unset, .unset, .unset, .unset, .unset, .unset] [(.ref b4), (.ref b6), (.int (0 : Int32)), (.int p0), (.ref b5), (.ref b5)])) rfl (by rw [hml]; rfl) (Steps.refl _) (a := b5) (argsL := [(.int p0), (.int (0 : Int32)), (.ref b6), (.ref b4)]) (rest := [(.ref b5)]) (lenOf pd_0_3 rfl) rfl (by show 2 * 0 + _ ≤ _; exact Nat.le_of_eq rfl) (hb hby at_63) (fun _ _ => ⟨rfl, rfl, (by decide : 4 + 1 ≤ _), (by decide : 23 + 9 ≤ _)⟩)
    dsimp only [Pt.U, Pt.locs, Pt.cells, Pt.slots] at X8 l8 y8 z8 st8 hQ8
    rw [l8, y8, z8] at X8
    obtain ⟨rfl, Nq8, Kq8, P8_0, P8_1, P8_2, P8_3, P8_4, P8_5⟩ := hQ8
    have N8 := Fr.app N7 Nq8
    have f8_0 := f7_0.keep Kq8
    have f8_1 := f7_1.keep Kq8 (ninS ne5_b2 nin0)
    have f8_2 := f7_2.keep Kq8 (ninS ne5_b2 nin0)
    have f8_3 := f7_3.keep Kq8 (ninS ne5_b2 nin0)
    have f8_4 := f7_4.keep Kq8 (ninS ne5_b2 nin0)
    have f8_5 := f7_5.keep Kq8 (ninS ne5_b2 nin0)
    have f8_6 := f7_6.keep Kq8
    have f8_7 := f7_7.keep Kq8 (ninS ne5_b4 nin0)
    have f8_8 := f7_8.keep Kq8 (ninS ne5_b4 nin0)
    have f8_9 := P7_0.keep Kq8
    have K8 : Keep h0 T8.heap [] := K7.trans Kq8 (allS (Or.inr sz5) all0)
    have Z8 : n0 ≤ T8.heap.size := Nat.le_trans Z7 Kq8.1
    obtain ⟨T9, h9, X9, e9, E9, A9, D9, -, st9⟩ := newO X8 hx hZ hown (hw _ (List.mem_of_getElem? (i := 95) rfl)) (hw _ (List.mem_of_getElem? (i := 96) rfl)) (hw _ (List.mem_of_getElem? (i := 97) rfl)) rfl (g := (mkF m 68 #[.val (.int p0), .val (.long q1), .second, .val (.long q2), .second, .val (.long q3), .second, .val (.long q4), .second, .val (.int (0 : Int32)), .val (.int p0), .val (.long (m0_0 p0 q1 q2 q3 q4)), .second, .val (.ref b4), .val (.ref b5), .unset, .unset, .unset, .unset, .unset, .unset, .unset, .unset, .unset, .unset, .unset, .unset, .unset] [])) rfl (hb hby at_68) (by decide) (by decide)
    obtain ⟨b9, g9⟩ : ∃ z, z = T8.heap.size := ⟨_, rfl⟩
    rw [← g9] at A9 D9 st9
    have ne9_b2 : b2 ≠ b9 := Nat.ne_of_lt (Nat.lt_of_lt_of_le f8_0.lt (Nat.le_of_eq g9.symm))
    have ne9_b4 : b4 ≠ b9 := Nat.ne_of_lt (Nat.lt_of_lt_of_le f8_6.lt (Nat.le_of_eq g9.symm))
    have ne9_b6 : b6 ≠ b9 := Nat.ne_of_lt (Nat.lt_of_lt_of_le f8_9.lt (Nat.le_of_eq g9.symm))
    have ne9_b5 : b5 ≠ b9 := Nat.ne_of_lt (Nat.lt_of_lt_of_le P8_0.lt (Nat.le_of_eq g9.symm))
    have lo9 : n0 ≤ b9 := Nat.le_trans Z8 (Nat.le_of_eq g9.symm)
    have sz9 : h0.size ≤ b9 := Nat.le_trans K8.1 (Nat.le_of_eq g9.symm)
    have f9_0 := f8_0.ext E9
    have f9_1 := f8_1.ext E9
    have f9_2 := f8_2.ext E9
    have f9_3 := f8_3.ext E9
    have f9_4 := f8_4.ext E9
    have f9_5 := f8_5.ext E9
    have f9_6 := f8_6.ext E9
    have f9_7 := f8_7.ext E9
    have f9_8 := f8_8.ext E9
    have f9_9 := f8_9.ext E9
    have f9_10 := P8_0.ext E9
    have f9_11 := P8_1.ext E9
    have f9_12 := P8_2.ext E9
    have f9_13 := P8_3.ext E9
    have f9_14 := P8_4.ext E9
    have f9_15 := P8_5.ext E9
    have K9 := K8.ext E9
    have Z9 : n0 ≤ h9.size := Nat.le_trans Z8 E9.1
    have F9_modCount : Fld Z h9 b9 "java/util/AbstractList" "modCount" "I" (.int (0 : Int32)) := D9 (Or.inl (hw _ (List.mem_of_getElem? (i := 115) rfl))) (ty := .int) (by decide)
    have F9_elementData : Fld Z h9 b9 "java/util/ArrayList" "elementData" "[Ljava/lang/Object;" .null := D9 (Or.inl (hw _ (List.mem_of_getElem? (i := 118) rfl))) (ty := (.array (.object "java/lang/Object"))) (by decide)
    have F9_size : Fld Z h9 b9 "java/util/ArrayList" "size" "I" (.int (0 : Int32)) := D9 (Or.inl (hw _ (List.mem_of_getElem? (i := 156) rfl))) (ty := .int) (by decide)
    obtain ⟨_, _, ⟨T10, L10, k10, n10⟩, -, X10, ⟨Lc10, hQ10, l10, y10, z10⟩, st10⟩ := X9.specialBack hx (y := (⟨"java/util/ArrayList", "<init>", "()V"⟩ : MethodName)) rfl hown (mvT hZ (hw _ (List.mem_of_getElem? (i := 98) rfl))) (mvT hZ (hw _ (List.mem_of_getElem? (i := 99) rfl))) (mvT hZ (hw _ (List.mem_of_getElem? (i := 100) rfl))) (by decide) (backOf (W := 1) (rm11 l Z aw hw [] b9 wd h9 n0 Z9 F9_modCount F9_size F9_elementData A9 lo9 (own_sta_keep S_DEFAULTCAPACITY_EMPTY_ELEMENTDATA K9)) hZ (hw _ (List.mem_of_getElem? (i := 100) rfl)) (hw _ (List.mem_of_getElem? (i := 97) rfl)) (by decide) (by decide)) (g := (mkF m 72 #[.val (.int p0), .val (.long q1), .second, .val (.long q2), .second, .val (.long q3), .second, .val (.long q4), .second, .val (.int (0 : Int32)), .val (.int p0), .val (.long (m0_0 p0 q1 q2 q3 q4)), .second, .val (.ref b4), .val (.ref b5), .unset, .unset, .unset, .unset, .unset, .unset, .unset, .unset, .unset, .unset, .unset, .unset, .unset] [(.ref b9), (.ref b9)])) rfl (by rw [hml]; rfl) (Steps.refl _) (a := b9) (argsL := []) (rest := [(.ref b9)]) (lenOf pd_0_4 rfl) rfl (by show 2 * 0 + _ ≤ _; exact Nat.le_of_eq rfl) (hb hby at_72) (fun _ _ => ⟨rfl, e9, (by decide : 6 + 0 ≤ _), (by decide : 35 + 0 ≤ _)⟩)
    dsimp only [Pt.U, Pt.locs, Pt.cells, Pt.slots] at X10 l10 y10 z10 st10 hQ10
    rw [l10, y10, z10] at X10
    obtain ⟨rfl, Nq10, Kq10, P10_0, P10_1, P10_2, P10_3⟩ := hQ10
    have N10 := Fr.app N8 Nq10
    have f10_0 := f9_0.keep Kq10
    have f10_1 := f9_1.keep Kq10 (ninS ne9_b2 nin0)
    have f10_2 := f9_2.keep Kq10 (ninS ne9_b2 nin0)
    have f10_3 := f9_3.keep Kq10 (ninS ne9_b2 nin0)
    have f10_4 := f9_4.keep Kq10 (ninS ne9_b2 nin0)
    have f10_5 := f9_5.keep Kq10 (ninS ne9_b2 nin0)
    have f10_6 := f9_6.keep Kq10
    have f10_7 := f9_7.keep Kq10 (ninS ne9_b4 nin0)
    have f10_8 := f9_8.keep Kq10 (ninS ne9_b4 nin0)
    have f10_9 := f9_9.keep Kq10
    have f10_10 := f9_10.keep Kq10
    have f10_11 := f9_11.keep Kq10 (ninS ne9_b5 nin0)
    have f10_12 := f9_12.keep Kq10 (ninS ne9_b5 nin0)
    have f10_13 := f9_13.keep Kq10 (ninS ne9_b5 nin0)
    have f10_14 := f9_14.keep Kq10 (ninS ne9_b5 nin0)
    have f10_15 := f9_15.keep Kq10 (ninS ne9_b5 nin0)
    have K10 : Keep h0 T10.heap [] := K9.trans Kq10 (allS (Or.inr sz9) all0)
    have Z10 : n0 ≤ T10.heap.size := Nat.le_trans Z9 Kq10.1
    refine own_back (b := T10.setTop (mkF m 123 #[.val (.int p0), .val (.long q1), .second, .val (.long q2), .second, .val (.long q3), .second, .val (.long q4), .second, .val (.int (0 : Int32)), .val (.int p0), .val (.long (m0_0 p0 q1 q2 q3 q4)), .second, .val (.ref b4), .val (.ref b5), .val (.ref b9), .val (.long (9223372036854775807 : Int64)), .second, .unset, .unset, .unset, .unset, .unset, .unset, .unset, .unset, .unset, .unset] [(.int (lcmpW q3 (9223372036854775807 : Int64)))])) (fun t kt => ?_) ?_
    · show Steps p.tables e below (s₁.setTop (mkF m 3 #[.val (.int p0), .val (.long q1), .second, .val (.long q2), .second, .val (.long q3), .second, .val (.long q4), .second, .unset, .unset, .unset, .unset, .unset, .unset, .unset, .unset, .unset, .unset, .unset, .unset, .unset, .unset, .unset, .unset, .unset, .unset, .unset] [(.int (p0 &&& (1 : Int32)))])) _
      refine XS.ifYes X0.here hx rfl (pc0 := 3) (pc' := 10) rfl (hb hby at_3) rfl ((if0 _ _).trans (teq hc3_1).1) (by decide) (by decide) ?_
      refine XS.iconst X0.here hx rfl (hb hby at_10) ?_
      refine XS.istore X0.here hx rfl (hb hby at_11) rfl (l' := #[.val (.int p0), .val (.long q1), .second, .val (.long q2), .second, .val (.long q3), .second, .val (.long q4), .second, .val (.int (0 : Int32)), .unset, .unset, .unset, .unset, .unset, .unset, .unset, .unset, .unset, .unset, .unset, .unset, .unset, .unset, .unset, .unset, .unset, .unset]) rfl ?_
      refine XS.iloadN X0.here hx rfl (hb hby at_13) rfl ?_
      refine XS.istore X0.here hx rfl (hb hby at_14) rfl (l' := #[.val (.int p0), .val (.long q1), .second, .val (.long q2), .second, .val (.long q3), .second, .val (.long q4), .second, .val (.int (0 : Int32)), .val (.int p0), .unset, .unset, .unset, .unset, .unset, .unset, .unset, .unset, .unset, .unset, .unset, .unset, .unset, .unset, .unset, .unset, .unset]) rfl ?_
      refine XS.lconst X0.here hx rfl (hb hby at_16) ?_
      refine XS.lloadN X0.here hx rfl (hb hby at_17) rfl ?_
      show Steps p.tables e below (s₁.setTop (mkF m 18 #[.val (.int p0), .val (.long q1), .second, .val (.long q2), .second, .val (.long q3), .second, .val (.long q4), .second, .val (.int (0 : Int32)), .val (.int p0), .unset, .unset, .unset, .unset, .unset, .unset, .unset, .unset, .unset, .unset, .unset, .unset, .unset, .unset, .unset, .unset, .unset] [(.long q2), (.long (1 : Int64))])) _
      refine X0.ldc2Long hx hown (mvT hZ (hw _ (List.mem_of_getElem? (i := 0) rfl))) (g := (mkF m 18 #[.val (.int p0), .val (.long q1), .second, .val (.long q2), .second, .val (.long q3), .second, .val (.long q4), .second, .val (.int (0 : Int32)), .val (.int p0), .unset, .unset, .unset, .unset, .unset, .unset, .unset, .unset, .unset, .unset, .unset, .unset, .unset, .unset, .unset, .unset, .unset] [(.long q2), (.long (1 : Int64))])) rfl (hb hby at_18) _ ?_
      refine XS.land X0.here hx rfl (hb hby at_21) rfl ?_
      refine XS.ladd X0.here hx rfl (hb hby at_22) rfl ?_
      refine XS.lstore X0.here hx rfl (hb hby at_23) rfl (l' := #[.val (.int p0), .val (.long q1), .second, .val (.long q2), .second, .val (.long q3), .second, .val (.long q4), .second, .val (.int (0 : Int32)), .val (.int p0), .val (.long (m0_0 p0 q1 q2 q3 q4)), .second, .unset, .unset, .unset, .unset, .unset, .unset, .unset, .unset, .unset, .unset, .unset, .unset, .unset, .unset, .unset]) rfl ?_
      show Steps p.tables e below (s₁.setTop (mkF m 25 #[.val (.int p0), .val (.long q1), .second, .val (.long q2), .second, .val (.long q3), .second, .val (.long q4), .second, .val (.int (0 : Int32)), .val (.int p0), .val (.long (m0_0 p0 q1 q2 q3 q4)), .second, .unset, .unset, .unset, .unset, .unset, .unset, .unset, .unset, .unset, .unset, .unset, .unset, .unset, .unset, .unset] [])) _
      refine st2 _ ?_
      refine XS.dup X2.here hx rfl (hb hby at_28) rfl rfl ?_
      refine XS.lconst X2.here hx rfl (hb hby at_29) ?_
      refine XS.lconst X2.here hx rfl (hb hby at_30) ?_
      show Steps p.tables e below (T2.setTop (mkF m 31 #[.val (.int p0), .val (.long q1), .second, .val (.long q2), .second, .val (.long q3), .second, .val (.long q4), .second, .val (.int (0 : Int32)), .val (.int p0), .val (.long (m0_0 p0 q1 q2 q3 q4)), .second, .unset, .unset, .unset, .unset, .unset, .unset, .unset, .unset, .unset, .unset, .unset, .unset, .unset, .unset, .unset] [(.long (1 : Int64)), (.long (1 : Int64)), (.ref b2), (.ref b2)])) _
      refine st3.trans ?_
      refine XS.lload X3.here hx rfl (hb hby at_34) rfl ?_
      refine XS.lload X3.here hx rfl (hb hby at_36) rfl ?_
      refine XS.lconst X3.here hx rfl (hb hby at_38) ?_
      refine XS.ladd X3.here hx rfl (hb hby at_39) rfl ?_
      show Steps p.tables e below (T3.setTop (mkF m 40 #[.val (.int p0), .val (.long q1), .second, .val (.long q2), .second, .val (.long q3), .second, .val (.long q4), .second, .val (.int (0 : Int32)), .val (.int p0), .val (.long (m0_0 p0 q1 q2 q3 q4)), .second, .unset, .unset, .unset, .unset, .unset, .unset, .unset, .unset, .unset, .unset, .unset, .unset, .unset, .unset, .unset] [(.long ((m0_0 p0 q1 q2 q3 q4) + (1 : Int64))), (.long (m0_0 p0 q1 q2 q3 q4)), (.ref b2)])) _
      refine st4.trans ?_
      refine XS.astore X4.here hx rfl (hb hby at_43) rfl rfl (l' := #[.val (.int p0), .val (.long q1), .second, .val (.long q2), .second, .val (.long q3), .second, .val (.long q4), .second, .val (.int (0 : Int32)), .val (.int p0), .val (.long (m0_0 p0 q1 q2 q3 q4)), .second, .val (.ref b4), .unset, .unset, .unset, .unset, .unset, .unset, .unset, .unset, .unset, .unset, .unset, .unset, .unset, .unset]) rfl ?_
      show Steps p.tables e below (T4.setTop (mkF m 45 #[.val (.int p0), .val (.long q1), .second, .val (.long q2), .second, .val (.long q3), .second, .val (.long q4), .second, .val (.int (0 : Int32)), .val (.int p0), .val (.long (m0_0 p0 q1 q2 q3 q4)), .second, .val (.ref b4), .unset, .unset, .unset, .unset, .unset, .unset, .unset, .unset, .unset, .unset, .unset, .unset, .unset, .unset] [])) _
      refine st5 _ ?_
      refine XS.dup X5.here hx rfl (hb hby at_48) rfl rfl ?_
      refine XS.iload X5.here hx rfl (hb hby at_49) rfl ?_
      refine XS.iconst X5.here hx rfl (hb hby at_51) ?_
      show Steps p.tables e below (T5.setTop (mkF m 52 #[.val (.int p0), .val (.long q1), .second, .val (.long q2), .second, .val (.long q3), .second, .val (.long q4), .second, .val (.int (0 : Int32)), .val (.int p0), .val (.long (m0_0 p0 q1 q2 q3 q4)), .second, .val (.ref b4), .unset, .unset, .unset, .unset, .unset, .unset, .unset, .unset, .unset, .unset, .unset, .unset, .unset, .unset] [(.int (0 : Int32)), (.int p0), (.ref b5), (.ref b5)])) _
      refine st6 _ ?_
      refine XS.dup X6.here hx rfl (hb hby at_55) rfl rfl ?_
      refine XS.iconst X6.here hx rfl (hb hby at_56) ?_
      refine XS.iconst X6.here hx rfl (hb hby at_57) ?_
      show Steps p.tables e below (T6.setTop (mkF m 58 #[.val (.int p0), .val (.long q1), .second, .val (.long q2), .second, .val (.long q3), .second, .val (.long q4), .second, .val (.int (0 : Int32)), .val (.int p0), .val (.long (m0_0 p0 q1 q2 q3 q4)), .second, .val (.ref b4), .unset, .unset, .unset, .unset, .unset, .unset, .unset, .unset, .unset, .unset, .unset, .unset, .unset, .unset] [(.int (1 : Int32)), (.int (1 : Int32)), (.ref b6), (.ref b6), (.int (0 : Int32)), (.int p0), (.ref b5), (.ref b5)])) _
      refine st7.trans ?_
      refine XS.aload X7.here hx rfl (hb hby at_61) rfl rfl ?_
      show Steps p.tables e below (T7.setTop (mkF m 63 #[.val (.int p0), .val (.long q1), .second, .val (.long q2), .second, .val (.long q3), .second, .val (.long q4), .second, .val (.int (0 : Int32)), .val (.int p0), .val (.long (m0_0 p0 q1 q2 q3 q4)), .second, .val (.ref b4), .unset, .unset, .unset, .unset, .unset, .unset, .unset, .unset, .unset, .unset, .unset, .unset, .unset, .unset] [(.ref b4), (.ref b6), (.int (0 : Int32)), (.int p0), (.ref b5), (.ref b5)])) _
      refine st8.trans ?_
      refine XS.astore X8.here hx rfl (hb hby at_66) rfl rfl (l' := #[.val (.int p0), .val (.long q1), .second, .val (.long q2), .second, .val (.long q3), .second, .val (.long q4), .second, .val (.int (0 : Int32)), .val (.int p0), .val (.long (m0_0 p0 q1 q2 q3 q4)), .second, .val (.ref b4), .val (.ref b5), .unset, .unset, .unset, .unset, .unset, .unset, .unset, .unset, .unset, .unset, .unset, .unset, .unset]) rfl ?_
      show Steps p.tables e below (T8.setTop (mkF m 68 #[.val (.int p0), .val (.long q1), .second, .val (.long q2), .second, .val (.long q3), .second, .val (.long q4), .second, .val (.int (0 : Int32)), .val (.int p0), .val (.long (m0_0 p0 q1 q2 q3 q4)), .second, .val (.ref b4), .val (.ref b5), .unset, .unset, .unset, .unset, .unset, .unset, .unset, .unset, .unset, .unset, .unset, .unset, .unset] [])) _
      refine st9 _ ?_
      refine XS.dup X9.here hx rfl (hb hby at_71) rfl rfl ?_
      show Steps p.tables e below (T9.setTop (mkF m 72 #[.val (.int p0), .val (.long q1), .second, .val (.long q2), .second, .val (.long q3), .second, .val (.long q4), .second, .val (.int (0 : Int32)), .val (.int p0), .val (.long (m0_0 p0 q1 q2 q3 q4)), .second, .val (.ref b4), .val (.ref b5), .unset, .unset, .unset, .unset, .unset, .unset, .unset, .unset, .unset, .unset, .unset, .unset, .unset] [(.ref b9), (.ref b9)])) _
      refine st10.trans ?_
      refine XS.astore X10.here hx rfl (hb hby at_75) rfl rfl (l' := #[.val (.int p0), .val (.long q1), .second, .val (.long q2), .second, .val (.long q3), .second, .val (.long q4), .second, .val (.int (0 : Int32)), .val (.int p0), .val (.long (m0_0 p0 q1 q2 q3 q4)), .second, .val (.ref b4), .val (.ref b5), .val (.ref b9), .unset, .unset, .unset, .unset, .unset, .unset, .unset, .unset, .unset, .unset, .unset, .unset]) rfl ?_
      refine XS.iload X10.here hx rfl (hb hby at_77) rfl ?_
      refine XS.ifYes X10.here hx rfl (pc0 := 79) (pc' := 101) rfl (hb hby at_79) rfl ((if0 _ _).trans (teq (by decide : (0 : Int32) = (0 : Int32))).1) (by decide) (by decide) ?_
      refine XS.iload X10.here hx rfl (hb hby at_101) rfl ?_
      refine XS.ifYes X10.here hx rfl (pc0 := 103) (pc' := 113) rfl (hb hby at_103) rfl ((if0 _ _).trans (teq (by decide : (0 : Int32) = (0 : Int32))).1) (by decide) (by decide) ?_
      show Steps p.tables e below (T10.setTop (mkF m 113 #[.val (.int p0), .val (.long q1), .second, .val (.long q2), .second, .val (.long q3), .second, .val (.long q4), .second, .val (.int (0 : Int32)), .val (.int p0), .val (.long (m0_0 p0 q1 q2 q3 q4)), .second, .val (.ref b4), .val (.ref b5), .val (.ref b9), .unset, .unset, .unset, .unset, .unset, .unset, .unset, .unset, .unset, .unset, .unset, .unset] [])) _
      refine X10.ldc2Long hx hown (mvT hZ (hw _ (List.mem_of_getElem? (i := 119) rfl))) (g := (mkF m 113 #[.val (.int p0), .val (.long q1), .second, .val (.long q2), .second, .val (.long q3), .second, .val (.long q4), .second, .val (.int (0 : Int32)), .val (.int p0), .val (.long (m0_0 p0 q1 q2 q3 q4)), .second, .val (.ref b4), .val (.ref b5), .val (.ref b9), .unset, .unset, .unset, .unset, .unset, .unset, .unset, .unset, .unset, .unset, .unset, .unset] [])) rfl (hb hby at_113) _ ?_
      refine XS.lstore X10.here hx rfl (hb hby at_116) rfl (l' := #[.val (.int p0), .val (.long q1), .second, .val (.long q2), .second, .val (.long q3), .second, .val (.long q4), .second, .val (.int (0 : Int32)), .val (.int p0), .val (.long (m0_0 p0 q1 q2 q3 q4)), .second, .val (.ref b4), .val (.ref b5), .val (.ref b9), .val (.long (9223372036854775807 : Int64)), .second, .unset, .unset, .unset, .unset, .unset, .unset, .unset, .unset, .unset, .unset]) rfl ?_
      refine XS.lload X10.here hx rfl (hb hby at_118) rfl ?_
      refine XS.lload X10.here hx rfl (hb hby at_120) rfl ?_
      refine XS.lcmp X10.here hx rfl (hb hby at_122) rfl ?_
      exact kt
    by_cases hc123_11 : q3 < (9223372036854775807 : Int64)
    · obtain ⟨cq12, kq12, q12a, q12b, q12c⟩ := isOf hZ rfl f10_10
      obtain ⟨_, _, ⟨T12, L12, k12, n12⟩, -, X12, ⟨Lc12, hQ12, l12, y12, z12⟩, st12⟩ := X10.virtualBack hx (y := (⟨"com/example/many_to_leader/manytoleader/bully/CandidatePool", "heartbeatDue", "(J)Z"⟩ : MethodName)) (z := (⟨"com/example/many_to_leader/manytoleader/bully/CandidatePool", "heartbeatDue", "(J)Z"⟩ : MethodName)) hown (mvT hZ (hw _ (List.mem_of_getElem? (i := 120) rfl))) (mvT hZ (hw _ (List.mem_of_getElem? (i := 121) rfl))) (notFace_of_selects (args := #[]) (mvT hZ (hw _ (List.mem_of_getElem? (i := 123) rfl)))) (mvT hZ (hw _ (List.mem_of_getElem? (i := 123) rfl))) (mvT hZ (hw _ (List.mem_of_getElem? (i := 122) rfl))) (by decide) (backOf (W := 0) (rm14 l Z aw hw [] b5 q3 (9223372036854775807 : Int64) (m0_0 p0 q1 q2 q3 q4) (9223372036854775807 : Int64) (0 : Int32) T10.heap n0 Z10 f10_10 lo5 f10_11 f10_14 f10_12 f10_15) hZ (hw _ (List.mem_of_getElem? (i := 124) rfl)) (hw _ (List.mem_of_getElem? (i := 31) rfl)) (by decide) (by decide)) q12a q12c (g := (mkF m 154 #[.val (.int p0), .val (.long q1), .second, .val (.long q2), .second, .val (.long q3), .second, .val (.long q4), .second, .val (.int (0 : Int32)), .val (.int p0), .val (.long (m0_0 p0 q1 q2 q3 q4)), .second, .val (.ref b4), .val (.ref b5), .val (.ref b9), .val (.long (9223372036854775807 : Int64)), .second, .val (.int (0 : Int32)), .val (.long (9223372036854775807 : Int64)), .second, .unset, .unset, .unset, .unset, .unset, .unset, .unset] [(.long q3), (.ref b5)])) rfl (by rw [hml]; rfl) (Steps.refl _) (argsL := [(.long q3)]) (rest := []) (lenOf pd_0_5 rfl) rfl (by show 2 * 0 + _ ≤ _; exact Nat.le_of_eq rfl) (hb hby at_154) (fun _ _ => ⟨rfl, rfl, (by decide : 6 + 0 ≤ _), (by decide : 35 + 0 ≤ _)⟩)
      dsimp only [Pt.U, Pt.locs, Pt.cells, Pt.slots] at X12 l12 y12 z12 st12 hQ12
      rw [l12, y12, z12] at X12
      obtain ⟨rfl, Nq12, Kq12, P12_0, P12_1, P12_2, P12_3, P12_4⟩ := hQ12
      have N12 := Fr.app N10 Nq12
      have f12_0 := f10_0.keep Kq12
      have f12_1 := f10_1.keep Kq12 (ninS ne5_b2 nin0)
      have f12_2 := f10_2.keep Kq12 (ninS ne5_b2 nin0)
      have f12_3 := f10_3.keep Kq12 (ninS ne5_b2 nin0)
      have f12_4 := f10_4.keep Kq12 (ninS ne5_b2 nin0)
      have f12_5 := f10_5.keep Kq12 (ninS ne5_b2 nin0)
      have f12_6 := f10_6.keep Kq12
      have f12_7 := f10_7.keep Kq12 (ninS ne5_b4 nin0)
      have f12_8 := f10_8.keep Kq12 (ninS ne5_b4 nin0)
      have f12_9 := f10_9.keep Kq12
      have f12_10 := P10_0.keep Kq12
      have f12_11 := P10_1.keep Kq12 (ninS (Ne.symm ne9_b5) nin0)
      have f12_12 := P10_2.keep Kq12 (ninS (Ne.symm ne9_b5) nin0)
      have f12_13 := P10_3.keep Kq12 (ninS (Ne.symm ne9_b5) nin0)
      have K12 : Keep h0 T12.heap [] := K10.trans Kq12 (allS (Or.inr sz5) all0)
      have Z12 : n0 ≤ T12.heap.size := Nat.le_trans Z10 Kq12.1
      have Fd12 := P12_1
      rw [own_hd_t hc123_11] at Fd12
      obtain ⟨cq13, kq13, q13a, q13b, q13c⟩ := isOf hZ rfl P12_0
      obtain ⟨_, _, ⟨T13, L13, k13, n13⟩, -, X13, ⟨Lc13, hQ13, l13, y13, z13⟩, st13⟩ := X12.virtualBack hx (y := (⟨"com/example/many_to_leader/manytoleader/bully/CandidatePool", "deadline", "()J"⟩ : MethodName)) (z := (⟨"com/example/many_to_leader/manytoleader/bully/CandidatePool", "deadline", "()J"⟩ : MethodName)) hown (mvT hZ (hw _ (List.mem_of_getElem? (i := 125) rfl))) (mvT hZ (hw _ (List.mem_of_getElem? (i := 126) rfl))) (notFace_of_selects (args := #[]) (mvT hZ (hw _ (List.mem_of_getElem? (i := 128) rfl)))) (mvT hZ (hw _ (List.mem_of_getElem? (i := 128) rfl))) (mvT hZ (hw _ (List.mem_of_getElem? (i := 127) rfl))) (by decide) (backOf (W := 0) (rm15 l Z aw hw [] b5 (9223372036854775807 : Int64) (9223372036854775807 : Int64) T12.heap n0 Z12 Fd12 P12_3) hZ (hw _ (List.mem_of_getElem? (i := 129) rfl)) (hw _ (List.mem_of_getElem? (i := 31) rfl)) (by decide) (by decide)) q13a q13c (g := (mkF m 168 #[.val (.int p0), .val (.long q1), .second, .val (.long q2), .second, .val (.long q3), .second, .val (.long q4), .second, .val (.int (0 : Int32)), .val (.int p0), .val (.long (m0_0 p0 q1 q2 q3 q4)), .second, .val (.ref b4), .val (.ref b5), .val (.ref b9), .val (.long (9223372036854775807 : Int64)), .second, .val (.int (0 : Int32)), .val (.long (9223372036854775807 : Int64)), .second, .val (.int (f14 q3 (9223372036854775807 : Int64) (m0_0 p0 q1 q2 q3 q4) (9223372036854775807 : Int64) (0 : Int32))), .unset, .unset, .unset, .unset, .unset, .unset] [(.ref b5)])) rfl (by rw [hml]; rfl) (Steps.refl _) (argsL := []) (rest := []) (lenOf pd_0_6 rfl) rfl (by show 2 * 0 + _ ≤ _; exact Nat.le_of_eq rfl) (hb hby at_168) (fun _ _ => ⟨rfl, rfl, (by decide : 6 + 0 ≤ _), (by decide : 35 + 0 ≤ _)⟩)
      dsimp only [Pt.U, Pt.locs, Pt.cells, Pt.slots] at X13 l13 y13 z13 st13 hQ13
      rw [l13, y13, z13] at X13
      obtain ⟨rfl, Nq13, e13⟩ := hQ13
      have N13 := Fr.app N12 Nq13
      obtain ⟨cq14, kq14, q14a, q14b, q14c⟩ := isOf hZ e13 P12_0
      obtain ⟨_, _, ⟨T14, L14, k14, n14⟩, -, X14, ⟨Lc14, hQ14, l14, y14, z14⟩, st14⟩ := X13.virtualBack hx (y := (⟨"com/example/many_to_leader/manytoleader/bully/CandidatePool", "isCandidate", "()Z"⟩ : MethodName)) (z := (⟨"com/example/many_to_leader/manytoleader/bully/CandidatePool", "isCandidate", "()Z"⟩ : MethodName)) hown (mvT hZ (hw _ (List.mem_of_getElem? (i := 134) rfl))) (mvT hZ (hw _ (List.mem_of_getElem? (i := 135) rfl))) (notFace_of_selects (args := #[]) (mvT hZ (hw _ (List.mem_of_getElem? (i := 137) rfl)))) (mvT hZ (hw _ (List.mem_of_getElem? (i := 137) rfl))) (mvT hZ (hw _ (List.mem_of_getElem? (i := 136) rfl))) (by decide) (backOf (W := 0) (rm17c0 l Z aw hw [] b5 T12.heap n0 Z12 P12_4) hZ (hw _ (List.mem_of_getElem? (i := 138) rfl)) (hw _ (List.mem_of_getElem? (i := 31) rfl)) (by decide) (by decide)) q14a q14c (g := (mkF m 179 #[.val (.int p0), .val (.long q1), .second, .val (.long q2), .second, .val (.long q3), .second, .val (.long q4), .second, .val (.int (0 : Int32)), .val (.int p0), .val (.long (m0_0 p0 q1 q2 q3 q4)), .second, .val (.ref b4), .val (.ref b5), .val (.ref b9), .val (.long (9223372036854775807 : Int64)), .second, .val (.int (0 : Int32)), .val (.long (9223372036854775807 : Int64)), .second, .val (.int (f14 q3 (9223372036854775807 : Int64) (m0_0 p0 q1 q2 q3 q4) (9223372036854775807 : Int64) (0 : Int32))), .unset, .unset, .unset, .unset, .unset, .unset] [(.ref b5)])) rfl (by rw [hml]; rfl) (Steps.refl _) (argsL := []) (rest := []) (lenOf pd_0_7 rfl) rfl (by show 2 * 0 + _ ≤ _; exact Nat.le_of_eq rfl) (hb hby at_179) (fun _ _ => ⟨rfl, e13, (by decide : 6 + 0 ≤ _), (by decide : 35 + 0 ≤ _)⟩)
      dsimp only [Pt.U, Pt.locs, Pt.cells, Pt.slots] at X14 l14 y14 z14 st14 hQ14
      rw [l14, y14, z14] at X14
      obtain ⟨rfl, Nq14, e14⟩ := hQ14
      have N14 := Fr.app N13 Nq14
      refine own_back (b := T14.setTop (mkF m 199 #[.val (.int p0), .val (.long q1), .second, .val (.long q2), .second, .val (.long q3), .second, .val (.long q4), .second, .val (.int (0 : Int32)), .val (.int p0), .val (.long (m0_0 p0 q1 q2 q3 q4)), .second, .val (.ref b4), .val (.ref b5), .val (.ref b9), .val (.long (9223372036854775807 : Int64)), .second, .val (.int (0 : Int32)), .val (.long (9223372036854775807 : Int64)), .second, .val (.int (f14 q3 (9223372036854775807 : Int64) (m0_0 p0 q1 q2 q3 q4) (9223372036854775807 : Int64) (0 : Int32))), .val (.int (1 : Int32)), .unset, .unset, .unset, .unset, .unset] [(.int (lcmpW q4 (9223372036854775807 : Int64)))])) (fun t kt => ?_) ?_
      · show Steps p.tables e below (T10.setTop (mkF m 123 #[.val (.int p0), .val (.long q1), .second, .val (.long q2), .second, .val (.long q3), .second, .val (.long q4), .second, .val (.int (0 : Int32)), .val (.int p0), .val (.long (m0_0 p0 q1 q2 q3 q4)), .second, .val (.ref b4), .val (.ref b5), .val (.ref b9), .val (.long (9223372036854775807 : Int64)), .second, .unset, .unset, .unset, .unset, .unset, .unset, .unset, .unset, .unset, .unset] [(.int (lcmpW q3 (9223372036854775807 : Int64)))])) _
        refine XS.ifYes X10.here hx rfl (pc0 := 123) (pc' := 130) rfl (hb hby at_123) rfl ((if0 _ _).trans (tlt ((lw_lt _ _).mpr hc123_11)).1) (by decide) (by decide) ?_
        refine XS.iconst X10.here hx rfl (hb hby at_130) ?_
        refine XS.istore X10.here hx rfl (hb hby at_131) rfl (l' := #[.val (.int p0), .val (.long q1), .second, .val (.long q2), .second, .val (.long q3), .second, .val (.long q4), .second, .val (.int (0 : Int32)), .val (.int p0), .val (.long (m0_0 p0 q1 q2 q3 q4)), .second, .val (.ref b4), .val (.ref b5), .val (.ref b9), .val (.long (9223372036854775807 : Int64)), .second, .val (.int (0 : Int32)), .unset, .unset, .unset, .unset, .unset, .unset, .unset, .unset, .unset]) rfl ?_
        refine XS.iload X10.here hx rfl (hb hby at_133) rfl ?_
        refine XS.ifYes X10.here hx rfl (pc0 := 135) (pc' := 146) rfl (hb hby at_135) rfl ((if0 _ _).trans (teq (by decide : (0 : Int32) = (0 : Int32))).1) (by decide) (by decide) ?_
        refine XS.lload X10.here hx rfl (hb hby at_146) rfl ?_
        refine XS.lstore X10.here hx rfl (hb hby at_148) rfl (l' := #[.val (.int p0), .val (.long q1), .second, .val (.long q2), .second, .val (.long q3), .second, .val (.long q4), .second, .val (.int (0 : Int32)), .val (.int p0), .val (.long (m0_0 p0 q1 q2 q3 q4)), .second, .val (.ref b4), .val (.ref b5), .val (.ref b9), .val (.long (9223372036854775807 : Int64)), .second, .val (.int (0 : Int32)), .val (.long (9223372036854775807 : Int64)), .second, .unset, .unset, .unset, .unset, .unset, .unset, .unset]) rfl ?_
        show Steps p.tables e below (T10.setTop (mkF m 150 #[.val (.int p0), .val (.long q1), .second, .val (.long q2), .second, .val (.long q3), .second, .val (.long q4), .second, .val (.int (0 : Int32)), .val (.int p0), .val (.long (m0_0 p0 q1 q2 q3 q4)), .second, .val (.ref b4), .val (.ref b5), .val (.ref b9), .val (.long (9223372036854775807 : Int64)), .second, .val (.int (0 : Int32)), .val (.long (9223372036854775807 : Int64)), .second, .unset, .unset, .unset, .unset, .unset, .unset, .unset] [])) _
        refine XS.aload X10.here hx rfl (hb hby at_150) rfl rfl ?_
        refine XS.lload X10.here hx rfl (hb hby at_152) rfl ?_
        show Steps p.tables e below (T10.setTop (mkF m 154 #[.val (.int p0), .val (.long q1), .second, .val (.long q2), .second, .val (.long q3), .second, .val (.long q4), .second, .val (.int (0 : Int32)), .val (.int p0), .val (.long (m0_0 p0 q1 q2 q3 q4)), .second, .val (.ref b4), .val (.ref b5), .val (.ref b9), .val (.long (9223372036854775807 : Int64)), .second, .val (.int (0 : Int32)), .val (.long (9223372036854775807 : Int64)), .second, .unset, .unset, .unset, .unset, .unset, .unset, .unset] [(.long q3), (.ref b5)])) _
        refine st12.trans ?_
        refine XS.istore X12.here hx rfl (hb hby at_157) rfl (l' := #[.val (.int p0), .val (.long q1), .second, .val (.long q2), .second, .val (.long q3), .second, .val (.long q4), .second, .val (.int (0 : Int32)), .val (.int p0), .val (.long (m0_0 p0 q1 q2 q3 q4)), .second, .val (.ref b4), .val (.ref b5), .val (.ref b9), .val (.long (9223372036854775807 : Int64)), .second, .val (.int (0 : Int32)), .val (.long (9223372036854775807 : Int64)), .second, .val (.int (f14 q3 (9223372036854775807 : Int64) (m0_0 p0 q1 q2 q3 q4) (9223372036854775807 : Int64) (0 : Int32))), .unset, .unset, .unset, .unset, .unset, .unset]) rfl ?_
        refine XS.iload X12.here hx rfl (hb hby at_159) rfl ?_
        refine XS.iload X12.here hx rfl (hb hby at_161) rfl ?_
        refine XS.icmpNo X12.here hx rfl (hb hby at_163) rfl (teq (own_due0 hc123_11)).2 ?_
        refine XS.aload X12.here hx rfl (hb hby at_166) rfl rfl ?_
        show Steps p.tables e below (T12.setTop (mkF m 168 #[.val (.int p0), .val (.long q1), .second, .val (.long q2), .second, .val (.long q3), .second, .val (.long q4), .second, .val (.int (0 : Int32)), .val (.int p0), .val (.long (m0_0 p0 q1 q2 q3 q4)), .second, .val (.ref b4), .val (.ref b5), .val (.ref b9), .val (.long (9223372036854775807 : Int64)), .second, .val (.int (0 : Int32)), .val (.long (9223372036854775807 : Int64)), .second, .val (.int (f14 q3 (9223372036854775807 : Int64) (m0_0 p0 q1 q2 q3 q4) (9223372036854775807 : Int64) (0 : Int32))), .unset, .unset, .unset, .unset, .unset, .unset] [(.ref b5)])) _
        refine st13.trans ?_
        refine XS.lload X13.here hx rfl (hb hby at_171) rfl ?_
        refine XS.lcmp X13.here hx rfl (hb hby at_173) rfl ?_
        refine XS.ifNo X13.here hx rfl (hb hby at_174) rfl ((if0 _ _).trans (teq ((lw_eq _ _).mpr (own_mint _))).2) ?_
        refine XS.aload X13.here hx rfl (hb hby at_177) rfl rfl ?_
        show Steps p.tables e below (T13.setTop (mkF m 179 #[.val (.int p0), .val (.long q1), .second, .val (.long q2), .second, .val (.long q3), .second, .val (.long q4), .second, .val (.int (0 : Int32)), .val (.int p0), .val (.long (m0_0 p0 q1 q2 q3 q4)), .second, .val (.ref b4), .val (.ref b5), .val (.ref b9), .val (.long (9223372036854775807 : Int64)), .second, .val (.int (0 : Int32)), .val (.long (9223372036854775807 : Int64)), .second, .val (.int (f14 q3 (9223372036854775807 : Int64) (m0_0 p0 q1 q2 q3 q4) (9223372036854775807 : Int64) (0 : Int32))), .unset, .unset, .unset, .unset, .unset, .unset] [(.ref b5)])) _
        refine st14.trans ?_
        refine XS.iload X14.here hx rfl (hb hby at_182) rfl ?_
        refine XS.icmpNo X14.here hx rfl (hb hby at_184) rfl (teq (by decide : (0 : Int32) = (0 : Int32))).2 ?_
        refine XS.iconst X14.here hx rfl (hb hby at_187) ?_
        refine XS.goto X14.here hx rfl (pc0 := 188) (pc' := 192) rfl (hb hby at_188) (by decide) (by decide) ?_
        refine XS.istore X14.here hx rfl (hb hby at_192) rfl (l' := #[.val (.int p0), .val (.long q1), .second, .val (.long q2), .second, .val (.long q3), .second, .val (.long q4), .second, .val (.int (0 : Int32)), .val (.int p0), .val (.long (m0_0 p0 q1 q2 q3 q4)), .second, .val (.ref b4), .val (.ref b5), .val (.ref b9), .val (.long (9223372036854775807 : Int64)), .second, .val (.int (0 : Int32)), .val (.long (9223372036854775807 : Int64)), .second, .val (.int (f14 q3 (9223372036854775807 : Int64) (m0_0 p0 q1 q2 q3 q4) (9223372036854775807 : Int64) (0 : Int32))), .val (.int (1 : Int32)), .unset, .unset, .unset, .unset, .unset]) rfl ?_
        refine XS.lload X14.here hx rfl (hb hby at_194) rfl ?_
        show Steps p.tables e below (T14.setTop (mkF m 196 #[.val (.int p0), .val (.long q1), .second, .val (.long q2), .second, .val (.long q3), .second, .val (.long q4), .second, .val (.int (0 : Int32)), .val (.int p0), .val (.long (m0_0 p0 q1 q2 q3 q4)), .second, .val (.ref b4), .val (.ref b5), .val (.ref b9), .val (.long (9223372036854775807 : Int64)), .second, .val (.int (0 : Int32)), .val (.long (9223372036854775807 : Int64)), .second, .val (.int (f14 q3 (9223372036854775807 : Int64) (m0_0 p0 q1 q2 q3 q4) (9223372036854775807 : Int64) (0 : Int32))), .val (.int (1 : Int32)), .unset, .unset, .unset, .unset, .unset] [(.long q4)])) _
        refine XS.lload X14.here hx rfl (hb hby at_196) rfl ?_
        refine XS.lcmp X14.here hx rfl (hb hby at_198) rfl ?_
        exact kt
      by_cases hc199_15 : q4 < (9223372036854775807 : Int64)
      · obtain ⟨cq16, kq16, q16a, q16b, q16c⟩ := isOf hZ e14 P12_0
        obtain ⟨_, _, ⟨T16, L16, k16, n16⟩, -, X16, ⟨Lc16, hQ16, l16, y16, z16⟩, st16⟩ := X14.virtualBack hx (y := (⟨"com/example/many_to_leader/manytoleader/bully/CandidatePool", "heartbeatDue", "(J)Z"⟩ : MethodName)) (z := (⟨"com/example/many_to_leader/manytoleader/bully/CandidatePool", "heartbeatDue", "(J)Z"⟩ : MethodName)) hown (mvT hZ (hw _ (List.mem_of_getElem? (i := 120) rfl))) (mvT hZ (hw _ (List.mem_of_getElem? (i := 121) rfl))) (notFace_of_selects (args := #[]) (mvT hZ (hw _ (List.mem_of_getElem? (i := 123) rfl)))) (mvT hZ (hw _ (List.mem_of_getElem? (i := 123) rfl))) (mvT hZ (hw _ (List.mem_of_getElem? (i := 122) rfl))) (by decide) (backOf (W := 0) (rm14 l Z aw hw [] b5 q4 (9223372036854775807 : Int64) (m0_0 p0 q1 q2 q3 q4) (9223372036854775807 : Int64) (0 : Int32) T12.heap n0 Z12 P12_0 lo5 Fd12 P12_2 P12_3 P12_4) hZ (hw _ (List.mem_of_getElem? (i := 124) rfl)) (hw _ (List.mem_of_getElem? (i := 31) rfl)) (by decide) (by decide)) q16a q16c (g := (mkF m 230 #[.val (.int p0), .val (.long q1), .second, .val (.long q2), .second, .val (.long q3), .second, .val (.long q4), .second, .val (.int (0 : Int32)), .val (.int p0), .val (.long (m0_0 p0 q1 q2 q3 q4)), .second, .val (.ref b4), .val (.ref b5), .val (.ref b9), .val (.long (9223372036854775807 : Int64)), .second, .val (.int (0 : Int32)), .val (.long (9223372036854775807 : Int64)), .second, .val (.int (f14 q3 (9223372036854775807 : Int64) (m0_0 p0 q1 q2 q3 q4) (9223372036854775807 : Int64) (0 : Int32))), .val (.int (1 : Int32)), .val (.int (0 : Int32)), .val (.long (9223372036854775807 : Int64)), .second, .unset, .unset] [(.long q4), (.ref b5)])) rfl (by rw [hml]; rfl) (Steps.refl _) (argsL := [(.long q4)]) (rest := []) (lenOf pd_0_5 rfl) rfl (by show 2 * 0 + _ ≤ _; exact Nat.le_of_eq rfl) (hb hby at_230) (fun _ _ => ⟨rfl, e14, (by decide : 6 + 0 ≤ _), (by decide : 35 + 0 ≤ _)⟩)
        dsimp only [Pt.U, Pt.locs, Pt.cells, Pt.slots] at X16 l16 y16 z16 st16 hQ16
        rw [l16, y16, z16] at X16
        obtain ⟨rfl, Nq16, Kq16, P16_0, P16_1, P16_2, P16_3, P16_4⟩ := hQ16
        have N16 := Fr.app N14 Nq16
        have f16_0 := f12_0.keep Kq16
        have f16_1 := f12_1.keep Kq16 (ninS ne5_b2 nin0)
        have f16_2 := f12_2.keep Kq16 (ninS ne5_b2 nin0)
        have f16_3 := f12_3.keep Kq16 (ninS ne5_b2 nin0)
        have f16_4 := f12_4.keep Kq16 (ninS ne5_b2 nin0)
        have f16_5 := f12_5.keep Kq16 (ninS ne5_b2 nin0)
        have f16_6 := f12_6.keep Kq16
        have f16_7 := f12_7.keep Kq16 (ninS ne5_b4 nin0)
        have f16_8 := f12_8.keep Kq16 (ninS ne5_b4 nin0)
        have f16_9 := f12_9.keep Kq16
        have f16_10 := f12_10.keep Kq16
        have f16_11 := f12_11.keep Kq16 (ninS (Ne.symm ne9_b5) nin0)
        have f16_12 := f12_12.keep Kq16 (ninS (Ne.symm ne9_b5) nin0)
        have f16_13 := f12_13.keep Kq16 (ninS (Ne.symm ne9_b5) nin0)
        have K16 : Keep h0 T16.heap [] := K12.trans Kq16 (allS (Or.inr sz5) all0)
        have Z16 : n0 ≤ T16.heap.size := Nat.le_trans Z12 Kq16.1
        have Fd16 := P16_1
        rw [own_hd_t hc199_15] at Fd16
        obtain ⟨cq17, kq17, q17a, q17b, q17c⟩ := isOf hZ rfl P16_0
        obtain ⟨_, _, ⟨T17, L17, k17, n17⟩, -, X17, ⟨Lc17, hQ17, l17, y17, z17⟩, st17⟩ := X16.virtualBack hx (y := (⟨"com/example/many_to_leader/manytoleader/bully/CandidatePool", "deadline", "()J"⟩ : MethodName)) (z := (⟨"com/example/many_to_leader/manytoleader/bully/CandidatePool", "deadline", "()J"⟩ : MethodName)) hown (mvT hZ (hw _ (List.mem_of_getElem? (i := 125) rfl))) (mvT hZ (hw _ (List.mem_of_getElem? (i := 126) rfl))) (notFace_of_selects (args := #[]) (mvT hZ (hw _ (List.mem_of_getElem? (i := 128) rfl)))) (mvT hZ (hw _ (List.mem_of_getElem? (i := 128) rfl))) (mvT hZ (hw _ (List.mem_of_getElem? (i := 127) rfl))) (by decide) (backOf (W := 0) (rm15 l Z aw hw [] b5 (9223372036854775807 : Int64) (9223372036854775807 : Int64) T16.heap n0 Z16 Fd16 P16_3) hZ (hw _ (List.mem_of_getElem? (i := 129) rfl)) (hw _ (List.mem_of_getElem? (i := 31) rfl)) (by decide) (by decide)) q17a q17c (g := (mkF m 244 #[.val (.int p0), .val (.long q1), .second, .val (.long q2), .second, .val (.long q3), .second, .val (.long q4), .second, .val (.int (0 : Int32)), .val (.int p0), .val (.long (m0_0 p0 q1 q2 q3 q4)), .second, .val (.ref b4), .val (.ref b5), .val (.ref b9), .val (.long (9223372036854775807 : Int64)), .second, .val (.int (0 : Int32)), .val (.long (9223372036854775807 : Int64)), .second, .val (.int (f14 q3 (9223372036854775807 : Int64) (m0_0 p0 q1 q2 q3 q4) (9223372036854775807 : Int64) (0 : Int32))), .val (.int (1 : Int32)), .val (.int (0 : Int32)), .val (.long (9223372036854775807 : Int64)), .second, .val (.int (f14 q4 (9223372036854775807 : Int64) (m0_0 p0 q1 q2 q3 q4) (9223372036854775807 : Int64) (0 : Int32))), .unset] [(.ref b5)])) rfl (by rw [hml]; rfl) (Steps.refl _) (argsL := []) (rest := []) (lenOf pd_0_6 rfl) rfl (by show 2 * 0 + _ ≤ _; exact Nat.le_of_eq rfl) (hb hby at_244) (fun _ _ => ⟨rfl, rfl, (by decide : 6 + 0 ≤ _), (by decide : 35 + 0 ≤ _)⟩)
        dsimp only [Pt.U, Pt.locs, Pt.cells, Pt.slots] at X17 l17 y17 z17 st17 hQ17
        rw [l17, y17, z17] at X17
        obtain ⟨rfl, Nq17, e17⟩ := hQ17
        have N17 := Fr.app N16 Nq17
        refine own_back (b := T17.setTop (mkF m 275 #[.val (.int p0), .val (.long q1), .second, .val (.long q2), .second, .val (.long q3), .second, .val (.long q4), .second, .val (.int (0 : Int32)), .val (.int p0), .val (.long (m0_0 p0 q1 q2 q3 q4)), .second, .val (.ref b4), .val (.ref b5), .val (.ref b9), .val (.long (9223372036854775807 : Int64)), .second, .val (.int (0 : Int32)), .val (.long (9223372036854775807 : Int64)), .second, .val (.int (f14 q3 (9223372036854775807 : Int64) (m0_0 p0 q1 q2 q3 q4) (9223372036854775807 : Int64) (0 : Int32))), .val (.int (1 : Int32)), .val (.int (0 : Int32)), .val (.long (9223372036854775807 : Int64)), .second, .val (.int (f14 q4 (9223372036854775807 : Int64) (m0_0 p0 q1 q2 q3 q4) (9223372036854775807 : Int64) (0 : Int32))), .val (.int (1 : Int32))] [(.int (1 : Int32))])) (fun t kt => ?_) ?_
        · show Steps p.tables e below (T14.setTop (mkF m 199 #[.val (.int p0), .val (.long q1), .second, .val (.long q2), .second, .val (.long q3), .second, .val (.long q4), .second, .val (.int (0 : Int32)), .val (.int p0), .val (.long (m0_0 p0 q1 q2 q3 q4)), .second, .val (.ref b4), .val (.ref b5), .val (.ref b9), .val (.long (9223372036854775807 : Int64)), .second, .val (.int (0 : Int32)), .val (.long (9223372036854775807 : Int64)), .second, .val (.int (f14 q3 (9223372036854775807 : Int64) (m0_0 p0 q1 q2 q3 q4) (9223372036854775807 : Int64) (0 : Int32))), .val (.int (1 : Int32)), .unset, .unset, .unset, .unset, .unset] [(.int (lcmpW q4 (9223372036854775807 : Int64)))])) _
          refine XS.ifYes X14.here hx rfl (pc0 := 199) (pc' := 206) rfl (hb hby at_199) rfl ((if0 _ _).trans (tlt ((lw_lt _ _).mpr hc199_15)).1) (by decide) (by decide) ?_
          refine XS.iconst X14.here hx rfl (hb hby at_206) ?_
          refine XS.istore X14.here hx rfl (hb hby at_207) rfl (l' := #[.val (.int p0), .val (.long q1), .second, .val (.long q2), .second, .val (.long q3), .second, .val (.long q4), .second, .val (.int (0 : Int32)), .val (.int p0), .val (.long (m0_0 p0 q1 q2 q3 q4)), .second, .val (.ref b4), .val (.ref b5), .val (.ref b9), .val (.long (9223372036854775807 : Int64)), .second, .val (.int (0 : Int32)), .val (.long (9223372036854775807 : Int64)), .second, .val (.int (f14 q3 (9223372036854775807 : Int64) (m0_0 p0 q1 q2 q3 q4) (9223372036854775807 : Int64) (0 : Int32))), .val (.int (1 : Int32)), .val (.int (0 : Int32)), .unset, .unset, .unset, .unset]) rfl ?_
          refine XS.iload X14.here hx rfl (hb hby at_209) rfl ?_
          refine XS.ifYes X14.here hx rfl (pc0 := 211) (pc' := 222) rfl (hb hby at_211) rfl ((if0 _ _).trans (teq (by decide : (0 : Int32) = (0 : Int32))).1) (by decide) (by decide) ?_
          refine XS.lload X14.here hx rfl (hb hby at_222) rfl ?_
          refine XS.lstore X14.here hx rfl (hb hby at_224) rfl (l' := #[.val (.int p0), .val (.long q1), .second, .val (.long q2), .second, .val (.long q3), .second, .val (.long q4), .second, .val (.int (0 : Int32)), .val (.int p0), .val (.long (m0_0 p0 q1 q2 q3 q4)), .second, .val (.ref b4), .val (.ref b5), .val (.ref b9), .val (.long (9223372036854775807 : Int64)), .second, .val (.int (0 : Int32)), .val (.long (9223372036854775807 : Int64)), .second, .val (.int (f14 q3 (9223372036854775807 : Int64) (m0_0 p0 q1 q2 q3 q4) (9223372036854775807 : Int64) (0 : Int32))), .val (.int (1 : Int32)), .val (.int (0 : Int32)), .val (.long (9223372036854775807 : Int64)), .second, .unset, .unset]) rfl ?_
          show Steps p.tables e below (T14.setTop (mkF m 226 #[.val (.int p0), .val (.long q1), .second, .val (.long q2), .second, .val (.long q3), .second, .val (.long q4), .second, .val (.int (0 : Int32)), .val (.int p0), .val (.long (m0_0 p0 q1 q2 q3 q4)), .second, .val (.ref b4), .val (.ref b5), .val (.ref b9), .val (.long (9223372036854775807 : Int64)), .second, .val (.int (0 : Int32)), .val (.long (9223372036854775807 : Int64)), .second, .val (.int (f14 q3 (9223372036854775807 : Int64) (m0_0 p0 q1 q2 q3 q4) (9223372036854775807 : Int64) (0 : Int32))), .val (.int (1 : Int32)), .val (.int (0 : Int32)), .val (.long (9223372036854775807 : Int64)), .second, .unset, .unset] [])) _
          refine XS.aload X14.here hx rfl (hb hby at_226) rfl rfl ?_
          refine XS.lload X14.here hx rfl (hb hby at_228) rfl ?_
          show Steps p.tables e below (T14.setTop (mkF m 230 #[.val (.int p0), .val (.long q1), .second, .val (.long q2), .second, .val (.long q3), .second, .val (.long q4), .second, .val (.int (0 : Int32)), .val (.int p0), .val (.long (m0_0 p0 q1 q2 q3 q4)), .second, .val (.ref b4), .val (.ref b5), .val (.ref b9), .val (.long (9223372036854775807 : Int64)), .second, .val (.int (0 : Int32)), .val (.long (9223372036854775807 : Int64)), .second, .val (.int (f14 q3 (9223372036854775807 : Int64) (m0_0 p0 q1 q2 q3 q4) (9223372036854775807 : Int64) (0 : Int32))), .val (.int (1 : Int32)), .val (.int (0 : Int32)), .val (.long (9223372036854775807 : Int64)), .second, .unset, .unset] [(.long q4), (.ref b5)])) _
          refine st16.trans ?_
          refine XS.istore X16.here hx rfl (hb hby at_233) rfl (l' := #[.val (.int p0), .val (.long q1), .second, .val (.long q2), .second, .val (.long q3), .second, .val (.long q4), .second, .val (.int (0 : Int32)), .val (.int p0), .val (.long (m0_0 p0 q1 q2 q3 q4)), .second, .val (.ref b4), .val (.ref b5), .val (.ref b9), .val (.long (9223372036854775807 : Int64)), .second, .val (.int (0 : Int32)), .val (.long (9223372036854775807 : Int64)), .second, .val (.int (f14 q3 (9223372036854775807 : Int64) (m0_0 p0 q1 q2 q3 q4) (9223372036854775807 : Int64) (0 : Int32))), .val (.int (1 : Int32)), .val (.int (0 : Int32)), .val (.long (9223372036854775807 : Int64)), .second, .val (.int (f14 q4 (9223372036854775807 : Int64) (m0_0 p0 q1 q2 q3 q4) (9223372036854775807 : Int64) (0 : Int32))), .unset]) rfl ?_
          refine XS.iload X16.here hx rfl (hb hby at_235) rfl ?_
          refine XS.iload X16.here hx rfl (hb hby at_237) rfl ?_
          refine XS.icmpNo X16.here hx rfl (hb hby at_239) rfl (teq (own_due0 hc199_15)).2 ?_
          refine XS.aload X16.here hx rfl (hb hby at_242) rfl rfl ?_
          show Steps p.tables e below (T16.setTop (mkF m 244 #[.val (.int p0), .val (.long q1), .second, .val (.long q2), .second, .val (.long q3), .second, .val (.long q4), .second, .val (.int (0 : Int32)), .val (.int p0), .val (.long (m0_0 p0 q1 q2 q3 q4)), .second, .val (.ref b4), .val (.ref b5), .val (.ref b9), .val (.long (9223372036854775807 : Int64)), .second, .val (.int (0 : Int32)), .val (.long (9223372036854775807 : Int64)), .second, .val (.int (f14 q3 (9223372036854775807 : Int64) (m0_0 p0 q1 q2 q3 q4) (9223372036854775807 : Int64) (0 : Int32))), .val (.int (1 : Int32)), .val (.int (0 : Int32)), .val (.long (9223372036854775807 : Int64)), .second, .val (.int (f14 q4 (9223372036854775807 : Int64) (m0_0 p0 q1 q2 q3 q4) (9223372036854775807 : Int64) (0 : Int32))), .unset] [(.ref b5)])) _
          refine st17.trans ?_
          refine XS.lload X17.here hx rfl (hb hby at_247) rfl ?_
          refine XS.lcmp X17.here hx rfl (hb hby at_249) rfl ?_
          refine XS.ifNo X17.here hx rfl (hb hby at_250) rfl ((if0 _ _).trans (teq ((lw_eq _ _).mpr (own_mint _))).2) ?_
          refine XS.iconst X17.here hx rfl (hb hby at_253) ?_
          refine XS.goto X17.here hx rfl (pc0 := 254) (pc' := 258) rfl (hb hby at_254) (by decide) (by decide) ?_
          refine XS.istore X17.here hx rfl (hb hby at_258) rfl (l' := #[.val (.int p0), .val (.long q1), .second, .val (.long q2), .second, .val (.long q3), .second, .val (.long q4), .second, .val (.int (0 : Int32)), .val (.int p0), .val (.long (m0_0 p0 q1 q2 q3 q4)), .second, .val (.ref b4), .val (.ref b5), .val (.ref b9), .val (.long (9223372036854775807 : Int64)), .second, .val (.int (0 : Int32)), .val (.long (9223372036854775807 : Int64)), .second, .val (.int (f14 q3 (9223372036854775807 : Int64) (m0_0 p0 q1 q2 q3 q4) (9223372036854775807 : Int64) (0 : Int32))), .val (.int (1 : Int32)), .val (.int (0 : Int32)), .val (.long (9223372036854775807 : Int64)), .second, .val (.int (f14 q4 (9223372036854775807 : Int64) (m0_0 p0 q1 q2 q3 q4) (9223372036854775807 : Int64) (0 : Int32))), .val (.int (1 : Int32))]) rfl ?_
          show Steps p.tables e below (T17.setTop (mkF m 260 #[.val (.int p0), .val (.long q1), .second, .val (.long q2), .second, .val (.long q3), .second, .val (.long q4), .second, .val (.int (0 : Int32)), .val (.int p0), .val (.long (m0_0 p0 q1 q2 q3 q4)), .second, .val (.ref b4), .val (.ref b5), .val (.ref b9), .val (.long (9223372036854775807 : Int64)), .second, .val (.int (0 : Int32)), .val (.long (9223372036854775807 : Int64)), .second, .val (.int (f14 q3 (9223372036854775807 : Int64) (m0_0 p0 q1 q2 q3 q4) (9223372036854775807 : Int64) (0 : Int32))), .val (.int (1 : Int32)), .val (.int (0 : Int32)), .val (.long (9223372036854775807 : Int64)), .second, .val (.int (f14 q4 (9223372036854775807 : Int64) (m0_0 p0 q1 q2 q3 q4) (9223372036854775807 : Int64) (0 : Int32))), .val (.int (1 : Int32))] [])) _
          refine XS.iload X17.here hx rfl (hb hby at_260) rfl ?_
          refine XS.ifNo X17.here hx rfl (hb hby at_262) rfl ((if0 _ _).trans (feq (by decide : ¬ ((1 : Int32) = (0 : Int32)))).1) ?_
          refine XS.iload X17.here hx rfl (hb hby at_265) rfl ?_
          refine XS.ifNo X17.here hx rfl (hb hby at_267) rfl ((if0 _ _).trans (feq (by decide : ¬ ((1 : Int32) = (0 : Int32)))).1) ?_
          refine XS.iconst X17.here hx rfl (hb hby at_270) ?_
          refine XS.goto X17.here hx rfl (pc0 := 271) (pc' := 275) rfl (hb hby at_271) (by decide) (by decide) ?_
          exact kt
        obtain ⟨fs, hr, hrun, hended, hW, hsame⟩ := X17.leave (v := some (.int (1 : Int32))) (fun h => by rw [Bd.returns] at h; cases h) (BodyLoose.notSynchronized Bd)
        refine ⟨_, _, ?_, hrun, hended, _, _, rfl, ?_, ⟨_, rfl⟩, hW, hsame.mono (by decide) (by decide)⟩
        · show Steps p.tables e below (T17.setTop (mkF m 275 #[.val (.int p0), .val (.long q1), .second, .val (.long q2), .second, .val (.long q3), .second, .val (.long q4), .second, .val (.int (0 : Int32)), .val (.int p0), .val (.long (m0_0 p0 q1 q2 q3 q4)), .second, .val (.ref b4), .val (.ref b5), .val (.ref b9), .val (.long (9223372036854775807 : Int64)), .second, .val (.int (0 : Int32)), .val (.long (9223372036854775807 : Int64)), .second, .val (.int (f14 q3 (9223372036854775807 : Int64) (m0_0 p0 q1 q2 q3 q4) (9223372036854775807 : Int64) (0 : Int32))), .val (.int (1 : Int32)), .val (.int (0 : Int32)), .val (.long (9223372036854775807 : Int64)), .second, .val (.int (f14 q4 (9223372036854775807 : Int64) (m0_0 p0 q1 q2 q3 q4) (9223372036854775807 : Int64) (0 : Int32))), .val (.int (1 : Int32))] [(.int (1 : Int32))])) _
          exact retN X17 hx (t := .boolean) Bd.returns (by simp) (hb hby at_275) hr
        · show Q0 Z p0 q1 q2 q3 q4 wd kd wc h0 n0 _ T17.heap _
          rw [e17]
          exact ⟨by rw [show f0 p0 q1 q2 q3 q4 = (1 : Int32) from by unfold f0; rw [if_pos hc3_1, if_pos hc123_11, if_pos hc199_15]], N17⟩
      · obtain ⟨cq18, kq18, q18a, q18b, q18c⟩ := isOf hZ e14 P12_0
        obtain ⟨_, _, ⟨T18, L18, k18, n18⟩, -, X18, ⟨Lc18, hQ18, l18, y18, z18⟩, st18⟩ := X14.virtualBack hx (y := (⟨"com/example/many_to_leader/manytoleader/bully/CandidatePool", "heartbeatDue", "(J)Z"⟩ : MethodName)) (z := (⟨"com/example/many_to_leader/manytoleader/bully/CandidatePool", "heartbeatDue", "(J)Z"⟩ : MethodName)) hown (mvT hZ (hw _ (List.mem_of_getElem? (i := 120) rfl))) (mvT hZ (hw _ (List.mem_of_getElem? (i := 121) rfl))) (notFace_of_selects (args := #[]) (mvT hZ (hw _ (List.mem_of_getElem? (i := 123) rfl)))) (mvT hZ (hw _ (List.mem_of_getElem? (i := 123) rfl))) (mvT hZ (hw _ (List.mem_of_getElem? (i := 122) rfl))) (by decide) (backOf (W := 0) (rm14 l Z aw hw [] b5 q4 (9223372036854775807 : Int64) (m0_0 p0 q1 q2 q3 q4) (9223372036854775807 : Int64) (0 : Int32) T12.heap n0 Z12 P12_0 lo5 Fd12 P12_2 P12_3 P12_4) hZ (hw _ (List.mem_of_getElem? (i := 124) rfl)) (hw _ (List.mem_of_getElem? (i := 31) rfl)) (by decide) (by decide)) q18a q18c (g := (mkF m 230 #[.val (.int p0), .val (.long q1), .second, .val (.long q2), .second, .val (.long q3), .second, .val (.long q4), .second, .val (.int (0 : Int32)), .val (.int p0), .val (.long (m0_0 p0 q1 q2 q3 q4)), .second, .val (.ref b4), .val (.ref b5), .val (.ref b9), .val (.long (9223372036854775807 : Int64)), .second, .val (.int (0 : Int32)), .val (.long (9223372036854775807 : Int64)), .second, .val (.int (f14 q3 (9223372036854775807 : Int64) (m0_0 p0 q1 q2 q3 q4) (9223372036854775807 : Int64) (0 : Int32))), .val (.int (1 : Int32)), .val (.int (1 : Int32)), .val (.long (q4 + (m0_0 p0 q1 q2 q3 q4))), .second, .unset, .unset] [(.long q4), (.ref b5)])) rfl (by rw [hml]; rfl) (Steps.refl _) (argsL := [(.long q4)]) (rest := []) (lenOf pd_0_5 rfl) rfl (by show 2 * 0 + _ ≤ _; exact Nat.le_of_eq rfl) (hb hby at_230) (fun _ _ => ⟨rfl, e14, (by decide : 6 + 0 ≤ _), (by decide : 35 + 0 ≤ _)⟩)
        dsimp only [Pt.U, Pt.locs, Pt.cells, Pt.slots] at X18 l18 y18 z18 st18 hQ18
        rw [l18, y18, z18] at X18
        obtain ⟨rfl, Nq18, Kq18, P18_0, P18_1, P18_2, P18_3, P18_4⟩ := hQ18
        have N18 := Fr.app N14 Nq18
        have f18_0 := f12_0.keep Kq18
        have f18_1 := f12_1.keep Kq18 (ninS ne5_b2 nin0)
        have f18_2 := f12_2.keep Kq18 (ninS ne5_b2 nin0)
        have f18_3 := f12_3.keep Kq18 (ninS ne5_b2 nin0)
        have f18_4 := f12_4.keep Kq18 (ninS ne5_b2 nin0)
        have f18_5 := f12_5.keep Kq18 (ninS ne5_b2 nin0)
        have f18_6 := f12_6.keep Kq18
        have f18_7 := f12_7.keep Kq18 (ninS ne5_b4 nin0)
        have f18_8 := f12_8.keep Kq18 (ninS ne5_b4 nin0)
        have f18_9 := f12_9.keep Kq18
        have f18_10 := f12_10.keep Kq18
        have f18_11 := f12_11.keep Kq18 (ninS (Ne.symm ne9_b5) nin0)
        have f18_12 := f12_12.keep Kq18 (ninS (Ne.symm ne9_b5) nin0)
        have f18_13 := f12_13.keep Kq18 (ninS (Ne.symm ne9_b5) nin0)
        have K18 : Keep h0 T18.heap [] := K12.trans Kq18 (allS (Or.inr sz5) all0)
        have Z18 : n0 ≤ T18.heap.size := Nat.le_trans Z12 Kq18.1
        have Fd18 := P18_1
        rw [own_hd_f hc199_15] at Fd18
        obtain ⟨cq19, kq19, q19a, q19b, q19c⟩ := isOf hZ rfl P18_0
        obtain ⟨_, _, ⟨T19, L19, k19, n19⟩, -, X19, ⟨Lc19, hQ19, l19, y19, z19⟩, st19⟩ := X18.virtualBack hx (y := (⟨"com/example/many_to_leader/manytoleader/bully/CandidatePool", "deadline", "()J"⟩ : MethodName)) (z := (⟨"com/example/many_to_leader/manytoleader/bully/CandidatePool", "deadline", "()J"⟩ : MethodName)) hown (mvT hZ (hw _ (List.mem_of_getElem? (i := 125) rfl))) (mvT hZ (hw _ (List.mem_of_getElem? (i := 126) rfl))) (notFace_of_selects (args := #[]) (mvT hZ (hw _ (List.mem_of_getElem? (i := 128) rfl)))) (mvT hZ (hw _ (List.mem_of_getElem? (i := 128) rfl))) (mvT hZ (hw _ (List.mem_of_getElem? (i := 127) rfl))) (by decide) (backOf (W := 0) (rm15 l Z aw hw [] b5 (q4 + (m0_0 p0 q1 q2 q3 q4)) (9223372036854775807 : Int64) T18.heap n0 Z18 Fd18 P18_3) hZ (hw _ (List.mem_of_getElem? (i := 129) rfl)) (hw _ (List.mem_of_getElem? (i := 31) rfl)) (by decide) (by decide)) q19a q19c (g := (mkF m 244 #[.val (.int p0), .val (.long q1), .second, .val (.long q2), .second, .val (.long q3), .second, .val (.long q4), .second, .val (.int (0 : Int32)), .val (.int p0), .val (.long (m0_0 p0 q1 q2 q3 q4)), .second, .val (.ref b4), .val (.ref b5), .val (.ref b9), .val (.long (9223372036854775807 : Int64)), .second, .val (.int (0 : Int32)), .val (.long (9223372036854775807 : Int64)), .second, .val (.int (f14 q3 (9223372036854775807 : Int64) (m0_0 p0 q1 q2 q3 q4) (9223372036854775807 : Int64) (0 : Int32))), .val (.int (1 : Int32)), .val (.int (1 : Int32)), .val (.long (q4 + (m0_0 p0 q1 q2 q3 q4))), .second, .val (.int (f14 q4 (9223372036854775807 : Int64) (m0_0 p0 q1 q2 q3 q4) (9223372036854775807 : Int64) (0 : Int32))), .unset] [(.ref b5)])) rfl (by rw [hml]; rfl) (Steps.refl _) (argsL := []) (rest := []) (lenOf pd_0_6 rfl) rfl (by show 2 * 0 + _ ≤ _; exact Nat.le_of_eq rfl) (hb hby at_244) (fun _ _ => ⟨rfl, rfl, (by decide : 6 + 0 ≤ _), (by decide : 35 + 0 ≤ _)⟩)
        dsimp only [Pt.U, Pt.locs, Pt.cells, Pt.slots] at X19 l19 y19 z19 st19 hQ19
        rw [l19, y19, z19] at X19
        obtain ⟨rfl, Nq19, e19⟩ := hQ19
        have N19 := Fr.app N18 Nq19
        refine own_back (b := T19.setTop (mkF m 275 #[.val (.int p0), .val (.long q1), .second, .val (.long q2), .second, .val (.long q3), .second, .val (.long q4), .second, .val (.int (0 : Int32)), .val (.int p0), .val (.long (m0_0 p0 q1 q2 q3 q4)), .second, .val (.ref b4), .val (.ref b5), .val (.ref b9), .val (.long (9223372036854775807 : Int64)), .second, .val (.int (0 : Int32)), .val (.long (9223372036854775807 : Int64)), .second, .val (.int (f14 q3 (9223372036854775807 : Int64) (m0_0 p0 q1 q2 q3 q4) (9223372036854775807 : Int64) (0 : Int32))), .val (.int (1 : Int32)), .val (.int (1 : Int32)), .val (.long (q4 + (m0_0 p0 q1 q2 q3 q4))), .second, .val (.int (f14 q4 (9223372036854775807 : Int64) (m0_0 p0 q1 q2 q3 q4) (9223372036854775807 : Int64) (0 : Int32))), .val (.int (1 : Int32))] [(.int (1 : Int32))])) (fun t kt => ?_) ?_
        · show Steps p.tables e below (T14.setTop (mkF m 199 #[.val (.int p0), .val (.long q1), .second, .val (.long q2), .second, .val (.long q3), .second, .val (.long q4), .second, .val (.int (0 : Int32)), .val (.int p0), .val (.long (m0_0 p0 q1 q2 q3 q4)), .second, .val (.ref b4), .val (.ref b5), .val (.ref b9), .val (.long (9223372036854775807 : Int64)), .second, .val (.int (0 : Int32)), .val (.long (9223372036854775807 : Int64)), .second, .val (.int (f14 q3 (9223372036854775807 : Int64) (m0_0 p0 q1 q2 q3 q4) (9223372036854775807 : Int64) (0 : Int32))), .val (.int (1 : Int32)), .unset, .unset, .unset, .unset, .unset] [(.int (lcmpW q4 (9223372036854775807 : Int64)))])) _
          refine XS.ifNo X14.here hx rfl (hb hby at_199) rfl ((if0 _ _).trans (flt (fun q => hc199_15 ((lw_lt _ _).mp q))).1) ?_
          refine XS.iconst X14.here hx rfl (hb hby at_202) ?_
          refine XS.goto X14.here hx rfl (pc0 := 203) (pc' := 207) rfl (hb hby at_203) (by decide) (by decide) ?_
          refine XS.istore X14.here hx rfl (hb hby at_207) rfl (l' := #[.val (.int p0), .val (.long q1), .second, .val (.long q2), .second, .val (.long q3), .second, .val (.long q4), .second, .val (.int (0 : Int32)), .val (.int p0), .val (.long (m0_0 p0 q1 q2 q3 q4)), .second, .val (.ref b4), .val (.ref b5), .val (.ref b9), .val (.long (9223372036854775807 : Int64)), .second, .val (.int (0 : Int32)), .val (.long (9223372036854775807 : Int64)), .second, .val (.int (f14 q3 (9223372036854775807 : Int64) (m0_0 p0 q1 q2 q3 q4) (9223372036854775807 : Int64) (0 : Int32))), .val (.int (1 : Int32)), .val (.int (1 : Int32)), .unset, .unset, .unset, .unset]) rfl ?_
          refine XS.iload X14.here hx rfl (hb hby at_209) rfl ?_
          refine XS.ifNo X14.here hx rfl (hb hby at_211) rfl ((if0 _ _).trans (feq (by decide : ¬ ((1 : Int32) = (0 : Int32)))).1) ?_
          refine XS.lload X14.here hx rfl (hb hby at_214) rfl ?_
          show Steps p.tables e below (T14.setTop (mkF m 216 #[.val (.int p0), .val (.long q1), .second, .val (.long q2), .second, .val (.long q3), .second, .val (.long q4), .second, .val (.int (0 : Int32)), .val (.int p0), .val (.long (m0_0 p0 q1 q2 q3 q4)), .second, .val (.ref b4), .val (.ref b5), .val (.ref b9), .val (.long (9223372036854775807 : Int64)), .second, .val (.int (0 : Int32)), .val (.long (9223372036854775807 : Int64)), .second, .val (.int (f14 q3 (9223372036854775807 : Int64) (m0_0 p0 q1 q2 q3 q4) (9223372036854775807 : Int64) (0 : Int32))), .val (.int (1 : Int32)), .val (.int (1 : Int32)), .unset, .unset, .unset, .unset] [(.long q4)])) _
          refine XS.lload X14.here hx rfl (hb hby at_216) rfl ?_
          refine XS.ladd X14.here hx rfl (hb hby at_218) rfl ?_
          refine XS.goto X14.here hx rfl (pc0 := 219) (pc' := 224) rfl (hb hby at_219) (by decide) (by decide) ?_
          refine XS.lstore X14.here hx rfl (hb hby at_224) rfl (l' := #[.val (.int p0), .val (.long q1), .second, .val (.long q2), .second, .val (.long q3), .second, .val (.long q4), .second, .val (.int (0 : Int32)), .val (.int p0), .val (.long (m0_0 p0 q1 q2 q3 q4)), .second, .val (.ref b4), .val (.ref b5), .val (.ref b9), .val (.long (9223372036854775807 : Int64)), .second, .val (.int (0 : Int32)), .val (.long (9223372036854775807 : Int64)), .second, .val (.int (f14 q3 (9223372036854775807 : Int64) (m0_0 p0 q1 q2 q3 q4) (9223372036854775807 : Int64) (0 : Int32))), .val (.int (1 : Int32)), .val (.int (1 : Int32)), .val (.long (q4 + (m0_0 p0 q1 q2 q3 q4))), .second, .unset, .unset]) rfl ?_
          refine XS.aload X14.here hx rfl (hb hby at_226) rfl rfl ?_
          refine XS.lload X14.here hx rfl (hb hby at_228) rfl ?_
          show Steps p.tables e below (T14.setTop (mkF m 230 #[.val (.int p0), .val (.long q1), .second, .val (.long q2), .second, .val (.long q3), .second, .val (.long q4), .second, .val (.int (0 : Int32)), .val (.int p0), .val (.long (m0_0 p0 q1 q2 q3 q4)), .second, .val (.ref b4), .val (.ref b5), .val (.ref b9), .val (.long (9223372036854775807 : Int64)), .second, .val (.int (0 : Int32)), .val (.long (9223372036854775807 : Int64)), .second, .val (.int (f14 q3 (9223372036854775807 : Int64) (m0_0 p0 q1 q2 q3 q4) (9223372036854775807 : Int64) (0 : Int32))), .val (.int (1 : Int32)), .val (.int (1 : Int32)), .val (.long (q4 + (m0_0 p0 q1 q2 q3 q4))), .second, .unset, .unset] [(.long q4), (.ref b5)])) _
          refine st18.trans ?_
          refine XS.istore X18.here hx rfl (hb hby at_233) rfl (l' := #[.val (.int p0), .val (.long q1), .second, .val (.long q2), .second, .val (.long q3), .second, .val (.long q4), .second, .val (.int (0 : Int32)), .val (.int p0), .val (.long (m0_0 p0 q1 q2 q3 q4)), .second, .val (.ref b4), .val (.ref b5), .val (.ref b9), .val (.long (9223372036854775807 : Int64)), .second, .val (.int (0 : Int32)), .val (.long (9223372036854775807 : Int64)), .second, .val (.int (f14 q3 (9223372036854775807 : Int64) (m0_0 p0 q1 q2 q3 q4) (9223372036854775807 : Int64) (0 : Int32))), .val (.int (1 : Int32)), .val (.int (1 : Int32)), .val (.long (q4 + (m0_0 p0 q1 q2 q3 q4))), .second, .val (.int (f14 q4 (9223372036854775807 : Int64) (m0_0 p0 q1 q2 q3 q4) (9223372036854775807 : Int64) (0 : Int32))), .unset]) rfl ?_
          refine XS.iload X18.here hx rfl (hb hby at_235) rfl ?_
          refine XS.iload X18.here hx rfl (hb hby at_237) rfl ?_
          refine XS.icmpNo X18.here hx rfl (hb hby at_239) rfl (teq (own_due1 hc199_15)).2 ?_
          refine XS.aload X18.here hx rfl (hb hby at_242) rfl rfl ?_
          show Steps p.tables e below (T18.setTop (mkF m 244 #[.val (.int p0), .val (.long q1), .second, .val (.long q2), .second, .val (.long q3), .second, .val (.long q4), .second, .val (.int (0 : Int32)), .val (.int p0), .val (.long (m0_0 p0 q1 q2 q3 q4)), .second, .val (.ref b4), .val (.ref b5), .val (.ref b9), .val (.long (9223372036854775807 : Int64)), .second, .val (.int (0 : Int32)), .val (.long (9223372036854775807 : Int64)), .second, .val (.int (f14 q3 (9223372036854775807 : Int64) (m0_0 p0 q1 q2 q3 q4) (9223372036854775807 : Int64) (0 : Int32))), .val (.int (1 : Int32)), .val (.int (1 : Int32)), .val (.long (q4 + (m0_0 p0 q1 q2 q3 q4))), .second, .val (.int (f14 q4 (9223372036854775807 : Int64) (m0_0 p0 q1 q2 q3 q4) (9223372036854775807 : Int64) (0 : Int32))), .unset] [(.ref b5)])) _
          refine st19.trans ?_
          refine XS.lload X19.here hx rfl (hb hby at_247) rfl ?_
          refine XS.lcmp X19.here hx rfl (hb hby at_249) rfl ?_
          refine XS.ifNo X19.here hx rfl (hb hby at_250) rfl ((if0 _ _).trans (teq ((lw_eq _ _).mpr (own_mint _))).2) ?_
          refine XS.iconst X19.here hx rfl (hb hby at_253) ?_
          refine XS.goto X19.here hx rfl (pc0 := 254) (pc' := 258) rfl (hb hby at_254) (by decide) (by decide) ?_
          refine XS.istore X19.here hx rfl (hb hby at_258) rfl (l' := #[.val (.int p0), .val (.long q1), .second, .val (.long q2), .second, .val (.long q3), .second, .val (.long q4), .second, .val (.int (0 : Int32)), .val (.int p0), .val (.long (m0_0 p0 q1 q2 q3 q4)), .second, .val (.ref b4), .val (.ref b5), .val (.ref b9), .val (.long (9223372036854775807 : Int64)), .second, .val (.int (0 : Int32)), .val (.long (9223372036854775807 : Int64)), .second, .val (.int (f14 q3 (9223372036854775807 : Int64) (m0_0 p0 q1 q2 q3 q4) (9223372036854775807 : Int64) (0 : Int32))), .val (.int (1 : Int32)), .val (.int (1 : Int32)), .val (.long (q4 + (m0_0 p0 q1 q2 q3 q4))), .second, .val (.int (f14 q4 (9223372036854775807 : Int64) (m0_0 p0 q1 q2 q3 q4) (9223372036854775807 : Int64) (0 : Int32))), .val (.int (1 : Int32))]) rfl ?_
          show Steps p.tables e below (T19.setTop (mkF m 260 #[.val (.int p0), .val (.long q1), .second, .val (.long q2), .second, .val (.long q3), .second, .val (.long q4), .second, .val (.int (0 : Int32)), .val (.int p0), .val (.long (m0_0 p0 q1 q2 q3 q4)), .second, .val (.ref b4), .val (.ref b5), .val (.ref b9), .val (.long (9223372036854775807 : Int64)), .second, .val (.int (0 : Int32)), .val (.long (9223372036854775807 : Int64)), .second, .val (.int (f14 q3 (9223372036854775807 : Int64) (m0_0 p0 q1 q2 q3 q4) (9223372036854775807 : Int64) (0 : Int32))), .val (.int (1 : Int32)), .val (.int (1 : Int32)), .val (.long (q4 + (m0_0 p0 q1 q2 q3 q4))), .second, .val (.int (f14 q4 (9223372036854775807 : Int64) (m0_0 p0 q1 q2 q3 q4) (9223372036854775807 : Int64) (0 : Int32))), .val (.int (1 : Int32))] [])) _
          refine XS.iload X19.here hx rfl (hb hby at_260) rfl ?_
          refine XS.ifNo X19.here hx rfl (hb hby at_262) rfl ((if0 _ _).trans (feq (by decide : ¬ ((1 : Int32) = (0 : Int32)))).1) ?_
          refine XS.iload X19.here hx rfl (hb hby at_265) rfl ?_
          refine XS.ifNo X19.here hx rfl (hb hby at_267) rfl ((if0 _ _).trans (feq (by decide : ¬ ((1 : Int32) = (0 : Int32)))).1) ?_
          refine XS.iconst X19.here hx rfl (hb hby at_270) ?_
          refine XS.goto X19.here hx rfl (pc0 := 271) (pc' := 275) rfl (hb hby at_271) (by decide) (by decide) ?_
          exact kt
        obtain ⟨fs, hr, hrun, hended, hW, hsame⟩ := X19.leave (v := some (.int (1 : Int32))) (fun h => by rw [Bd.returns] at h; cases h) (BodyLoose.notSynchronized Bd)
        refine ⟨_, _, ?_, hrun, hended, _, _, rfl, ?_, ⟨_, rfl⟩, hW, hsame.mono (by decide) (by decide)⟩
        · show Steps p.tables e below (T19.setTop (mkF m 275 #[.val (.int p0), .val (.long q1), .second, .val (.long q2), .second, .val (.long q3), .second, .val (.long q4), .second, .val (.int (0 : Int32)), .val (.int p0), .val (.long (m0_0 p0 q1 q2 q3 q4)), .second, .val (.ref b4), .val (.ref b5), .val (.ref b9), .val (.long (9223372036854775807 : Int64)), .second, .val (.int (0 : Int32)), .val (.long (9223372036854775807 : Int64)), .second, .val (.int (f14 q3 (9223372036854775807 : Int64) (m0_0 p0 q1 q2 q3 q4) (9223372036854775807 : Int64) (0 : Int32))), .val (.int (1 : Int32)), .val (.int (1 : Int32)), .val (.long (q4 + (m0_0 p0 q1 q2 q3 q4))), .second, .val (.int (f14 q4 (9223372036854775807 : Int64) (m0_0 p0 q1 q2 q3 q4) (9223372036854775807 : Int64) (0 : Int32))), .val (.int (1 : Int32))] [(.int (1 : Int32))])) _
          exact retN X19 hx (t := .boolean) Bd.returns (by simp) (hb hby at_275) hr
        · show Q0 Z p0 q1 q2 q3 q4 wd kd wc h0 n0 _ T19.heap _
          rw [e19]
          exact ⟨by rw [show f0 p0 q1 q2 q3 q4 = (1 : Int32) from by unfold f0; rw [if_pos hc3_1, if_pos hc123_11, if_neg hc199_15]], N19⟩
    · obtain ⟨cq20, kq20, q20a, q20b, q20c⟩ := isOf hZ rfl f10_10
      obtain ⟨_, _, ⟨T20, L20, k20, n20⟩, -, X20, ⟨Lc20, hQ20, l20, y20, z20⟩, st20⟩ := X10.virtualBack hx (y := (⟨"com/example/many_to_leader/manytoleader/bully/CandidatePool", "heartbeatDue", "(J)Z"⟩ : MethodName)) (z := (⟨"com/example/many_to_leader/manytoleader/bully/CandidatePool", "heartbeatDue", "(J)Z"⟩ : MethodName)) hown (mvT hZ (hw _ (List.mem_of_getElem? (i := 120) rfl))) (mvT hZ (hw _ (List.mem_of_getElem? (i := 121) rfl))) (notFace_of_selects (args := #[]) (mvT hZ (hw _ (List.mem_of_getElem? (i := 123) rfl)))) (mvT hZ (hw _ (List.mem_of_getElem? (i := 123) rfl))) (mvT hZ (hw _ (List.mem_of_getElem? (i := 122) rfl))) (by decide) (backOf (W := 0) (rm14 l Z aw hw [] b5 q3 (9223372036854775807 : Int64) (m0_0 p0 q1 q2 q3 q4) (9223372036854775807 : Int64) (0 : Int32) T10.heap n0 Z10 f10_10 lo5 f10_11 f10_14 f10_12 f10_15) hZ (hw _ (List.mem_of_getElem? (i := 124) rfl)) (hw _ (List.mem_of_getElem? (i := 31) rfl)) (by decide) (by decide)) q20a q20c (g := (mkF m 154 #[.val (.int p0), .val (.long q1), .second, .val (.long q2), .second, .val (.long q3), .second, .val (.long q4), .second, .val (.int (0 : Int32)), .val (.int p0), .val (.long (m0_0 p0 q1 q2 q3 q4)), .second, .val (.ref b4), .val (.ref b5), .val (.ref b9), .val (.long (9223372036854775807 : Int64)), .second, .val (.int (1 : Int32)), .val (.long (q3 + (m0_0 p0 q1 q2 q3 q4))), .second, .unset, .unset, .unset, .unset, .unset, .unset, .unset] [(.long q3), (.ref b5)])) rfl (by rw [hml]; rfl) (Steps.refl _) (argsL := [(.long q3)]) (rest := []) (lenOf pd_0_5 rfl) rfl (by show 2 * 0 + _ ≤ _; exact Nat.le_of_eq rfl) (hb hby at_154) (fun _ _ => ⟨rfl, rfl, (by decide : 6 + 0 ≤ _), (by decide : 35 + 0 ≤ _)⟩)
      dsimp only [Pt.U, Pt.locs, Pt.cells, Pt.slots] at X20 l20 y20 z20 st20 hQ20
      rw [l20, y20, z20] at X20
      obtain ⟨rfl, Nq20, Kq20, P20_0, P20_1, P20_2, P20_3, P20_4⟩ := hQ20
      have N20 := Fr.app N10 Nq20
      have f20_0 := f10_0.keep Kq20
      have f20_1 := f10_1.keep Kq20 (ninS ne5_b2 nin0)
      have f20_2 := f10_2.keep Kq20 (ninS ne5_b2 nin0)
      have f20_3 := f10_3.keep Kq20 (ninS ne5_b2 nin0)
      have f20_4 := f10_4.keep Kq20 (ninS ne5_b2 nin0)
      have f20_5 := f10_5.keep Kq20 (ninS ne5_b2 nin0)
      have f20_6 := f10_6.keep Kq20
      have f20_7 := f10_7.keep Kq20 (ninS ne5_b4 nin0)
      have f20_8 := f10_8.keep Kq20 (ninS ne5_b4 nin0)
      have f20_9 := f10_9.keep Kq20
      have f20_10 := P10_0.keep Kq20
      have f20_11 := P10_1.keep Kq20 (ninS (Ne.symm ne9_b5) nin0)
      have f20_12 := P10_2.keep Kq20 (ninS (Ne.symm ne9_b5) nin0)
      have f20_13 := P10_3.keep Kq20 (ninS (Ne.symm ne9_b5) nin0)
      have K20 : Keep h0 T20.heap [] := K10.trans Kq20 (allS (Or.inr sz5) all0)
      have Z20 : n0 ≤ T20.heap.size := Nat.le_trans Z10 Kq20.1
      have Fd20 := P20_1
      rw [own_hd_f hc123_11] at Fd20
      obtain ⟨cq21, kq21, q21a, q21b, q21c⟩ := isOf hZ rfl P20_0
      obtain ⟨_, _, ⟨T21, L21, k21, n21⟩, -, X21, ⟨Lc21, hQ21, l21, y21, z21⟩, st21⟩ := X20.virtualBack hx (y := (⟨"com/example/many_to_leader/manytoleader/bully/CandidatePool", "deadline", "()J"⟩ : MethodName)) (z := (⟨"com/example/many_to_leader/manytoleader/bully/CandidatePool", "deadline", "()J"⟩ : MethodName)) hown (mvT hZ (hw _ (List.mem_of_getElem? (i := 125) rfl))) (mvT hZ (hw _ (List.mem_of_getElem? (i := 126) rfl))) (notFace_of_selects (args := #[]) (mvT hZ (hw _ (List.mem_of_getElem? (i := 128) rfl)))) (mvT hZ (hw _ (List.mem_of_getElem? (i := 128) rfl))) (mvT hZ (hw _ (List.mem_of_getElem? (i := 127) rfl))) (by decide) (backOf (W := 0) (rm15 l Z aw hw [] b5 (q3 + (m0_0 p0 q1 q2 q3 q4)) (9223372036854775807 : Int64) T20.heap n0 Z20 Fd20 P20_3) hZ (hw _ (List.mem_of_getElem? (i := 129) rfl)) (hw _ (List.mem_of_getElem? (i := 31) rfl)) (by decide) (by decide)) q21a q21c (g := (mkF m 168 #[.val (.int p0), .val (.long q1), .second, .val (.long q2), .second, .val (.long q3), .second, .val (.long q4), .second, .val (.int (0 : Int32)), .val (.int p0), .val (.long (m0_0 p0 q1 q2 q3 q4)), .second, .val (.ref b4), .val (.ref b5), .val (.ref b9), .val (.long (9223372036854775807 : Int64)), .second, .val (.int (1 : Int32)), .val (.long (q3 + (m0_0 p0 q1 q2 q3 q4))), .second, .val (.int (f14 q3 (9223372036854775807 : Int64) (m0_0 p0 q1 q2 q3 q4) (9223372036854775807 : Int64) (0 : Int32))), .unset, .unset, .unset, .unset, .unset, .unset] [(.ref b5)])) rfl (by rw [hml]; rfl) (Steps.refl _) (argsL := []) (rest := []) (lenOf pd_0_6 rfl) rfl (by show 2 * 0 + _ ≤ _; exact Nat.le_of_eq rfl) (hb hby at_168) (fun _ _ => ⟨rfl, rfl, (by decide : 6 + 0 ≤ _), (by decide : 35 + 0 ≤ _)⟩)
      dsimp only [Pt.U, Pt.locs, Pt.cells, Pt.slots] at X21 l21 y21 z21 st21 hQ21
      rw [l21, y21, z21] at X21
      obtain ⟨rfl, Nq21, e21⟩ := hQ21
      have N21 := Fr.app N20 Nq21
      obtain ⟨cq22, kq22, q22a, q22b, q22c⟩ := isOf hZ e21 P20_0
      obtain ⟨_, _, ⟨T22, L22, k22, n22⟩, -, X22, ⟨Lc22, hQ22, l22, y22, z22⟩, st22⟩ := X21.virtualBack hx (y := (⟨"com/example/many_to_leader/manytoleader/bully/CandidatePool", "isCandidate", "()Z"⟩ : MethodName)) (z := (⟨"com/example/many_to_leader/manytoleader/bully/CandidatePool", "isCandidate", "()Z"⟩ : MethodName)) hown (mvT hZ (hw _ (List.mem_of_getElem? (i := 134) rfl))) (mvT hZ (hw _ (List.mem_of_getElem? (i := 135) rfl))) (notFace_of_selects (args := #[]) (mvT hZ (hw _ (List.mem_of_getElem? (i := 137) rfl)))) (mvT hZ (hw _ (List.mem_of_getElem? (i := 137) rfl))) (mvT hZ (hw _ (List.mem_of_getElem? (i := 136) rfl))) (by decide) (backOf (W := 0) (rm17c0 l Z aw hw [] b5 T20.heap n0 Z20 P20_4) hZ (hw _ (List.mem_of_getElem? (i := 138) rfl)) (hw _ (List.mem_of_getElem? (i := 31) rfl)) (by decide) (by decide)) q22a q22c (g := (mkF m 179 #[.val (.int p0), .val (.long q1), .second, .val (.long q2), .second, .val (.long q3), .second, .val (.long q4), .second, .val (.int (0 : Int32)), .val (.int p0), .val (.long (m0_0 p0 q1 q2 q3 q4)), .second, .val (.ref b4), .val (.ref b5), .val (.ref b9), .val (.long (9223372036854775807 : Int64)), .second, .val (.int (1 : Int32)), .val (.long (q3 + (m0_0 p0 q1 q2 q3 q4))), .second, .val (.int (f14 q3 (9223372036854775807 : Int64) (m0_0 p0 q1 q2 q3 q4) (9223372036854775807 : Int64) (0 : Int32))), .unset, .unset, .unset, .unset, .unset, .unset] [(.ref b5)])) rfl (by rw [hml]; rfl) (Steps.refl _) (argsL := []) (rest := []) (lenOf pd_0_7 rfl) rfl (by show 2 * 0 + _ ≤ _; exact Nat.le_of_eq rfl) (hb hby at_179) (fun _ _ => ⟨rfl, e21, (by decide : 6 + 0 ≤ _), (by decide : 35 + 0 ≤ _)⟩)
      dsimp only [Pt.U, Pt.locs, Pt.cells, Pt.slots] at X22 l22 y22 z22 st22 hQ22
      rw [l22, y22, z22] at X22
      obtain ⟨rfl, Nq22, e22⟩ := hQ22
      have N22 := Fr.app N21 Nq22
      refine own_back (b := T22.setTop (mkF m 199 #[.val (.int p0), .val (.long q1), .second, .val (.long q2), .second, .val (.long q3), .second, .val (.long q4), .second, .val (.int (0 : Int32)), .val (.int p0), .val (.long (m0_0 p0 q1 q2 q3 q4)), .second, .val (.ref b4), .val (.ref b5), .val (.ref b9), .val (.long (9223372036854775807 : Int64)), .second, .val (.int (1 : Int32)), .val (.long (q3 + (m0_0 p0 q1 q2 q3 q4))), .second, .val (.int (f14 q3 (9223372036854775807 : Int64) (m0_0 p0 q1 q2 q3 q4) (9223372036854775807 : Int64) (0 : Int32))), .val (.int (1 : Int32)), .unset, .unset, .unset, .unset, .unset] [(.int (lcmpW q4 (q3 + (m0_0 p0 q1 q2 q3 q4))))])) (fun t kt => ?_) ?_
      · show Steps p.tables e below (T10.setTop (mkF m 123 #[.val (.int p0), .val (.long q1), .second, .val (.long q2), .second, .val (.long q3), .second, .val (.long q4), .second, .val (.int (0 : Int32)), .val (.int p0), .val (.long (m0_0 p0 q1 q2 q3 q4)), .second, .val (.ref b4), .val (.ref b5), .val (.ref b9), .val (.long (9223372036854775807 : Int64)), .second, .unset, .unset, .unset, .unset, .unset, .unset, .unset, .unset, .unset, .unset] [(.int (lcmpW q3 (9223372036854775807 : Int64)))])) _
        refine XS.ifNo X10.here hx rfl (hb hby at_123) rfl ((if0 _ _).trans (flt (fun q => hc123_11 ((lw_lt _ _).mp q))).1) ?_
        refine XS.iconst X10.here hx rfl (hb hby at_126) ?_
        refine XS.goto X10.here hx rfl (pc0 := 127) (pc' := 131) rfl (hb hby at_127) (by decide) (by decide) ?_
        refine XS.istore X10.here hx rfl (hb hby at_131) rfl (l' := #[.val (.int p0), .val (.long q1), .second, .val (.long q2), .second, .val (.long q3), .second, .val (.long q4), .second, .val (.int (0 : Int32)), .val (.int p0), .val (.long (m0_0 p0 q1 q2 q3 q4)), .second, .val (.ref b4), .val (.ref b5), .val (.ref b9), .val (.long (9223372036854775807 : Int64)), .second, .val (.int (1 : Int32)), .unset, .unset, .unset, .unset, .unset, .unset, .unset, .unset, .unset]) rfl ?_
        refine XS.iload X10.here hx rfl (hb hby at_133) rfl ?_
        refine XS.ifNo X10.here hx rfl (hb hby at_135) rfl ((if0 _ _).trans (feq (by decide : ¬ ((1 : Int32) = (0 : Int32)))).1) ?_
        refine XS.lload X10.here hx rfl (hb hby at_138) rfl ?_
        show Steps p.tables e below (T10.setTop (mkF m 140 #[.val (.int p0), .val (.long q1), .second, .val (.long q2), .second, .val (.long q3), .second, .val (.long q4), .second, .val (.int (0 : Int32)), .val (.int p0), .val (.long (m0_0 p0 q1 q2 q3 q4)), .second, .val (.ref b4), .val (.ref b5), .val (.ref b9), .val (.long (9223372036854775807 : Int64)), .second, .val (.int (1 : Int32)), .unset, .unset, .unset, .unset, .unset, .unset, .unset, .unset, .unset] [(.long q3)])) _
        refine XS.lload X10.here hx rfl (hb hby at_140) rfl ?_
        refine XS.ladd X10.here hx rfl (hb hby at_142) rfl ?_
        refine XS.goto X10.here hx rfl (pc0 := 143) (pc' := 148) rfl (hb hby at_143) (by decide) (by decide) ?_
        refine XS.lstore X10.here hx rfl (hb hby at_148) rfl (l' := #[.val (.int p0), .val (.long q1), .second, .val (.long q2), .second, .val (.long q3), .second, .val (.long q4), .second, .val (.int (0 : Int32)), .val (.int p0), .val (.long (m0_0 p0 q1 q2 q3 q4)), .second, .val (.ref b4), .val (.ref b5), .val (.ref b9), .val (.long (9223372036854775807 : Int64)), .second, .val (.int (1 : Int32)), .val (.long (q3 + (m0_0 p0 q1 q2 q3 q4))), .second, .unset, .unset, .unset, .unset, .unset, .unset, .unset]) rfl ?_
        refine XS.aload X10.here hx rfl (hb hby at_150) rfl rfl ?_
        refine XS.lload X10.here hx rfl (hb hby at_152) rfl ?_
        show Steps p.tables e below (T10.setTop (mkF m 154 #[.val (.int p0), .val (.long q1), .second, .val (.long q2), .second, .val (.long q3), .second, .val (.long q4), .second, .val (.int (0 : Int32)), .val (.int p0), .val (.long (m0_0 p0 q1 q2 q3 q4)), .second, .val (.ref b4), .val (.ref b5), .val (.ref b9), .val (.long (9223372036854775807 : Int64)), .second, .val (.int (1 : Int32)), .val (.long (q3 + (m0_0 p0 q1 q2 q3 q4))), .second, .unset, .unset, .unset, .unset, .unset, .unset, .unset] [(.long q3), (.ref b5)])) _
        refine st20.trans ?_
        refine XS.istore X20.here hx rfl (hb hby at_157) rfl (l' := #[.val (.int p0), .val (.long q1), .second, .val (.long q2), .second, .val (.long q3), .second, .val (.long q4), .second, .val (.int (0 : Int32)), .val (.int p0), .val (.long (m0_0 p0 q1 q2 q3 q4)), .second, .val (.ref b4), .val (.ref b5), .val (.ref b9), .val (.long (9223372036854775807 : Int64)), .second, .val (.int (1 : Int32)), .val (.long (q3 + (m0_0 p0 q1 q2 q3 q4))), .second, .val (.int (f14 q3 (9223372036854775807 : Int64) (m0_0 p0 q1 q2 q3 q4) (9223372036854775807 : Int64) (0 : Int32))), .unset, .unset, .unset, .unset, .unset, .unset]) rfl ?_
        refine XS.iload X20.here hx rfl (hb hby at_159) rfl ?_
        refine XS.iload X20.here hx rfl (hb hby at_161) rfl ?_
        refine XS.icmpNo X20.here hx rfl (hb hby at_163) rfl (teq (own_due1 hc123_11)).2 ?_
        refine XS.aload X20.here hx rfl (hb hby at_166) rfl rfl ?_
        show Steps p.tables e below (T20.setTop (mkF m 168 #[.val (.int p0), .val (.long q1), .second, .val (.long q2), .second, .val (.long q3), .second, .val (.long q4), .second, .val (.int (0 : Int32)), .val (.int p0), .val (.long (m0_0 p0 q1 q2 q3 q4)), .second, .val (.ref b4), .val (.ref b5), .val (.ref b9), .val (.long (9223372036854775807 : Int64)), .second, .val (.int (1 : Int32)), .val (.long (q3 + (m0_0 p0 q1 q2 q3 q4))), .second, .val (.int (f14 q3 (9223372036854775807 : Int64) (m0_0 p0 q1 q2 q3 q4) (9223372036854775807 : Int64) (0 : Int32))), .unset, .unset, .unset, .unset, .unset, .unset] [(.ref b5)])) _
        refine st21.trans ?_
        refine XS.lload X21.here hx rfl (hb hby at_171) rfl ?_
        refine XS.lcmp X21.here hx rfl (hb hby at_173) rfl ?_
        refine XS.ifNo X21.here hx rfl (hb hby at_174) rfl ((if0 _ _).trans (teq ((lw_eq _ _).mpr (own_mint _))).2) ?_
        refine XS.aload X21.here hx rfl (hb hby at_177) rfl rfl ?_
        show Steps p.tables e below (T21.setTop (mkF m 179 #[.val (.int p0), .val (.long q1), .second, .val (.long q2), .second, .val (.long q3), .second, .val (.long q4), .second, .val (.int (0 : Int32)), .val (.int p0), .val (.long (m0_0 p0 q1 q2 q3 q4)), .second, .val (.ref b4), .val (.ref b5), .val (.ref b9), .val (.long (9223372036854775807 : Int64)), .second, .val (.int (1 : Int32)), .val (.long (q3 + (m0_0 p0 q1 q2 q3 q4))), .second, .val (.int (f14 q3 (9223372036854775807 : Int64) (m0_0 p0 q1 q2 q3 q4) (9223372036854775807 : Int64) (0 : Int32))), .unset, .unset, .unset, .unset, .unset, .unset] [(.ref b5)])) _
        refine st22.trans ?_
        refine XS.iload X22.here hx rfl (hb hby at_182) rfl ?_
        refine XS.icmpNo X22.here hx rfl (hb hby at_184) rfl (teq (by decide : (0 : Int32) = (0 : Int32))).2 ?_
        refine XS.iconst X22.here hx rfl (hb hby at_187) ?_
        refine XS.goto X22.here hx rfl (pc0 := 188) (pc' := 192) rfl (hb hby at_188) (by decide) (by decide) ?_
        refine XS.istore X22.here hx rfl (hb hby at_192) rfl (l' := #[.val (.int p0), .val (.long q1), .second, .val (.long q2), .second, .val (.long q3), .second, .val (.long q4), .second, .val (.int (0 : Int32)), .val (.int p0), .val (.long (m0_0 p0 q1 q2 q3 q4)), .second, .val (.ref b4), .val (.ref b5), .val (.ref b9), .val (.long (9223372036854775807 : Int64)), .second, .val (.int (1 : Int32)), .val (.long (q3 + (m0_0 p0 q1 q2 q3 q4))), .second, .val (.int (f14 q3 (9223372036854775807 : Int64) (m0_0 p0 q1 q2 q3 q4) (9223372036854775807 : Int64) (0 : Int32))), .val (.int (1 : Int32)), .unset, .unset, .unset, .unset, .unset]) rfl ?_
        refine XS.lload X22.here hx rfl (hb hby at_194) rfl ?_
        show Steps p.tables e below (T22.setTop (mkF m 196 #[.val (.int p0), .val (.long q1), .second, .val (.long q2), .second, .val (.long q3), .second, .val (.long q4), .second, .val (.int (0 : Int32)), .val (.int p0), .val (.long (m0_0 p0 q1 q2 q3 q4)), .second, .val (.ref b4), .val (.ref b5), .val (.ref b9), .val (.long (9223372036854775807 : Int64)), .second, .val (.int (1 : Int32)), .val (.long (q3 + (m0_0 p0 q1 q2 q3 q4))), .second, .val (.int (f14 q3 (9223372036854775807 : Int64) (m0_0 p0 q1 q2 q3 q4) (9223372036854775807 : Int64) (0 : Int32))), .val (.int (1 : Int32)), .unset, .unset, .unset, .unset, .unset] [(.long q4)])) _
        refine XS.lload X22.here hx rfl (hb hby at_196) rfl ?_
        refine XS.lcmp X22.here hx rfl (hb hby at_198) rfl ?_
        exact kt
      by_cases hc199_23 : q4 < (q3 + (m0_0 p0 q1 q2 q3 q4))
      · obtain ⟨cq24, kq24, q24a, q24b, q24c⟩ := isOf hZ e22 P20_0
        obtain ⟨_, _, ⟨T24, L24, k24, n24⟩, -, X24, ⟨Lc24, hQ24, l24, y24, z24⟩, st24⟩ := X22.virtualBack hx (y := (⟨"com/example/many_to_leader/manytoleader/bully/CandidatePool", "heartbeatDue", "(J)Z"⟩ : MethodName)) (z := (⟨"com/example/many_to_leader/manytoleader/bully/CandidatePool", "heartbeatDue", "(J)Z"⟩ : MethodName)) hown (mvT hZ (hw _ (List.mem_of_getElem? (i := 120) rfl))) (mvT hZ (hw _ (List.mem_of_getElem? (i := 121) rfl))) (notFace_of_selects (args := #[]) (mvT hZ (hw _ (List.mem_of_getElem? (i := 123) rfl)))) (mvT hZ (hw _ (List.mem_of_getElem? (i := 123) rfl))) (mvT hZ (hw _ (List.mem_of_getElem? (i := 122) rfl))) (by decide) (backOf (W := 0) (rm14 l Z aw hw [] b5 q4 (q3 + (m0_0 p0 q1 q2 q3 q4)) (m0_0 p0 q1 q2 q3 q4) (9223372036854775807 : Int64) (0 : Int32) T20.heap n0 Z20 P20_0 lo5 Fd20 P20_2 P20_3 P20_4) hZ (hw _ (List.mem_of_getElem? (i := 124) rfl)) (hw _ (List.mem_of_getElem? (i := 31) rfl)) (by decide) (by decide)) q24a q24c (g := (mkF m 230 #[.val (.int p0), .val (.long q1), .second, .val (.long q2), .second, .val (.long q3), .second, .val (.long q4), .second, .val (.int (0 : Int32)), .val (.int p0), .val (.long (m0_0 p0 q1 q2 q3 q4)), .second, .val (.ref b4), .val (.ref b5), .val (.ref b9), .val (.long (9223372036854775807 : Int64)), .second, .val (.int (1 : Int32)), .val (.long (q3 + (m0_0 p0 q1 q2 q3 q4))), .second, .val (.int (f14 q3 (9223372036854775807 : Int64) (m0_0 p0 q1 q2 q3 q4) (9223372036854775807 : Int64) (0 : Int32))), .val (.int (1 : Int32)), .val (.int (0 : Int32)), .val (.long (q3 + (m0_0 p0 q1 q2 q3 q4))), .second, .unset, .unset] [(.long q4), (.ref b5)])) rfl (by rw [hml]; rfl) (Steps.refl _) (argsL := [(.long q4)]) (rest := []) (lenOf pd_0_5 rfl) rfl (by show 2 * 0 + _ ≤ _; exact Nat.le_of_eq rfl) (hb hby at_230) (fun _ _ => ⟨rfl, e22, (by decide : 6 + 0 ≤ _), (by decide : 35 + 0 ≤ _)⟩)
        dsimp only [Pt.U, Pt.locs, Pt.cells, Pt.slots] at X24 l24 y24 z24 st24 hQ24
        rw [l24, y24, z24] at X24
        obtain ⟨rfl, Nq24, Kq24, P24_0, P24_1, P24_2, P24_3, P24_4⟩ := hQ24
        have N24 := Fr.app N22 Nq24
        have f24_0 := f20_0.keep Kq24
        have f24_1 := f20_1.keep Kq24 (ninS ne5_b2 nin0)
        have f24_2 := f20_2.keep Kq24 (ninS ne5_b2 nin0)
        have f24_3 := f20_3.keep Kq24 (ninS ne5_b2 nin0)
        have f24_4 := f20_4.keep Kq24 (ninS ne5_b2 nin0)
        have f24_5 := f20_5.keep Kq24 (ninS ne5_b2 nin0)
        have f24_6 := f20_6.keep Kq24
        have f24_7 := f20_7.keep Kq24 (ninS ne5_b4 nin0)
        have f24_8 := f20_8.keep Kq24 (ninS ne5_b4 nin0)
        have f24_9 := f20_9.keep Kq24
        have f24_10 := f20_10.keep Kq24
        have f24_11 := f20_11.keep Kq24 (ninS (Ne.symm ne9_b5) nin0)
        have f24_12 := f20_12.keep Kq24 (ninS (Ne.symm ne9_b5) nin0)
        have f24_13 := f20_13.keep Kq24 (ninS (Ne.symm ne9_b5) nin0)
        have K24 : Keep h0 T24.heap [] := K20.trans Kq24 (allS (Or.inr sz5) all0)
        have Z24 : n0 ≤ T24.heap.size := Nat.le_trans Z20 Kq24.1
        have Fd24 := P24_1
        rw [own_hd_t hc199_23] at Fd24
        obtain ⟨cq25, kq25, q25a, q25b, q25c⟩ := isOf hZ rfl P24_0
        obtain ⟨_, _, ⟨T25, L25, k25, n25⟩, -, X25, ⟨Lc25, hQ25, l25, y25, z25⟩, st25⟩ := X24.virtualBack hx (y := (⟨"com/example/many_to_leader/manytoleader/bully/CandidatePool", "deadline", "()J"⟩ : MethodName)) (z := (⟨"com/example/many_to_leader/manytoleader/bully/CandidatePool", "deadline", "()J"⟩ : MethodName)) hown (mvT hZ (hw _ (List.mem_of_getElem? (i := 125) rfl))) (mvT hZ (hw _ (List.mem_of_getElem? (i := 126) rfl))) (notFace_of_selects (args := #[]) (mvT hZ (hw _ (List.mem_of_getElem? (i := 128) rfl)))) (mvT hZ (hw _ (List.mem_of_getElem? (i := 128) rfl))) (mvT hZ (hw _ (List.mem_of_getElem? (i := 127) rfl))) (by decide) (backOf (W := 0) (rm15 l Z aw hw [] b5 (q3 + (m0_0 p0 q1 q2 q3 q4)) (9223372036854775807 : Int64) T24.heap n0 Z24 Fd24 P24_3) hZ (hw _ (List.mem_of_getElem? (i := 129) rfl)) (hw _ (List.mem_of_getElem? (i := 31) rfl)) (by decide) (by decide)) q25a q25c (g := (mkF m 244 #[.val (.int p0), .val (.long q1), .second, .val (.long q2), .second, .val (.long q3), .second, .val (.long q4), .second, .val (.int (0 : Int32)), .val (.int p0), .val (.long (m0_0 p0 q1 q2 q3 q4)), .second, .val (.ref b4), .val (.ref b5), .val (.ref b9), .val (.long (9223372036854775807 : Int64)), .second, .val (.int (1 : Int32)), .val (.long (q3 + (m0_0 p0 q1 q2 q3 q4))), .second, .val (.int (f14 q3 (9223372036854775807 : Int64) (m0_0 p0 q1 q2 q3 q4) (9223372036854775807 : Int64) (0 : Int32))), .val (.int (1 : Int32)), .val (.int (0 : Int32)), .val (.long (q3 + (m0_0 p0 q1 q2 q3 q4))), .second, .val (.int (f14 q4 (q3 + (m0_0 p0 q1 q2 q3 q4)) (m0_0 p0 q1 q2 q3 q4) (9223372036854775807 : Int64) (0 : Int32))), .unset] [(.ref b5)])) rfl (by rw [hml]; rfl) (Steps.refl _) (argsL := []) (rest := []) (lenOf pd_0_6 rfl) rfl (by show 2 * 0 + _ ≤ _; exact Nat.le_of_eq rfl) (hb hby at_244) (fun _ _ => ⟨rfl, rfl, (by decide : 6 + 0 ≤ _), (by decide : 35 + 0 ≤ _)⟩)
        dsimp only [Pt.U, Pt.locs, Pt.cells, Pt.slots] at X25 l25 y25 z25 st25 hQ25
        rw [l25, y25, z25] at X25
        obtain ⟨rfl, Nq25, e25⟩ := hQ25
        have N25 := Fr.app N24 Nq25
        refine own_back (b := T25.setTop (mkF m 275 #[.val (.int p0), .val (.long q1), .second, .val (.long q2), .second, .val (.long q3), .second, .val (.long q4), .second, .val (.int (0 : Int32)), .val (.int p0), .val (.long (m0_0 p0 q1 q2 q3 q4)), .second, .val (.ref b4), .val (.ref b5), .val (.ref b9), .val (.long (9223372036854775807 : Int64)), .second, .val (.int (1 : Int32)), .val (.long (q3 + (m0_0 p0 q1 q2 q3 q4))), .second, .val (.int (f14 q3 (9223372036854775807 : Int64) (m0_0 p0 q1 q2 q3 q4) (9223372036854775807 : Int64) (0 : Int32))), .val (.int (1 : Int32)), .val (.int (0 : Int32)), .val (.long (q3 + (m0_0 p0 q1 q2 q3 q4))), .second, .val (.int (f14 q4 (q3 + (m0_0 p0 q1 q2 q3 q4)) (m0_0 p0 q1 q2 q3 q4) (9223372036854775807 : Int64) (0 : Int32))), .val (.int (1 : Int32))] [(.int (1 : Int32))])) (fun t kt => ?_) ?_
        · show Steps p.tables e below (T22.setTop (mkF m 199 #[.val (.int p0), .val (.long q1), .second, .val (.long q2), .second, .val (.long q3), .second, .val (.long q4), .second, .val (.int (0 : Int32)), .val (.int p0), .val (.long (m0_0 p0 q1 q2 q3 q4)), .second, .val (.ref b4), .val (.ref b5), .val (.ref b9), .val (.long (9223372036854775807 : Int64)), .second, .val (.int (1 : Int32)), .val (.long (q3 + (m0_0 p0 q1 q2 q3 q4))), .second, .val (.int (f14 q3 (9223372036854775807 : Int64) (m0_0 p0 q1 q2 q3 q4) (9223372036854775807 : Int64) (0 : Int32))), .val (.int (1 : Int32)), .unset, .unset, .unset, .unset, .unset] [(.int (lcmpW q4 (q3 + (m0_0 p0 q1 q2 q3 q4))))])) _
          refine XS.ifYes X22.here hx rfl (pc0 := 199) (pc' := 206) rfl (hb hby at_199) rfl ((if0 _ _).trans (tlt ((lw_lt _ _).mpr hc199_23)).1) (by decide) (by decide) ?_
          refine XS.iconst X22.here hx rfl (hb hby at_206) ?_
          refine XS.istore X22.here hx rfl (hb hby at_207) rfl (l' := #[.val (.int p0), .val (.long q1), .second, .val (.long q2), .second, .val (.long q3), .second, .val (.long q4), .second, .val (.int (0 : Int32)), .val (.int p0), .val (.long (m0_0 p0 q1 q2 q3 q4)), .second, .val (.ref b4), .val (.ref b5), .val (.ref b9), .val (.long (9223372036854775807 : Int64)), .second, .val (.int (1 : Int32)), .val (.long (q3 + (m0_0 p0 q1 q2 q3 q4))), .second, .val (.int (f14 q3 (9223372036854775807 : Int64) (m0_0 p0 q1 q2 q3 q4) (9223372036854775807 : Int64) (0 : Int32))), .val (.int (1 : Int32)), .val (.int (0 : Int32)), .unset, .unset, .unset, .unset]) rfl ?_
          refine XS.iload X22.here hx rfl (hb hby at_209) rfl ?_
          refine XS.ifYes X22.here hx rfl (pc0 := 211) (pc' := 222) rfl (hb hby at_211) rfl ((if0 _ _).trans (teq (by decide : (0 : Int32) = (0 : Int32))).1) (by decide) (by decide) ?_
          refine XS.lload X22.here hx rfl (hb hby at_222) rfl ?_
          refine XS.lstore X22.here hx rfl (hb hby at_224) rfl (l' := #[.val (.int p0), .val (.long q1), .second, .val (.long q2), .second, .val (.long q3), .second, .val (.long q4), .second, .val (.int (0 : Int32)), .val (.int p0), .val (.long (m0_0 p0 q1 q2 q3 q4)), .second, .val (.ref b4), .val (.ref b5), .val (.ref b9), .val (.long (9223372036854775807 : Int64)), .second, .val (.int (1 : Int32)), .val (.long (q3 + (m0_0 p0 q1 q2 q3 q4))), .second, .val (.int (f14 q3 (9223372036854775807 : Int64) (m0_0 p0 q1 q2 q3 q4) (9223372036854775807 : Int64) (0 : Int32))), .val (.int (1 : Int32)), .val (.int (0 : Int32)), .val (.long (q3 + (m0_0 p0 q1 q2 q3 q4))), .second, .unset, .unset]) rfl ?_
          show Steps p.tables e below (T22.setTop (mkF m 226 #[.val (.int p0), .val (.long q1), .second, .val (.long q2), .second, .val (.long q3), .second, .val (.long q4), .second, .val (.int (0 : Int32)), .val (.int p0), .val (.long (m0_0 p0 q1 q2 q3 q4)), .second, .val (.ref b4), .val (.ref b5), .val (.ref b9), .val (.long (9223372036854775807 : Int64)), .second, .val (.int (1 : Int32)), .val (.long (q3 + (m0_0 p0 q1 q2 q3 q4))), .second, .val (.int (f14 q3 (9223372036854775807 : Int64) (m0_0 p0 q1 q2 q3 q4) (9223372036854775807 : Int64) (0 : Int32))), .val (.int (1 : Int32)), .val (.int (0 : Int32)), .val (.long (q3 + (m0_0 p0 q1 q2 q3 q4))), .second, .unset, .unset] [])) _
          refine XS.aload X22.here hx rfl (hb hby at_226) rfl rfl ?_
          refine XS.lload X22.here hx rfl (hb hby at_228) rfl ?_
          show Steps p.tables e below (T22.setTop (mkF m 230 #[.val (.int p0), .val (.long q1), .second, .val (.long q2), .second, .val (.long q3), .second, .val (.long q4), .second, .val (.int (0 : Int32)), .val (.int p0), .val (.long (m0_0 p0 q1 q2 q3 q4)), .second, .val (.ref b4), .val (.ref b5), .val (.ref b9), .val (.long (9223372036854775807 : Int64)), .second, .val (.int (1 : Int32)), .val (.long (q3 + (m0_0 p0 q1 q2 q3 q4))), .second, .val (.int (f14 q3 (9223372036854775807 : Int64) (m0_0 p0 q1 q2 q3 q4) (9223372036854775807 : Int64) (0 : Int32))), .val (.int (1 : Int32)), .val (.int (0 : Int32)), .val (.long (q3 + (m0_0 p0 q1 q2 q3 q4))), .second, .unset, .unset] [(.long q4), (.ref b5)])) _
          refine st24.trans ?_
          refine XS.istore X24.here hx rfl (hb hby at_233) rfl (l' := #[.val (.int p0), .val (.long q1), .second, .val (.long q2), .second, .val (.long q3), .second, .val (.long q4), .second, .val (.int (0 : Int32)), .val (.int p0), .val (.long (m0_0 p0 q1 q2 q3 q4)), .second, .val (.ref b4), .val (.ref b5), .val (.ref b9), .val (.long (9223372036854775807 : Int64)), .second, .val (.int (1 : Int32)), .val (.long (q3 + (m0_0 p0 q1 q2 q3 q4))), .second, .val (.int (f14 q3 (9223372036854775807 : Int64) (m0_0 p0 q1 q2 q3 q4) (9223372036854775807 : Int64) (0 : Int32))), .val (.int (1 : Int32)), .val (.int (0 : Int32)), .val (.long (q3 + (m0_0 p0 q1 q2 q3 q4))), .second, .val (.int (f14 q4 (q3 + (m0_0 p0 q1 q2 q3 q4)) (m0_0 p0 q1 q2 q3 q4) (9223372036854775807 : Int64) (0 : Int32))), .unset]) rfl ?_
          refine XS.iload X24.here hx rfl (hb hby at_235) rfl ?_
          refine XS.iload X24.here hx rfl (hb hby at_237) rfl ?_
          refine XS.icmpNo X24.here hx rfl (hb hby at_239) rfl (teq (own_due0 hc199_23)).2 ?_
          refine XS.aload X24.here hx rfl (hb hby at_242) rfl rfl ?_
          show Steps p.tables e below (T24.setTop (mkF m 244 #[.val (.int p0), .val (.long q1), .second, .val (.long q2), .second, .val (.long q3), .second, .val (.long q4), .second, .val (.int (0 : Int32)), .val (.int p0), .val (.long (m0_0 p0 q1 q2 q3 q4)), .second, .val (.ref b4), .val (.ref b5), .val (.ref b9), .val (.long (9223372036854775807 : Int64)), .second, .val (.int (1 : Int32)), .val (.long (q3 + (m0_0 p0 q1 q2 q3 q4))), .second, .val (.int (f14 q3 (9223372036854775807 : Int64) (m0_0 p0 q1 q2 q3 q4) (9223372036854775807 : Int64) (0 : Int32))), .val (.int (1 : Int32)), .val (.int (0 : Int32)), .val (.long (q3 + (m0_0 p0 q1 q2 q3 q4))), .second, .val (.int (f14 q4 (q3 + (m0_0 p0 q1 q2 q3 q4)) (m0_0 p0 q1 q2 q3 q4) (9223372036854775807 : Int64) (0 : Int32))), .unset] [(.ref b5)])) _
          refine st25.trans ?_
          refine XS.lload X25.here hx rfl (hb hby at_247) rfl ?_
          refine XS.lcmp X25.here hx rfl (hb hby at_249) rfl ?_
          refine XS.ifNo X25.here hx rfl (hb hby at_250) rfl ((if0 _ _).trans (teq ((lw_eq _ _).mpr (own_mint _))).2) ?_
          refine XS.iconst X25.here hx rfl (hb hby at_253) ?_
          refine XS.goto X25.here hx rfl (pc0 := 254) (pc' := 258) rfl (hb hby at_254) (by decide) (by decide) ?_
          refine XS.istore X25.here hx rfl (hb hby at_258) rfl (l' := #[.val (.int p0), .val (.long q1), .second, .val (.long q2), .second, .val (.long q3), .second, .val (.long q4), .second, .val (.int (0 : Int32)), .val (.int p0), .val (.long (m0_0 p0 q1 q2 q3 q4)), .second, .val (.ref b4), .val (.ref b5), .val (.ref b9), .val (.long (9223372036854775807 : Int64)), .second, .val (.int (1 : Int32)), .val (.long (q3 + (m0_0 p0 q1 q2 q3 q4))), .second, .val (.int (f14 q3 (9223372036854775807 : Int64) (m0_0 p0 q1 q2 q3 q4) (9223372036854775807 : Int64) (0 : Int32))), .val (.int (1 : Int32)), .val (.int (0 : Int32)), .val (.long (q3 + (m0_0 p0 q1 q2 q3 q4))), .second, .val (.int (f14 q4 (q3 + (m0_0 p0 q1 q2 q3 q4)) (m0_0 p0 q1 q2 q3 q4) (9223372036854775807 : Int64) (0 : Int32))), .val (.int (1 : Int32))]) rfl ?_
          show Steps p.tables e below (T25.setTop (mkF m 260 #[.val (.int p0), .val (.long q1), .second, .val (.long q2), .second, .val (.long q3), .second, .val (.long q4), .second, .val (.int (0 : Int32)), .val (.int p0), .val (.long (m0_0 p0 q1 q2 q3 q4)), .second, .val (.ref b4), .val (.ref b5), .val (.ref b9), .val (.long (9223372036854775807 : Int64)), .second, .val (.int (1 : Int32)), .val (.long (q3 + (m0_0 p0 q1 q2 q3 q4))), .second, .val (.int (f14 q3 (9223372036854775807 : Int64) (m0_0 p0 q1 q2 q3 q4) (9223372036854775807 : Int64) (0 : Int32))), .val (.int (1 : Int32)), .val (.int (0 : Int32)), .val (.long (q3 + (m0_0 p0 q1 q2 q3 q4))), .second, .val (.int (f14 q4 (q3 + (m0_0 p0 q1 q2 q3 q4)) (m0_0 p0 q1 q2 q3 q4) (9223372036854775807 : Int64) (0 : Int32))), .val (.int (1 : Int32))] [])) _
          refine XS.iload X25.here hx rfl (hb hby at_260) rfl ?_
          refine XS.ifNo X25.here hx rfl (hb hby at_262) rfl ((if0 _ _).trans (feq (by decide : ¬ ((1 : Int32) = (0 : Int32)))).1) ?_
          refine XS.iload X25.here hx rfl (hb hby at_265) rfl ?_
          refine XS.ifNo X25.here hx rfl (hb hby at_267) rfl ((if0 _ _).trans (feq (by decide : ¬ ((1 : Int32) = (0 : Int32)))).1) ?_
          refine XS.iconst X25.here hx rfl (hb hby at_270) ?_
          refine XS.goto X25.here hx rfl (pc0 := 271) (pc' := 275) rfl (hb hby at_271) (by decide) (by decide) ?_
          exact kt
        obtain ⟨fs, hr, hrun, hended, hW, hsame⟩ := X25.leave (v := some (.int (1 : Int32))) (fun h => by rw [Bd.returns] at h; cases h) (BodyLoose.notSynchronized Bd)
        refine ⟨_, _, ?_, hrun, hended, _, _, rfl, ?_, ⟨_, rfl⟩, hW, hsame.mono (by decide) (by decide)⟩
        · show Steps p.tables e below (T25.setTop (mkF m 275 #[.val (.int p0), .val (.long q1), .second, .val (.long q2), .second, .val (.long q3), .second, .val (.long q4), .second, .val (.int (0 : Int32)), .val (.int p0), .val (.long (m0_0 p0 q1 q2 q3 q4)), .second, .val (.ref b4), .val (.ref b5), .val (.ref b9), .val (.long (9223372036854775807 : Int64)), .second, .val (.int (1 : Int32)), .val (.long (q3 + (m0_0 p0 q1 q2 q3 q4))), .second, .val (.int (f14 q3 (9223372036854775807 : Int64) (m0_0 p0 q1 q2 q3 q4) (9223372036854775807 : Int64) (0 : Int32))), .val (.int (1 : Int32)), .val (.int (0 : Int32)), .val (.long (q3 + (m0_0 p0 q1 q2 q3 q4))), .second, .val (.int (f14 q4 (q3 + (m0_0 p0 q1 q2 q3 q4)) (m0_0 p0 q1 q2 q3 q4) (9223372036854775807 : Int64) (0 : Int32))), .val (.int (1 : Int32))] [(.int (1 : Int32))])) _
          exact retN X25 hx (t := .boolean) Bd.returns (by simp) (hb hby at_275) hr
        · show Q0 Z p0 q1 q2 q3 q4 wd kd wc h0 n0 _ T25.heap _
          rw [e25]
          exact ⟨by rw [show f0 p0 q1 q2 q3 q4 = (1 : Int32) from by unfold f0; rw [if_pos hc3_1, if_neg hc123_11, if_pos hc199_23]], N25⟩
      · obtain ⟨cq26, kq26, q26a, q26b, q26c⟩ := isOf hZ e22 P20_0
        obtain ⟨_, _, ⟨T26, L26, k26, n26⟩, -, X26, ⟨Lc26, hQ26, l26, y26, z26⟩, st26⟩ := X22.virtualBack hx (y := (⟨"com/example/many_to_leader/manytoleader/bully/CandidatePool", "heartbeatDue", "(J)Z"⟩ : MethodName)) (z := (⟨"com/example/many_to_leader/manytoleader/bully/CandidatePool", "heartbeatDue", "(J)Z"⟩ : MethodName)) hown (mvT hZ (hw _ (List.mem_of_getElem? (i := 120) rfl))) (mvT hZ (hw _ (List.mem_of_getElem? (i := 121) rfl))) (notFace_of_selects (args := #[]) (mvT hZ (hw _ (List.mem_of_getElem? (i := 123) rfl)))) (mvT hZ (hw _ (List.mem_of_getElem? (i := 123) rfl))) (mvT hZ (hw _ (List.mem_of_getElem? (i := 122) rfl))) (by decide) (backOf (W := 0) (rm14 l Z aw hw [] b5 q4 (q3 + (m0_0 p0 q1 q2 q3 q4)) (m0_0 p0 q1 q2 q3 q4) (9223372036854775807 : Int64) (0 : Int32) T20.heap n0 Z20 P20_0 lo5 Fd20 P20_2 P20_3 P20_4) hZ (hw _ (List.mem_of_getElem? (i := 124) rfl)) (hw _ (List.mem_of_getElem? (i := 31) rfl)) (by decide) (by decide)) q26a q26c (g := (mkF m 230 #[.val (.int p0), .val (.long q1), .second, .val (.long q2), .second, .val (.long q3), .second, .val (.long q4), .second, .val (.int (0 : Int32)), .val (.int p0), .val (.long (m0_0 p0 q1 q2 q3 q4)), .second, .val (.ref b4), .val (.ref b5), .val (.ref b9), .val (.long (9223372036854775807 : Int64)), .second, .val (.int (1 : Int32)), .val (.long (q3 + (m0_0 p0 q1 q2 q3 q4))), .second, .val (.int (f14 q3 (9223372036854775807 : Int64) (m0_0 p0 q1 q2 q3 q4) (9223372036854775807 : Int64) (0 : Int32))), .val (.int (1 : Int32)), .val (.int (1 : Int32)), .val (.long (q4 + (m0_0 p0 q1 q2 q3 q4))), .second, .unset, .unset] [(.long q4), (.ref b5)])) rfl (by rw [hml]; rfl) (Steps.refl _) (argsL := [(.long q4)]) (rest := []) (lenOf pd_0_5 rfl) rfl (by show 2 * 0 + _ ≤ _; exact Nat.le_of_eq rfl) (hb hby at_230) (fun _ _ => ⟨rfl, e22, (by decide : 6 + 0 ≤ _), (by decide : 35 + 0 ≤ _)⟩)
        dsimp only [Pt.U, Pt.locs, Pt.cells, Pt.slots] at X26 l26 y26 z26 st26 hQ26
        rw [l26, y26, z26] at X26
        obtain ⟨rfl, Nq26, Kq26, P26_0, P26_1, P26_2, P26_3, P26_4⟩ := hQ26
        have N26 := Fr.app N22 Nq26
        have f26_0 := f20_0.keep Kq26
        have f26_1 := f20_1.keep Kq26 (ninS ne5_b2 nin0)
        have f26_2 := f20_2.keep Kq26 (ninS ne5_b2 nin0)
        have f26_3 := f20_3.keep Kq26 (ninS ne5_b2 nin0)
        have f26_4 := f20_4.keep Kq26 (ninS ne5_b2 nin0)
        have f26_5 := f20_5.keep Kq26 (ninS ne5_b2 nin0)
        have f26_6 := f20_6.keep Kq26
        have f26_7 := f20_7.keep Kq26 (ninS ne5_b4 nin0)
        have f26_8 := f20_8.keep Kq26 (ninS ne5_b4 nin0)
        have f26_9 := f20_9.keep Kq26
        have f26_10 := f20_10.keep Kq26
        have f26_11 := f20_11.keep Kq26 (ninS (Ne.symm ne9_b5) nin0)
        have f26_12 := f20_12.keep Kq26 (ninS (Ne.symm ne9_b5) nin0)
        have f26_13 := f20_13.keep Kq26 (ninS (Ne.symm ne9_b5) nin0)
        have K26 : Keep h0 T26.heap [] := K20.trans Kq26 (allS (Or.inr sz5) all0)
        have Z26 : n0 ≤ T26.heap.size := Nat.le_trans Z20 Kq26.1
        have Fd26 := P26_1
        rw [own_hd_f hc199_23] at Fd26
        obtain ⟨cq27, kq27, q27a, q27b, q27c⟩ := isOf hZ rfl P26_0
        obtain ⟨_, _, ⟨T27, L27, k27, n27⟩, -, X27, ⟨Lc27, hQ27, l27, y27, z27⟩, st27⟩ := X26.virtualBack hx (y := (⟨"com/example/many_to_leader/manytoleader/bully/CandidatePool", "deadline", "()J"⟩ : MethodName)) (z := (⟨"com/example/many_to_leader/manytoleader/bully/CandidatePool", "deadline", "()J"⟩ : MethodName)) hown (mvT hZ (hw _ (List.mem_of_getElem? (i := 125) rfl))) (mvT hZ (hw _ (List.mem_of_getElem? (i := 126) rfl))) (notFace_of_selects (args := #[]) (mvT hZ (hw _ (List.mem_of_getElem? (i := 128) rfl)))) (mvT hZ (hw _ (List.mem_of_getElem? (i := 128) rfl))) (mvT hZ (hw _ (List.mem_of_getElem? (i := 127) rfl))) (by decide) (backOf (W := 0) (rm15 l Z aw hw [] b5 (q4 + (m0_0 p0 q1 q2 q3 q4)) (9223372036854775807 : Int64) T26.heap n0 Z26 Fd26 P26_3) hZ (hw _ (List.mem_of_getElem? (i := 129) rfl)) (hw _ (List.mem_of_getElem? (i := 31) rfl)) (by decide) (by decide)) q27a q27c (g := (mkF m 244 #[.val (.int p0), .val (.long q1), .second, .val (.long q2), .second, .val (.long q3), .second, .val (.long q4), .second, .val (.int (0 : Int32)), .val (.int p0), .val (.long (m0_0 p0 q1 q2 q3 q4)), .second, .val (.ref b4), .val (.ref b5), .val (.ref b9), .val (.long (9223372036854775807 : Int64)), .second, .val (.int (1 : Int32)), .val (.long (q3 + (m0_0 p0 q1 q2 q3 q4))), .second, .val (.int (f14 q3 (9223372036854775807 : Int64) (m0_0 p0 q1 q2 q3 q4) (9223372036854775807 : Int64) (0 : Int32))), .val (.int (1 : Int32)), .val (.int (1 : Int32)), .val (.long (q4 + (m0_0 p0 q1 q2 q3 q4))), .second, .val (.int (f14 q4 (q3 + (m0_0 p0 q1 q2 q3 q4)) (m0_0 p0 q1 q2 q3 q4) (9223372036854775807 : Int64) (0 : Int32))), .unset] [(.ref b5)])) rfl (by rw [hml]; rfl) (Steps.refl _) (argsL := []) (rest := []) (lenOf pd_0_6 rfl) rfl (by show 2 * 0 + _ ≤ _; exact Nat.le_of_eq rfl) (hb hby at_244) (fun _ _ => ⟨rfl, rfl, (by decide : 6 + 0 ≤ _), (by decide : 35 + 0 ≤ _)⟩)
        dsimp only [Pt.U, Pt.locs, Pt.cells, Pt.slots] at X27 l27 y27 z27 st27 hQ27
        rw [l27, y27, z27] at X27
        obtain ⟨rfl, Nq27, e27⟩ := hQ27
        have N27 := Fr.app N26 Nq27
        refine own_back (b := T27.setTop (mkF m 275 #[.val (.int p0), .val (.long q1), .second, .val (.long q2), .second, .val (.long q3), .second, .val (.long q4), .second, .val (.int (0 : Int32)), .val (.int p0), .val (.long (m0_0 p0 q1 q2 q3 q4)), .second, .val (.ref b4), .val (.ref b5), .val (.ref b9), .val (.long (9223372036854775807 : Int64)), .second, .val (.int (1 : Int32)), .val (.long (q3 + (m0_0 p0 q1 q2 q3 q4))), .second, .val (.int (f14 q3 (9223372036854775807 : Int64) (m0_0 p0 q1 q2 q3 q4) (9223372036854775807 : Int64) (0 : Int32))), .val (.int (1 : Int32)), .val (.int (1 : Int32)), .val (.long (q4 + (m0_0 p0 q1 q2 q3 q4))), .second, .val (.int (f14 q4 (q3 + (m0_0 p0 q1 q2 q3 q4)) (m0_0 p0 q1 q2 q3 q4) (9223372036854775807 : Int64) (0 : Int32))), .val (.int (1 : Int32))] [(.int (1 : Int32))])) (fun t kt => ?_) ?_
        · show Steps p.tables e below (T22.setTop (mkF m 199 #[.val (.int p0), .val (.long q1), .second, .val (.long q2), .second, .val (.long q3), .second, .val (.long q4), .second, .val (.int (0 : Int32)), .val (.int p0), .val (.long (m0_0 p0 q1 q2 q3 q4)), .second, .val (.ref b4), .val (.ref b5), .val (.ref b9), .val (.long (9223372036854775807 : Int64)), .second, .val (.int (1 : Int32)), .val (.long (q3 + (m0_0 p0 q1 q2 q3 q4))), .second, .val (.int (f14 q3 (9223372036854775807 : Int64) (m0_0 p0 q1 q2 q3 q4) (9223372036854775807 : Int64) (0 : Int32))), .val (.int (1 : Int32)), .unset, .unset, .unset, .unset, .unset] [(.int (lcmpW q4 (q3 + (m0_0 p0 q1 q2 q3 q4))))])) _
          refine XS.ifNo X22.here hx rfl (hb hby at_199) rfl ((if0 _ _).trans (flt (fun q => hc199_23 ((lw_lt _ _).mp q))).1) ?_
          refine XS.iconst X22.here hx rfl (hb hby at_202) ?_
          refine XS.goto X22.here hx rfl (pc0 := 203) (pc' := 207) rfl (hb hby at_203) (by decide) (by decide) ?_
          refine XS.istore X22.here hx rfl (hb hby at_207) rfl (l' := #[.val (.int p0), .val (.long q1), .second, .val (.long q2), .second, .val (.long q3), .second, .val (.long q4), .second, .val (.int (0 : Int32)), .val (.int p0), .val (.long (m0_0 p0 q1 q2 q3 q4)), .second, .val (.ref b4), .val (.ref b5), .val (.ref b9), .val (.long (9223372036854775807 : Int64)), .second, .val (.int (1 : Int32)), .val (.long (q3 + (m0_0 p0 q1 q2 q3 q4))), .second, .val (.int (f14 q3 (9223372036854775807 : Int64) (m0_0 p0 q1 q2 q3 q4) (9223372036854775807 : Int64) (0 : Int32))), .val (.int (1 : Int32)), .val (.int (1 : Int32)), .unset, .unset, .unset, .unset]) rfl ?_
          refine XS.iload X22.here hx rfl (hb hby at_209) rfl ?_
          refine XS.ifNo X22.here hx rfl (hb hby at_211) rfl ((if0 _ _).trans (feq (by decide : ¬ ((1 : Int32) = (0 : Int32)))).1) ?_
          refine XS.lload X22.here hx rfl (hb hby at_214) rfl ?_
          show Steps p.tables e below (T22.setTop (mkF m 216 #[.val (.int p0), .val (.long q1), .second, .val (.long q2), .second, .val (.long q3), .second, .val (.long q4), .second, .val (.int (0 : Int32)), .val (.int p0), .val (.long (m0_0 p0 q1 q2 q3 q4)), .second, .val (.ref b4), .val (.ref b5), .val (.ref b9), .val (.long (9223372036854775807 : Int64)), .second, .val (.int (1 : Int32)), .val (.long (q3 + (m0_0 p0 q1 q2 q3 q4))), .second, .val (.int (f14 q3 (9223372036854775807 : Int64) (m0_0 p0 q1 q2 q3 q4) (9223372036854775807 : Int64) (0 : Int32))), .val (.int (1 : Int32)), .val (.int (1 : Int32)), .unset, .unset, .unset, .unset] [(.long q4)])) _
          refine XS.lload X22.here hx rfl (hb hby at_216) rfl ?_
          refine XS.ladd X22.here hx rfl (hb hby at_218) rfl ?_
          refine XS.goto X22.here hx rfl (pc0 := 219) (pc' := 224) rfl (hb hby at_219) (by decide) (by decide) ?_
          refine XS.lstore X22.here hx rfl (hb hby at_224) rfl (l' := #[.val (.int p0), .val (.long q1), .second, .val (.long q2), .second, .val (.long q3), .second, .val (.long q4), .second, .val (.int (0 : Int32)), .val (.int p0), .val (.long (m0_0 p0 q1 q2 q3 q4)), .second, .val (.ref b4), .val (.ref b5), .val (.ref b9), .val (.long (9223372036854775807 : Int64)), .second, .val (.int (1 : Int32)), .val (.long (q3 + (m0_0 p0 q1 q2 q3 q4))), .second, .val (.int (f14 q3 (9223372036854775807 : Int64) (m0_0 p0 q1 q2 q3 q4) (9223372036854775807 : Int64) (0 : Int32))), .val (.int (1 : Int32)), .val (.int (1 : Int32)), .val (.long (q4 + (m0_0 p0 q1 q2 q3 q4))), .second, .unset, .unset]) rfl ?_
          refine XS.aload X22.here hx rfl (hb hby at_226) rfl rfl ?_
          refine XS.lload X22.here hx rfl (hb hby at_228) rfl ?_
          show Steps p.tables e below (T22.setTop (mkF m 230 #[.val (.int p0), .val (.long q1), .second, .val (.long q2), .second, .val (.long q3), .second, .val (.long q4), .second, .val (.int (0 : Int32)), .val (.int p0), .val (.long (m0_0 p0 q1 q2 q3 q4)), .second, .val (.ref b4), .val (.ref b5), .val (.ref b9), .val (.long (9223372036854775807 : Int64)), .second, .val (.int (1 : Int32)), .val (.long (q3 + (m0_0 p0 q1 q2 q3 q4))), .second, .val (.int (f14 q3 (9223372036854775807 : Int64) (m0_0 p0 q1 q2 q3 q4) (9223372036854775807 : Int64) (0 : Int32))), .val (.int (1 : Int32)), .val (.int (1 : Int32)), .val (.long (q4 + (m0_0 p0 q1 q2 q3 q4))), .second, .unset, .unset] [(.long q4), (.ref b5)])) _
          refine st26.trans ?_
          refine XS.istore X26.here hx rfl (hb hby at_233) rfl (l' := #[.val (.int p0), .val (.long q1), .second, .val (.long q2), .second, .val (.long q3), .second, .val (.long q4), .second, .val (.int (0 : Int32)), .val (.int p0), .val (.long (m0_0 p0 q1 q2 q3 q4)), .second, .val (.ref b4), .val (.ref b5), .val (.ref b9), .val (.long (9223372036854775807 : Int64)), .second, .val (.int (1 : Int32)), .val (.long (q3 + (m0_0 p0 q1 q2 q3 q4))), .second, .val (.int (f14 q3 (9223372036854775807 : Int64) (m0_0 p0 q1 q2 q3 q4) (9223372036854775807 : Int64) (0 : Int32))), .val (.int (1 : Int32)), .val (.int (1 : Int32)), .val (.long (q4 + (m0_0 p0 q1 q2 q3 q4))), .second, .val (.int (f14 q4 (q3 + (m0_0 p0 q1 q2 q3 q4)) (m0_0 p0 q1 q2 q3 q4) (9223372036854775807 : Int64) (0 : Int32))), .unset]) rfl ?_
          refine XS.iload X26.here hx rfl (hb hby at_235) rfl ?_
          refine XS.iload X26.here hx rfl (hb hby at_237) rfl ?_
          refine XS.icmpNo X26.here hx rfl (hb hby at_239) rfl (teq (own_due1 hc199_23)).2 ?_
          refine XS.aload X26.here hx rfl (hb hby at_242) rfl rfl ?_
          show Steps p.tables e below (T26.setTop (mkF m 244 #[.val (.int p0), .val (.long q1), .second, .val (.long q2), .second, .val (.long q3), .second, .val (.long q4), .second, .val (.int (0 : Int32)), .val (.int p0), .val (.long (m0_0 p0 q1 q2 q3 q4)), .second, .val (.ref b4), .val (.ref b5), .val (.ref b9), .val (.long (9223372036854775807 : Int64)), .second, .val (.int (1 : Int32)), .val (.long (q3 + (m0_0 p0 q1 q2 q3 q4))), .second, .val (.int (f14 q3 (9223372036854775807 : Int64) (m0_0 p0 q1 q2 q3 q4) (9223372036854775807 : Int64) (0 : Int32))), .val (.int (1 : Int32)), .val (.int (1 : Int32)), .val (.long (q4 + (m0_0 p0 q1 q2 q3 q4))), .second, .val (.int (f14 q4 (q3 + (m0_0 p0 q1 q2 q3 q4)) (m0_0 p0 q1 q2 q3 q4) (9223372036854775807 : Int64) (0 : Int32))), .unset] [(.ref b5)])) _
          refine st27.trans ?_
          refine XS.lload X27.here hx rfl (hb hby at_247) rfl ?_
          refine XS.lcmp X27.here hx rfl (hb hby at_249) rfl ?_
          refine XS.ifNo X27.here hx rfl (hb hby at_250) rfl ((if0 _ _).trans (teq ((lw_eq _ _).mpr (own_mint _))).2) ?_
          refine XS.iconst X27.here hx rfl (hb hby at_253) ?_
          refine XS.goto X27.here hx rfl (pc0 := 254) (pc' := 258) rfl (hb hby at_254) (by decide) (by decide) ?_
          refine XS.istore X27.here hx rfl (hb hby at_258) rfl (l' := #[.val (.int p0), .val (.long q1), .second, .val (.long q2), .second, .val (.long q3), .second, .val (.long q4), .second, .val (.int (0 : Int32)), .val (.int p0), .val (.long (m0_0 p0 q1 q2 q3 q4)), .second, .val (.ref b4), .val (.ref b5), .val (.ref b9), .val (.long (9223372036854775807 : Int64)), .second, .val (.int (1 : Int32)), .val (.long (q3 + (m0_0 p0 q1 q2 q3 q4))), .second, .val (.int (f14 q3 (9223372036854775807 : Int64) (m0_0 p0 q1 q2 q3 q4) (9223372036854775807 : Int64) (0 : Int32))), .val (.int (1 : Int32)), .val (.int (1 : Int32)), .val (.long (q4 + (m0_0 p0 q1 q2 q3 q4))), .second, .val (.int (f14 q4 (q3 + (m0_0 p0 q1 q2 q3 q4)) (m0_0 p0 q1 q2 q3 q4) (9223372036854775807 : Int64) (0 : Int32))), .val (.int (1 : Int32))]) rfl ?_
          show Steps p.tables e below (T27.setTop (mkF m 260 #[.val (.int p0), .val (.long q1), .second, .val (.long q2), .second, .val (.long q3), .second, .val (.long q4), .second, .val (.int (0 : Int32)), .val (.int p0), .val (.long (m0_0 p0 q1 q2 q3 q4)), .second, .val (.ref b4), .val (.ref b5), .val (.ref b9), .val (.long (9223372036854775807 : Int64)), .second, .val (.int (1 : Int32)), .val (.long (q3 + (m0_0 p0 q1 q2 q3 q4))), .second, .val (.int (f14 q3 (9223372036854775807 : Int64) (m0_0 p0 q1 q2 q3 q4) (9223372036854775807 : Int64) (0 : Int32))), .val (.int (1 : Int32)), .val (.int (1 : Int32)), .val (.long (q4 + (m0_0 p0 q1 q2 q3 q4))), .second, .val (.int (f14 q4 (q3 + (m0_0 p0 q1 q2 q3 q4)) (m0_0 p0 q1 q2 q3 q4) (9223372036854775807 : Int64) (0 : Int32))), .val (.int (1 : Int32))] [])) _
          refine XS.iload X27.here hx rfl (hb hby at_260) rfl ?_
          refine XS.ifNo X27.here hx rfl (hb hby at_262) rfl ((if0 _ _).trans (feq (by decide : ¬ ((1 : Int32) = (0 : Int32)))).1) ?_
          refine XS.iload X27.here hx rfl (hb hby at_265) rfl ?_
          refine XS.ifNo X27.here hx rfl (hb hby at_267) rfl ((if0 _ _).trans (feq (by decide : ¬ ((1 : Int32) = (0 : Int32)))).1) ?_
          refine XS.iconst X27.here hx rfl (hb hby at_270) ?_
          refine XS.goto X27.here hx rfl (pc0 := 271) (pc' := 275) rfl (hb hby at_271) (by decide) (by decide) ?_
          exact kt
        obtain ⟨fs, hr, hrun, hended, hW, hsame⟩ := X27.leave (v := some (.int (1 : Int32))) (fun h => by rw [Bd.returns] at h; cases h) (BodyLoose.notSynchronized Bd)
        refine ⟨_, _, ?_, hrun, hended, _, _, rfl, ?_, ⟨_, rfl⟩, hW, hsame.mono (by decide) (by decide)⟩
        · show Steps p.tables e below (T27.setTop (mkF m 275 #[.val (.int p0), .val (.long q1), .second, .val (.long q2), .second, .val (.long q3), .second, .val (.long q4), .second, .val (.int (0 : Int32)), .val (.int p0), .val (.long (m0_0 p0 q1 q2 q3 q4)), .second, .val (.ref b4), .val (.ref b5), .val (.ref b9), .val (.long (9223372036854775807 : Int64)), .second, .val (.int (1 : Int32)), .val (.long (q3 + (m0_0 p0 q1 q2 q3 q4))), .second, .val (.int (f14 q3 (9223372036854775807 : Int64) (m0_0 p0 q1 q2 q3 q4) (9223372036854775807 : Int64) (0 : Int32))), .val (.int (1 : Int32)), .val (.int (1 : Int32)), .val (.long (q4 + (m0_0 p0 q1 q2 q3 q4))), .second, .val (.int (f14 q4 (q3 + (m0_0 p0 q1 q2 q3 q4)) (m0_0 p0 q1 q2 q3 q4) (9223372036854775807 : Int64) (0 : Int32))), .val (.int (1 : Int32))] [(.int (1 : Int32))])) _
          exact retN X27 hx (t := .boolean) Bd.returns (by simp) (hb hby at_275) hr
        · show Q0 Z p0 q1 q2 q3 q4 wd kd wc h0 n0 _ T27.heap _
          rw [e27]
          exact ⟨by rw [show f0 p0 q1 q2 q3 q4 = (1 : Int32) from by unfold f0; rw [if_pos hc3_1, if_neg hc123_11, if_neg hc199_23]], N27⟩
  · obtain ⟨T28, h28, X28, e28, E28, A28, D28, -, st28⟩ := newO X0 hx hZ hown (hw _ (List.mem_of_getElem? (i := 1) rfl)) (hw _ (List.mem_of_getElem? (i := 2) rfl)) (hw _ (List.mem_of_getElem? (i := 3) rfl)) e0 (g := (mkF m 25 #[.val (.int p0), .val (.long q1), .second, .val (.long q2), .second, .val (.long q3), .second, .val (.long q4), .second, .val (.int (1 : Int32)), .val (.int p0), .val (.long (m0_0 p0 q1 q2 q3 q4)), .second, .unset, .unset, .unset, .unset, .unset, .unset, .unset, .unset, .unset, .unset, .unset, .unset, .unset, .unset, .unset] [])) rfl (hb hby at_25) (by decide) (by decide)
    obtain ⟨b28, g28⟩ : ∃ z, z = h0.size := ⟨_, rfl⟩
    rw [← g28] at A28 D28 st28
    have lo28 : n0 ≤ b28 := Nat.le_trans Z0 (Nat.le_of_eq g28.symm)
    have sz28 : h0.size ≤ b28 := Nat.le_trans (Nat.le_refl _) (Nat.le_of_eq g28.symm)
    have K28 : Keep h0 h28 [] := (Keep.refl h0 _).ext E28
    have Z28 : n0 ≤ h28.size := Nat.le_trans Z0 E28.1
    have F28_answerMillis : Fld Z h28 b28 "com/example/many_to_leader/manytoleader/bully/Timeouts" "answerMillis" "J" (.long (0 : Int64)) := D28 (Or.inr (hw _ (List.mem_of_getElem? (i := 14) rfl))) (ty := .long) (by decide)
    have F28_coordinatorMillis : Fld Z h28 b28 "com/example/many_to_leader/manytoleader/bully/Timeouts" "coordinatorMillis" "J" (.long (0 : Int64)) := D28 (Or.inr (hw _ (List.mem_of_getElem? (i := 16) rfl))) (ty := .long) (by decide)
    have F28_heartbeatIntervalMillis : Fld Z h28 b28 "com/example/many_to_leader/manytoleader/bully/Timeouts" "heartbeatIntervalMillis" "J" (.long (0 : Int64)) := D28 (Or.inr (hw _ (List.mem_of_getElem? (i := 18) rfl))) (ty := .long) (by decide)
    have F28_heartbeatTimeoutMillis : Fld Z h28 b28 "com/example/many_to_leader/manytoleader/bully/Timeouts" "heartbeatTimeoutMillis" "J" (.long (0 : Int64)) := D28 (Or.inr (hw _ (List.mem_of_getElem? (i := 20) rfl))) (ty := .long) (by decide)
    have F28_invitationPeriodMillis : Fld Z h28 b28 "com/example/many_to_leader/manytoleader/bully/Timeouts" "invitationPeriodMillis" "J" (.long (0 : Int64)) := D28 (Or.inr (hw _ (List.mem_of_getElem? (i := 22) rfl))) (ty := .long) (by decide)
    obtain ⟨_, _, ⟨T29, L29, k29, n29⟩, -, X29, ⟨Lc29, hQ29, l29, y29, z29⟩, st29⟩ := X28.specialBack hx (y := (⟨"com/example/many_to_leader/manytoleader/bully/Timeouts", "<init>", "(JJ)V"⟩ : MethodName)) rfl hown (mvT hZ (hw _ (List.mem_of_getElem? (i := 4) rfl))) (mvT hZ (hw _ (List.mem_of_getElem? (i := 5) rfl))) (mvT hZ (hw _ (List.mem_of_getElem? (i := 6) rfl))) (by decide) (backOf (W := 1) (rm1 l Z aw hw [] b28 (1 : Int64) (1 : Int64) h28 n0 Z28 F28_answerMillis F28_coordinatorMillis F28_heartbeatIntervalMillis F28_heartbeatTimeoutMillis F28_invitationPeriodMillis A28 lo28 (own_irrL _) (own_irrL _)) hZ (hw _ (List.mem_of_getElem? (i := 6) rfl)) (hw _ (List.mem_of_getElem? (i := 3) rfl)) (by decide) (by decide)) (g := (mkF m 31 #[.val (.int p0), .val (.long q1), .second, .val (.long q2), .second, .val (.long q3), .second, .val (.long q4), .second, .val (.int (1 : Int32)), .val (.int p0), .val (.long (m0_0 p0 q1 q2 q3 q4)), .second, .unset, .unset, .unset, .unset, .unset, .unset, .unset, .unset, .unset, .unset, .unset, .unset, .unset, .unset, .unset] [(.long (1 : Int64)), (.long (1 : Int64)), (.ref b28), (.ref b28)])) rfl (by rw [hml]; rfl) (Steps.refl _) (a := b28) (argsL := [(.long (1 : Int64)), (.long (1 : Int64))]) (rest := [(.ref b28)]) (lenOf pd_0_0 rfl) rfl (by show 2 * 0 + _ ≤ _; exact Nat.le_of_eq rfl) (hb hby at_31) (fun _ _ => ⟨rfl, e28, (by decide : 1 + 0 ≤ _), (by decide : 5 + 0 ≤ _)⟩)
    dsimp only [Pt.U, Pt.locs, Pt.cells, Pt.slots] at X29 l29 y29 z29 st29 hQ29
    rw [l29, y29, z29] at X29
    obtain ⟨rfl, Nq29, Kq29, P29_0, P29_1, P29_2, P29_3, P29_4, P29_5⟩ := hQ29
    have N29 := Fr.app N0 Nq29
    have K29 : Keep h0 T29.heap [] := K28.trans Kq29 (allS (Or.inr sz28) all0)
    have Z29 : n0 ≤ T29.heap.size := Nat.le_trans Z28 Kq29.1
    obtain ⟨cq30, kq30, q30a, q30b, q30c⟩ := isOf hZ rfl P29_0
    obtain ⟨_, _, ⟨T30, L30, k30, n30⟩, -, X30, ⟨Lc30, hQ30, l30, y30, z30⟩, st30⟩ := X29.virtualBack hx (y := (⟨"com/example/many_to_leader/manytoleader/bully/Timeouts", "withHeartbeats", "(JJ)Lcom/example/many_to_leader/manytoleader/bully/Timeouts;"⟩ : MethodName)) (z := (⟨"com/example/many_to_leader/manytoleader/bully/Timeouts", "withHeartbeats", "(JJ)Lcom/example/many_to_leader/manytoleader/bully/Timeouts;"⟩ : MethodName)) hown (mvT hZ (hw _ (List.mem_of_getElem? (i := 23) rfl))) (mvT hZ (hw _ (List.mem_of_getElem? (i := 24) rfl))) (notFace_of_selects (args := #[]) (mvT hZ (hw _ (List.mem_of_getElem? (i := 26) rfl)))) (mvT hZ (hw _ (List.mem_of_getElem? (i := 26) rfl))) (mvT hZ (hw _ (List.mem_of_getElem? (i := 25) rfl))) (by decide) (backOf (W := 0) (rm4 l Z aw hw [] b28 (m0_0 p0 q1 q2 q3 q4) ((m0_0 p0 q1 q2 q3 q4) + (1 : Int64)) (1 : Int64) (1 : Int64) (0 : Int64) T29.heap n0 Z29 P29_1 P29_2 P29_5 (own_iv p0 q1 q2 q3 q4).1 (own_iv p0 q1 q2 q3 q4).2) hZ (hw _ (List.mem_of_getElem? (i := 27) rfl)) (hw _ (List.mem_of_getElem? (i := 3) rfl)) (by decide) (by decide)) q30a q30c (g := (mkF m 40 #[.val (.int p0), .val (.long q1), .second, .val (.long q2), .second, .val (.long q3), .second, .val (.long q4), .second, .val (.int (1 : Int32)), .val (.int p0), .val (.long (m0_0 p0 q1 q2 q3 q4)), .second, .unset, .unset, .unset, .unset, .unset, .unset, .unset, .unset, .unset, .unset, .unset, .unset, .unset, .unset, .unset] [(.long ((m0_0 p0 q1 q2 q3 q4) + (1 : Int64))), (.long (m0_0 p0 q1 q2 q3 q4)), (.ref b28)])) rfl (by rw [hml]; rfl) (Steps.refl _) (argsL := [(.long (m0_0 p0 q1 q2 q3 q4)), (.long ((m0_0 p0 q1 q2 q3 q4) + (1 : Int64)))]) (rest := []) (lenOf pd_0_1 rfl) rfl (by show 2 * 0 + _ ≤ _; exact Nat.le_of_eq rfl) (hb hby at_40) (fun _ _ => ⟨rfl, rfl, (by decide : 1 + 1 ≤ _), (by decide : 5 + 5 ≤ _)⟩)
    dsimp only [Pt.U, Pt.locs, Pt.cells, Pt.slots] at X30 l30 y30 z30 st30 hQ30
    rw [l30, y30, z30] at X30
    obtain ⟨b30, hQ30⟩ := hQ30
    obtain ⟨rfl, Nq30, Kq30, P30_0, P30_1, P30_2, P30_3, P30_4⟩ := hQ30
    have N30 := Fr.app N29 Nq30
    have ne30_b28 : b28 ≠ b30 := Nat.ne_of_lt (Nat.lt_of_lt_of_le P29_0.lt P30_1)
    have sz30 : h0.size ≤ b30 := Nat.le_trans K29.1 P30_1
    have f30_0 := P29_0.keep Kq30
    have f30_1 := P29_1.keep Kq30 nin0
    have f30_2 := P29_2.keep Kq30 nin0
    have f30_3 := P29_3.keep Kq30 nin0
    have f30_4 := P29_4.keep Kq30 nin0
    have f30_5 := P29_5.keep Kq30 nin0
    have K30 : Keep h0 T30.heap [] := K29.trans Kq30 all0
    have Z30 : n0 ≤ T30.heap.size := Nat.le_trans Z29 Kq30.1
    obtain ⟨T31, h31, X31, e31, E31, A31, D31, -, st31⟩ := newO X30 hx hZ hown (hw _ (List.mem_of_getElem? (i := 29) rfl)) (hw _ (List.mem_of_getElem? (i := 30) rfl)) (hw _ (List.mem_of_getElem? (i := 31) rfl)) rfl (g := (mkF m 45 #[.val (.int p0), .val (.long q1), .second, .val (.long q2), .second, .val (.long q3), .second, .val (.long q4), .second, .val (.int (1 : Int32)), .val (.int p0), .val (.long (m0_0 p0 q1 q2 q3 q4)), .second, .val (.ref b30), .unset, .unset, .unset, .unset, .unset, .unset, .unset, .unset, .unset, .unset, .unset, .unset, .unset, .unset] [])) rfl (hb hby at_45) (by decide) (by decide)
    obtain ⟨b31, g31⟩ : ∃ z, z = T30.heap.size := ⟨_, rfl⟩
    rw [← g31] at A31 D31 st31
    have ne31_b28 : b28 ≠ b31 := Nat.ne_of_lt (Nat.lt_of_lt_of_le f30_0.lt (Nat.le_of_eq g31.symm))
    have ne31_b30 : b30 ≠ b31 := Nat.ne_of_lt (Nat.lt_of_lt_of_le P30_2.lt (Nat.le_of_eq g31.symm))
    have lo31 : n0 ≤ b31 := Nat.le_trans Z30 (Nat.le_of_eq g31.symm)
    have sz31 : h0.size ≤ b31 := Nat.le_trans K30.1 (Nat.le_of_eq g31.symm)
    have f31_0 := f30_0.ext E31
    have f31_1 := f30_1.ext E31
    have f31_2 := f30_2.ext E31
    have f31_3 := f30_3.ext E31
    have f31_4 := f30_4.ext E31
    have f31_5 := f30_5.ext E31
    have f31_6 := P30_2.ext E31
    have f31_7 := P30_3.ext E31
    have f31_8 := P30_4.ext E31
    have K31 := K30.ext E31
    have Z31 : n0 ≤ h31.size := Nat.le_trans Z30 E31.1
    have F31_known : Fld Z h31 b31 "com/example/many_to_leader/manytoleader/bully/CandidatePool" "known" "Ljava/util/TreeMap;" .null := D31 (Or.inr (hw _ (List.mem_of_getElem? (i := 67) rfl))) (ty := (.object "java/util/TreeMap")) (by decide)
    have F31_heartbeatDeadline : Fld Z h31 b31 "com/example/many_to_leader/manytoleader/bully/CandidatePool" "heartbeatDeadline" "J" (.long (0 : Int64)) := D31 (Or.inl (hw _ (List.mem_of_getElem? (i := 70) rfl))) (ty := .long) (by decide)
    have F31_outOfBoundsSince : Fld Z h31 b31 "com/example/many_to_leader/manytoleader/bully/CandidatePool" "outOfBoundsSince" "J" (.long (0 : Int64)) := D31 (Or.inl (hw _ (List.mem_of_getElem? (i := 72) rfl))) (ty := .long) (by decide)
    have F31_checkDeadline : Fld Z h31 b31 "com/example/many_to_leader/manytoleader/bully/CandidatePool" "checkDeadline" "J" (.long (0 : Int64)) := D31 (Or.inl (hw _ (List.mem_of_getElem? (i := 74) rfl))) (ty := .long) (by decide)
    have F31_id : Fld Z h31 b31 "com/example/many_to_leader/manytoleader/bully/CandidatePool" "id" "I" (.int (0 : Int32)) := D31 (Or.inr (hw _ (List.mem_of_getElem? (i := 76) rfl))) (ty := .int) (by decide)
    have F31_membersAbove : Fld Z h31 b31 "com/example/many_to_leader/manytoleader/bully/CandidatePool" "membersAbove" "I" (.int (0 : Int32)) := D31 (Or.inr (hw _ (List.mem_of_getElem? (i := 78) rfl))) (ty := .int) (by decide)
    have F31_size : Fld Z h31 b31 "com/example/many_to_leader/manytoleader/bully/CandidatePool" "size" "Lcom/example/many_to_leader/manytoleader/bully/PoolSize;" .null := D31 (Or.inr (hw _ (List.mem_of_getElem? (i := 80) rfl))) (ty := (.object "com/example/many_to_leader/manytoleader/bully/PoolSize")) (by decide)
    have F31_intervalMillis : Fld Z h31 b31 "com/example/many_to_leader/manytoleader/bully/CandidatePool" "intervalMillis" "J" (.long (0 : Int64)) := D31 (Or.inr (hw _ (List.mem_of_getElem? (i := 87) rfl))) (ty := .long) (by decide)
    have F31_timeoutMillis : Fld Z h31 b31 "com/example/many_to_leader/manytoleader/bully/CandidatePool" "timeoutMillis" "J" (.long (0 : Int64)) := D31 (Or.inr (hw _ (List.mem_of_getElem? (i := 94) rfl))) (ty := .long) (by decide)
    have F31_candidate : Fld Z h31 b31 "com/example/many_to_leader/manytoleader/bully/CandidatePool" "candidate" "Z" (.int (0 : Int32)) := D31 (Or.inl (hw _ (List.mem_of_getElem? (i := 140) rfl))) (ty := .boolean) (by decide)
    obtain ⟨T32, h32, X32, e32, E32, A32, D32, -, st32⟩ := newO X31 hx hZ hown (hw _ (List.mem_of_getElem? (i := 32) rfl)) (hw _ (List.mem_of_getElem? (i := 33) rfl)) (hw _ (List.mem_of_getElem? (i := 34) rfl)) e31 (g := (mkF m 52 #[.val (.int p0), .val (.long q1), .second, .val (.long q2), .second, .val (.long q3), .second, .val (.long q4), .second, .val (.int (1 : Int32)), .val (.int p0), .val (.long (m0_0 p0 q1 q2 q3 q4)), .second, .val (.ref b30), .unset, .unset, .unset, .unset, .unset, .unset, .unset, .unset, .unset, .unset, .unset, .unset, .unset, .unset] [(.int (0 : Int32)), (.int p0), (.ref b31), (.ref b31)])) rfl (hb hby at_52) (by decide) (by decide)
    obtain ⟨b32, g32⟩ : ∃ z, z = h31.size := ⟨_, rfl⟩
    rw [← g32] at A32 D32 st32
    have ne32_b28 : b28 ≠ b32 := Nat.ne_of_lt (Nat.lt_of_lt_of_le f31_0.lt (Nat.le_of_eq g32.symm))
    have ne32_b30 : b30 ≠ b32 := Nat.ne_of_lt (Nat.lt_of_lt_of_le f31_6.lt (Nat.le_of_eq g32.symm))
    have ne32_b31 : b31 ≠ b32 := Nat.ne_of_lt (Nat.lt_of_lt_of_le A31.lt (Nat.le_of_eq g32.symm))
    have lo32 : n0 ≤ b32 := Nat.le_trans Z31 (Nat.le_of_eq g32.symm)
    have sz32 : h0.size ≤ b32 := Nat.le_trans K31.1 (Nat.le_of_eq g32.symm)
    have f32_0 := f31_0.ext E32
    have f32_1 := f31_1.ext E32
    have f32_2 := f31_2.ext E32
    have f32_3 := f31_3.ext E32
    have f32_4 := f31_4.ext E32
    have f32_5 := f31_5.ext E32
    have f32_6 := f31_6.ext E32
    have f32_7 := f31_7.ext E32
    have f32_8 := f31_8.ext E32
    have f32_9 := A31.ext E32
    have f32_10 := F31_known.ext E32
    have f32_11 := F31_heartbeatDeadline.ext E32
    have f32_12 := F31_outOfBoundsSince.ext E32
    have f32_13 := F31_checkDeadline.ext E32
    have f32_14 := F31_id.ext E32
    have f32_15 := F31_membersAbove.ext E32
    have f32_16 := F31_size.ext E32
    have f32_17 := F31_intervalMillis.ext E32
    have f32_18 := F31_timeoutMillis.ext E32
    have f32_19 := F31_candidate.ext E32
    have K32 := K31.ext E32
    have Z32 : n0 ≤ h32.size := Nat.le_trans Z31 E32.1
    have F32_min : Fld Z h32 b32 "com/example/many_to_leader/manytoleader/bully/PoolSize" "min" "I" (.int (0 : Int32)) := D32 (Or.inr (hw _ (List.mem_of_getElem? (i := 40) rfl))) (ty := .int) (by decide)
    have F32_max : Fld Z h32 b32 "com/example/many_to_leader/manytoleader/bully/PoolSize" "max" "I" (.int (0 : Int32)) := D32 (Or.inr (hw _ (List.mem_of_getElem? (i := 42) rfl))) (ty := .int) (by decide)
    obtain ⟨_, _, ⟨T33, L33, k33, n33⟩, -, X33, ⟨Lc33, hQ33, l33, y33, z33⟩, st33⟩ := X32.specialBack hx (y := (⟨"com/example/many_to_leader/manytoleader/bully/PoolSize", "<init>", "(II)V"⟩ : MethodName)) rfl hown (mvT hZ (hw _ (List.mem_of_getElem? (i := 35) rfl))) (mvT hZ (hw _ (List.mem_of_getElem? (i := 36) rfl))) (mvT hZ (hw _ (List.mem_of_getElem? (i := 37) rfl))) (by decide) (backOf (W := 5) (rm5 l Z aw hw [] b32 (1 : Int32) (1 : Int32) h32 n0 Z32 F32_min F32_max A32 lo32 (own_irr _) (own_irr _)) hZ (hw _ (List.mem_of_getElem? (i := 37) rfl)) (hw _ (List.mem_of_getElem? (i := 34) rfl)) (by decide) (by decide)) (g := (mkF m 58 #[.val (.int p0), .val (.long q1), .second, .val (.long q2), .second, .val (.long q3), .second, .val (.long q4), .second, .val (.int (1 : Int32)), .val (.int p0), .val (.long (m0_0 p0 q1 q2 q3 q4)), .second, .val (.ref b30), .unset, .unset, .unset, .unset, .unset, .unset, .unset, .unset, .unset, .unset, .unset, .unset, .unset, .unset] [(.int (1 : Int32)), (.int (1 : Int32)), (.ref b32), (.ref b32), (.int (0 : Int32)), (.int p0), (.ref b31), (.ref b31)])) rfl (by rw [hml]; rfl) (Steps.refl _) (a := b32) (argsL := [(.int (1 : Int32)), (.int (1 : Int32))]) (rest := [(.ref b32), (.int (0 : Int32)), (.int p0), (.ref b31), (.ref b31)]) (lenOf pd_0_2 rfl) rfl (by show 2 * 0 + _ ≤ _; exact Nat.le_of_eq rfl) (hb hby at_58) (fun _ _ => ⟨rfl, e32, (by decide : 4 + 0 ≤ _), (by decide : 23 + 0 ≤ _)⟩)
    dsimp only [Pt.U, Pt.locs, Pt.cells, Pt.slots] at X33 l33 y33 z33 st33 hQ33
    rw [l33, y33, z33] at X33
    obtain ⟨rfl, Nq33, Kq33, P33_0⟩ := hQ33
    have N33 := Fr.app N30 Nq33
    have f33_0 := f32_0.keep Kq33
    have f33_1 := f32_1.keep Kq33 (ninS ne32_b28 nin0)
    have f33_2 := f32_2.keep Kq33 (ninS ne32_b28 nin0)
    have f33_3 := f32_3.keep Kq33 (ninS ne32_b28 nin0)
    have f33_4 := f32_4.keep Kq33 (ninS ne32_b28 nin0)
    have f33_5 := f32_5.keep Kq33 (ninS ne32_b28 nin0)
    have f33_6 := f32_6.keep Kq33
    have f33_7 := f32_7.keep Kq33 (ninS ne32_b30 nin0)
    have f33_8 := f32_8.keep Kq33 (ninS ne32_b30 nin0)
    have f33_9 := f32_9.keep Kq33
    have f33_10 := f32_10.keep Kq33 (ninS ne32_b31 nin0)
    have f33_11 := f32_11.keep Kq33 (ninS ne32_b31 nin0)
    have f33_12 := f32_12.keep Kq33 (ninS ne32_b31 nin0)
    have f33_13 := f32_13.keep Kq33 (ninS ne32_b31 nin0)
    have f33_14 := f32_14.keep Kq33 (ninS ne32_b31 nin0)
    have f33_15 := f32_15.keep Kq33 (ninS ne32_b31 nin0)
    have f33_16 := f32_16.keep Kq33 (ninS ne32_b31 nin0)
    have f33_17 := f32_17.keep Kq33 (ninS ne32_b31 nin0)
    have f33_18 := f32_18.keep Kq33 (ninS ne32_b31 nin0)
    have f33_19 := f32_19.keep Kq33 (ninS ne32_b31 nin0)
    have K33 : Keep h0 T33.heap [] := K32.trans Kq33 (allS (Or.inr sz32) all0)
    have Z33 : n0 ≤ T33.heap.size := Nat.le_trans Z32 Kq33.1
    obtain ⟨_, _, ⟨T34, L34, k34, n34⟩, -, X34, ⟨Lc34, hQ34, l34, y34, z34⟩, st34⟩ := X33.specialBack hx (y := (⟨"com/example/many_to_leader/manytoleader/bully/CandidatePool", "<init>", "(IILcom/example/many_to_leader/manytoleader/bully/PoolSize;Lcom/example/many_to_leader/manytoleader/bully/Timeouts;)V"⟩ : MethodName)) rfl hown (mvT hZ (hw _ (List.mem_of_getElem? (i := 43) rfl))) (mvT hZ (hw _ (List.mem_of_getElem? (i := 44) rfl))) (mvT hZ (hw _ (List.mem_of_getElem? (i := 45) rfl))) (by decide) (backOf (W := 1) (rm6 l Z aw hw [] b31 p0 (0 : Int32) b32 b30 (m0_0 p0 q1 q2 q3 q4) ((m0_0 p0 q1 q2 q3 q4) + (1 : Int64)) T33.heap n0 Z33 f33_10 f33_11 f33_12 f33_13 f33_14 f33_15 f33_16 f33_17 f33_18 f33_19 f33_9 lo31 f33_6 f33_7 f33_8) hZ (hw _ (List.mem_of_getElem? (i := 45) rfl)) (hw _ (List.mem_of_getElem? (i := 31) rfl)) (by decide) (by decide)) (g := (mkF m 63 #[.val (.int p0), .val (.long q1), .second, .val (.long q2), .second, .val (.long q3), .second, .val (.long q4), .second, .val (.int (1 : Int32)), .val (.int p0), .val (.long (m0_0 p0 q1 q2 q3 q4)), .second, .val (.ref b30), .unset, .unset, .unset, .unset, .unset, .unset, .unset, .unset, .unset, .unset, .unset, .unset, .unset, .unset] [(.ref b30), (.ref b32), (.int (0 : Int32)), (.int p0), (.ref b31), (.ref b31)])) rfl (by rw [hml]; rfl) (Steps.refl _) (a := b31) (argsL := [(.int p0), (.int (0 : Int32)), (.ref b32), (.ref b30)]) (rest := [(.ref b31)]) (lenOf pd_0_3 rfl) rfl (by show 2 * 0 + _ ≤ _; exact Nat.le_of_eq rfl) (hb hby at_63) (fun _ _ => ⟨rfl, rfl, (by decide : 4 + 1 ≤ _), (by decide : 23 + 9 ≤ _)⟩)
    dsimp only [Pt.U, Pt.locs, Pt.cells, Pt.slots] at X34 l34 y34 z34 st34 hQ34
    rw [l34, y34, z34] at X34
    obtain ⟨rfl, Nq34, Kq34, P34_0, P34_1, P34_2, P34_3, P34_4, P34_5⟩ := hQ34
    have N34 := Fr.app N33 Nq34
    have f34_0 := f33_0.keep Kq34
    have f34_1 := f33_1.keep Kq34 (ninS ne31_b28 nin0)
    have f34_2 := f33_2.keep Kq34 (ninS ne31_b28 nin0)
    have f34_3 := f33_3.keep Kq34 (ninS ne31_b28 nin0)
    have f34_4 := f33_4.keep Kq34 (ninS ne31_b28 nin0)
    have f34_5 := f33_5.keep Kq34 (ninS ne31_b28 nin0)
    have f34_6 := f33_6.keep Kq34
    have f34_7 := f33_7.keep Kq34 (ninS ne31_b30 nin0)
    have f34_8 := f33_8.keep Kq34 (ninS ne31_b30 nin0)
    have f34_9 := P33_0.keep Kq34
    have K34 : Keep h0 T34.heap [] := K33.trans Kq34 (allS (Or.inr sz31) all0)
    have Z34 : n0 ≤ T34.heap.size := Nat.le_trans Z33 Kq34.1
    obtain ⟨T35, h35, X35, e35, E35, A35, D35, -, st35⟩ := newO X34 hx hZ hown (hw _ (List.mem_of_getElem? (i := 95) rfl)) (hw _ (List.mem_of_getElem? (i := 96) rfl)) (hw _ (List.mem_of_getElem? (i := 97) rfl)) rfl (g := (mkF m 68 #[.val (.int p0), .val (.long q1), .second, .val (.long q2), .second, .val (.long q3), .second, .val (.long q4), .second, .val (.int (1 : Int32)), .val (.int p0), .val (.long (m0_0 p0 q1 q2 q3 q4)), .second, .val (.ref b30), .val (.ref b31), .unset, .unset, .unset, .unset, .unset, .unset, .unset, .unset, .unset, .unset, .unset, .unset, .unset] [])) rfl (hb hby at_68) (by decide) (by decide)
    obtain ⟨b35, g35⟩ : ∃ z, z = T34.heap.size := ⟨_, rfl⟩
    rw [← g35] at A35 D35 st35
    have ne35_b28 : b28 ≠ b35 := Nat.ne_of_lt (Nat.lt_of_lt_of_le f34_0.lt (Nat.le_of_eq g35.symm))
    have ne35_b30 : b30 ≠ b35 := Nat.ne_of_lt (Nat.lt_of_lt_of_le f34_6.lt (Nat.le_of_eq g35.symm))
    have ne35_b32 : b32 ≠ b35 := Nat.ne_of_lt (Nat.lt_of_lt_of_le f34_9.lt (Nat.le_of_eq g35.symm))
    have ne35_b31 : b31 ≠ b35 := Nat.ne_of_lt (Nat.lt_of_lt_of_le P34_0.lt (Nat.le_of_eq g35.symm))
    have lo35 : n0 ≤ b35 := Nat.le_trans Z34 (Nat.le_of_eq g35.symm)
    have sz35 : h0.size ≤ b35 := Nat.le_trans K34.1 (Nat.le_of_eq g35.symm)
    have f35_0 := f34_0.ext E35
    have f35_1 := f34_1.ext E35
    have f35_2 := f34_2.ext E35
    have f35_3 := f34_3.ext E35
    have f35_4 := f34_4.ext E35
    have f35_5 := f34_5.ext E35
    have f35_6 := f34_6.ext E35
    have f35_7 := f34_7.ext E35
    have f35_8 := f34_8.ext E35
    have f35_9 := f34_9.ext E35
    have f35_10 := P34_0.ext E35
    have f35_11 := P34_1.ext E35
    have f35_12 := P34_2.ext E35
    have f35_13 := P34_3.ext E35
    have f35_14 := P34_4.ext E35
    have f35_15 := P34_5.ext E35
    have K35 := K34.ext E35
    have Z35 : n0 ≤ h35.size := Nat.le_trans Z34 E35.1
    have F35_modCount : Fld Z h35 b35 "java/util/AbstractList" "modCount" "I" (.int (0 : Int32)) := D35 (Or.inl (hw _ (List.mem_of_getElem? (i := 115) rfl))) (ty := .int) (by decide)
    have F35_elementData : Fld Z h35 b35 "java/util/ArrayList" "elementData" "[Ljava/lang/Object;" .null := D35 (Or.inl (hw _ (List.mem_of_getElem? (i := 118) rfl))) (ty := (.array (.object "java/lang/Object"))) (by decide)
    have F35_size : Fld Z h35 b35 "java/util/ArrayList" "size" "I" (.int (0 : Int32)) := D35 (Or.inl (hw _ (List.mem_of_getElem? (i := 156) rfl))) (ty := .int) (by decide)
    obtain ⟨_, _, ⟨T36, L36, k36, n36⟩, -, X36, ⟨Lc36, hQ36, l36, y36, z36⟩, st36⟩ := X35.specialBack hx (y := (⟨"java/util/ArrayList", "<init>", "()V"⟩ : MethodName)) rfl hown (mvT hZ (hw _ (List.mem_of_getElem? (i := 98) rfl))) (mvT hZ (hw _ (List.mem_of_getElem? (i := 99) rfl))) (mvT hZ (hw _ (List.mem_of_getElem? (i := 100) rfl))) (by decide) (backOf (W := 1) (rm11 l Z aw hw [] b35 wd h35 n0 Z35 F35_modCount F35_size F35_elementData A35 lo35 (own_sta_keep S_DEFAULTCAPACITY_EMPTY_ELEMENTDATA K35)) hZ (hw _ (List.mem_of_getElem? (i := 100) rfl)) (hw _ (List.mem_of_getElem? (i := 97) rfl)) (by decide) (by decide)) (g := (mkF m 72 #[.val (.int p0), .val (.long q1), .second, .val (.long q2), .second, .val (.long q3), .second, .val (.long q4), .second, .val (.int (1 : Int32)), .val (.int p0), .val (.long (m0_0 p0 q1 q2 q3 q4)), .second, .val (.ref b30), .val (.ref b31), .unset, .unset, .unset, .unset, .unset, .unset, .unset, .unset, .unset, .unset, .unset, .unset, .unset] [(.ref b35), (.ref b35)])) rfl (by rw [hml]; rfl) (Steps.refl _) (a := b35) (argsL := []) (rest := [(.ref b35)]) (lenOf pd_0_4 rfl) rfl (by show 2 * 0 + _ ≤ _; exact Nat.le_of_eq rfl) (hb hby at_72) (fun _ _ => ⟨rfl, e35, (by decide : 6 + 0 ≤ _), (by decide : 35 + 0 ≤ _)⟩)
    dsimp only [Pt.U, Pt.locs, Pt.cells, Pt.slots] at X36 l36 y36 z36 st36 hQ36
    rw [l36, y36, z36] at X36
    obtain ⟨rfl, Nq36, Kq36, P36_0, P36_1, P36_2, P36_3⟩ := hQ36
    have N36 := Fr.app N34 Nq36
    have f36_0 := f35_0.keep Kq36
    have f36_1 := f35_1.keep Kq36 (ninS ne35_b28 nin0)
    have f36_2 := f35_2.keep Kq36 (ninS ne35_b28 nin0)
    have f36_3 := f35_3.keep Kq36 (ninS ne35_b28 nin0)
    have f36_4 := f35_4.keep Kq36 (ninS ne35_b28 nin0)
    have f36_5 := f35_5.keep Kq36 (ninS ne35_b28 nin0)
    have f36_6 := f35_6.keep Kq36
    have f36_7 := f35_7.keep Kq36 (ninS ne35_b30 nin0)
    have f36_8 := f35_8.keep Kq36 (ninS ne35_b30 nin0)
    have f36_9 := f35_9.keep Kq36
    have f36_10 := f35_10.keep Kq36
    have f36_11 := f35_11.keep Kq36 (ninS ne35_b31 nin0)
    have f36_12 := f35_12.keep Kq36 (ninS ne35_b31 nin0)
    have f36_13 := f35_13.keep Kq36 (ninS ne35_b31 nin0)
    have f36_14 := f35_14.keep Kq36 (ninS ne35_b31 nin0)
    have f36_15 := f35_15.keep Kq36 (ninS ne35_b31 nin0)
    have K36 : Keep h0 T36.heap [] := K35.trans Kq36 (allS (Or.inr sz35) all0)
    have Z36 : n0 ≤ T36.heap.size := Nat.le_trans Z35 Kq36.1
    obtain ⟨_, _, ⟨T37, L37, k37, n37⟩, -, X37, ⟨Lc37, hQ37, l37, y37, z37⟩, st37⟩ := Jvm.LawKit.callS X36 hx (y := (⟨"java/lang/Integer", "valueOf", "(I)Ljava/lang/Integer;"⟩ : MethodName)) hown (mvT hZ (hw _ (List.mem_of_getElem? (i := 141) rfl))) (mvT hZ (hw _ (List.mem_of_getElem? (i := 142) rfl))) (mvT hZ (hw _ (List.mem_of_getElem? (i := 143) rfl))) (mvT hZ (hw _ (List.mem_of_getElem? (i := 144) rfl))) (by decide) (backOf (W := 1) (rm18 l Z aw hw [] p0 wc T36.heap n0 Z36 (own_sta_keep S_high K36) (own_sta_keep S_cache K36) (X_ic.keep K36)) hZ (hw _ (List.mem_of_getElem? (i := 144) rfl)) (hw _ (List.mem_of_getElem? (i := 143) rfl)) (by decide) (by decide)) (g := (mkF m 86 #[.val (.int p0), .val (.long q1), .second, .val (.long q2), .second, .val (.long q3), .second, .val (.long q4), .second, .val (.int (1 : Int32)), .val (.int p0), .val (.long (m0_0 p0 q1 q2 q3 q4)), .second, .val (.ref b30), .val (.ref b31), .val (.ref b35), .unset, .unset, .unset, .unset, .unset, .unset, .unset, .unset, .unset, .unset, .unset, .unset] [(.int p0), (.ref b35)])) rfl (by rw [hml]; rfl) (argsL := [(.int p0)]) (rest := [(.ref b35)]) (lenOf pd_0_8 rfl) rfl (by show 2 * 0 + _ ≤ _; exact Nat.le_of_eq rfl) (hb hby at_86) (fun _ _ => ⟨rfl, rfl, (by decide : 6 + 1 ≤ _), (by decide : 35 + 1 ≤ _)⟩)
    dsimp only [Pt.U, Pt.locs, Pt.cells, Pt.slots] at X37 l37 y37 z37 st37 hQ37
    rw [l37, y37, z37] at X37
    obtain ⟨b37, hQ37⟩ := hQ37
    obtain ⟨rfl, Nq37, Kq37, P37_0, P37_1⟩ := hQ37
    have N37 := Fr.app N36 Nq37
    have f37_0 := f36_0.keep Kq37
    have f37_1 := f36_1.keep Kq37 nin0
    have f37_2 := f36_2.keep Kq37 nin0
    have f37_3 := f36_3.keep Kq37 nin0
    have f37_4 := f36_4.keep Kq37 nin0
    have f37_5 := f36_5.keep Kq37 nin0
    have f37_6 := f36_6.keep Kq37
    have f37_7 := f36_7.keep Kq37 nin0
    have f37_8 := f36_8.keep Kq37 nin0
    have f37_9 := f36_9.keep Kq37
    have f37_10 := f36_10.keep Kq37
    have f37_11 := f36_11.keep Kq37 nin0
    have f37_12 := f36_12.keep Kq37 nin0
    have f37_13 := f36_13.keep Kq37 nin0
    have f37_14 := f36_14.keep Kq37 nin0
    have f37_15 := f36_15.keep Kq37 nin0
    have f37_16 := P36_0.keep Kq37
    have f37_17 := P36_1.keep Kq37 nin0
    have f37_18 := P36_2.keep Kq37 nin0
    have f37_19 := P36_3.keep Kq37 nin0
    have K37 : Keep h0 T37.heap [] := K36.trans Kq37 all0
    have Z37 : n0 ≤ T37.heap.size := Nat.le_trans Z36 Kq37.1
    obtain ⟨cq38, kq38, q38a, q38b, q38c⟩ := isOf hZ rfl f37_16
    obtain ⟨_, _, ⟨T38, L38, k38, n38⟩, -, X38, ⟨Lc38, hQ38, l38, y38, z38⟩, st38⟩ := X37.virtualBack hx (y := (⟨"java/util/ArrayList", "add", "(Ljava/lang/Object;)Z"⟩ : MethodName)) (z := (⟨"java/util/ArrayList", "add", "(Ljava/lang/Object;)Z"⟩ : MethodName)) hown (mvT hZ (hw _ (List.mem_of_getElem? (i := 148) rfl))) (mvT hZ (hw _ (List.mem_of_getElem? (i := 149) rfl))) (notFace_of_selects (args := #[]) (mvT hZ (hw _ (List.mem_of_getElem? (i := 151) rfl)))) (mvT hZ (hw _ (List.mem_of_getElem? (i := 151) rfl))) (mvT hZ (hw _ (List.mem_of_getElem? (i := 150) rfl))) (by decide) (backOf (W := 0) (rm19 l Z aw hw [] b35 b37 wd kd T37.heap n0 Z37 f37_19 f37_18 f37_17 f37_16 lo35 P37_0 (own_sta_keep S_DEFAULTCAPACITY_EMPTY_ELEMENTDATA K37) (V_wd.keep K37 nin0) (E_wd.keep K37)) hZ (hw _ (List.mem_of_getElem? (i := 152) rfl)) (hw _ (List.mem_of_getElem? (i := 97) rfl)) (by decide) (by decide)) q38a q38c (g := (mkF m 89 #[.val (.int p0), .val (.long q1), .second, .val (.long q2), .second, .val (.long q3), .second, .val (.long q4), .second, .val (.int (1 : Int32)), .val (.int p0), .val (.long (m0_0 p0 q1 q2 q3 q4)), .second, .val (.ref b30), .val (.ref b31), .val (.ref b35), .unset, .unset, .unset, .unset, .unset, .unset, .unset, .unset, .unset, .unset, .unset, .unset] [(.ref b37), (.ref b35)])) rfl (by rw [hml]; rfl) (Steps.refl _) (argsL := [(.ref b37)]) (rest := []) (lenOf pd_0_9 rfl) rfl (by show 2 * 0 + _ ≤ _; exact Nat.le_of_eq rfl) (hb hby at_89) (fun _ _ => ⟨rfl, rfl, (by decide : 7 + 1 ≤ _), (by decide : 36 + 10 ≤ _)⟩)
    dsimp only [Pt.U, Pt.locs, Pt.cells, Pt.slots] at X38 l38 y38 z38 st38 hQ38
    rw [l38, y38, z38] at X38
    obtain ⟨bb38, kb38, hQ38⟩ := hQ38
    obtain ⟨rfl, Nq38, Kq38, P38_0, P38_1, P38_2, P38_3, P38_4, P38_5⟩ := hQ38
    have N38 := Fr.app N37 Nq38
    have f38_0 := f37_0.keep Kq38
    have f38_1 := f37_1.keep Kq38 (ninS ne35_b28 nin0)
    have f38_2 := f37_2.keep Kq38 (ninS ne35_b28 nin0)
    have f38_3 := f37_3.keep Kq38 (ninS ne35_b28 nin0)
    have f38_4 := f37_4.keep Kq38 (ninS ne35_b28 nin0)
    have f38_5 := f37_5.keep Kq38 (ninS ne35_b28 nin0)
    have f38_6 := f37_6.keep Kq38
    have f38_7 := f37_7.keep Kq38 (ninS ne35_b30 nin0)
    have f38_8 := f37_8.keep Kq38 (ninS ne35_b30 nin0)
    have f38_9 := f37_9.keep Kq38
    have f38_10 := f37_10.keep Kq38
    have f38_11 := f37_11.keep Kq38 (ninS ne35_b31 nin0)
    have f38_12 := f37_12.keep Kq38 (ninS ne35_b31 nin0)
    have f38_13 := f37_13.keep Kq38 (ninS ne35_b31 nin0)
    have f38_14 := f37_14.keep Kq38 (ninS ne35_b31 nin0)
    have f38_15 := f37_15.keep Kq38 (ninS ne35_b31 nin0)
    have f38_16 := P37_0.keep Kq38
    have f38_17 := P37_1.keep Kq38 (ninS (ne_exa P37_0 f37_16 (by decide)) nin0)
    have K38 : Keep h0 T38.heap [] := K37.trans Kq38 (allS (Or.inr sz35) all0)
    have Z38 : n0 ≤ T38.heap.size := Nat.le_trans Z37 Kq38.1
    obtain ⟨cq39, kq39, q39a, q39b, q39c⟩ := isOf hZ rfl f38_10
    obtain ⟨_, _, ⟨T39, L39, k39, n39⟩, -, X39, ⟨Lc39, hQ39, l39, y39, z39⟩, st39⟩ := X38.virtualBack hx (y := (⟨"com/example/many_to_leader/manytoleader/bully/CandidatePool", "assume", "(JLjava/util/Collection;)V"⟩ : MethodName)) (z := (⟨"com/example/many_to_leader/manytoleader/bully/CandidatePool", "assume", "(JLjava/util/Collection;)V"⟩ : MethodName)) hown (mvT hZ (hw _ (List.mem_of_getElem? (i := 178) rfl))) (mvT hZ (hw _ (List.mem_of_getElem? (i := 179) rfl))) (notFace_of_selects (args := #[]) (mvT hZ (hw _ (List.mem_of_getElem? (i := 181) rfl)))) (mvT hZ (hw _ (List.mem_of_getElem? (i := 181) rfl))) (mvT hZ (hw _ (List.mem_of_getElem? (i := 180) rfl))) (by decide) (backOf (W := 0) (rm24 l Z aw hw [] b31 q1 b35 (m0_0 p0 q1 q2 q3 q4) p0 (9223372036854775807 : Int64) (9223372036854775807 : Int64) bb38 kb38 b37 T38.heap n0 Z38 f38_10 lo31 f38_13 f38_14 f38_11 f38_12 f38_15 P38_0 P38_3 P38_2 P38_1 P38_4 P38_5 f38_16 f38_17) hZ (hw _ (List.mem_of_getElem? (i := 182) rfl)) (hw _ (List.mem_of_getElem? (i := 31) rfl)) (by decide) (by decide)) q39a q39c (g := (mkF m 98 #[.val (.int p0), .val (.long q1), .second, .val (.long q2), .second, .val (.long q3), .second, .val (.long q4), .second, .val (.int (1 : Int32)), .val (.int p0), .val (.long (m0_0 p0 q1 q2 q3 q4)), .second, .val (.ref b30), .val (.ref b31), .val (.ref b35), .unset, .unset, .unset, .unset, .unset, .unset, .unset, .unset, .unset, .unset, .unset, .unset] [(.ref b35), (.long q1), (.ref b31)])) rfl (by rw [hml]; rfl) (Steps.refl _) (argsL := [(.long q1), (.ref b35)]) (rest := []) (lenOf pd_0_10 rfl) rfl (by show 2 * 0 + _ ≤ _; exact Nat.le_of_eq rfl) (hb hby at_98) (fun _ _ => ⟨rfl, rfl, (by decide : 8 + 1 ≤ _), (by decide : 46 + 4 ≤ _)⟩)
    dsimp only [Pt.U, Pt.locs, Pt.cells, Pt.slots] at X39 l39 y39 z39 st39 hQ39
    rw [l39, y39, z39] at X39
    obtain ⟨rfl, Nq39, Kq39, P39_0, P39_1, P39_2, P39_3, P39_4⟩ := hQ39
    have N39 := Fr.app N38 Nq39
    have f39_0 := f38_0.keep Kq39
    have f39_1 := f38_1.keep Kq39 (ninS ne31_b28 nin0)
    have f39_2 := f38_2.keep Kq39 (ninS ne31_b28 nin0)
    have f39_3 := f38_3.keep Kq39 (ninS ne31_b28 nin0)
    have f39_4 := f38_4.keep Kq39 (ninS ne31_b28 nin0)
    have f39_5 := f38_5.keep Kq39 (ninS ne31_b28 nin0)
    have f39_6 := f38_6.keep Kq39
    have f39_7 := f38_7.keep Kq39 (ninS ne31_b30 nin0)
    have f39_8 := f38_8.keep Kq39 (ninS ne31_b30 nin0)
    have f39_9 := f38_9.keep Kq39
    have f39_10 := f38_16.keep Kq39
    have f39_11 := f38_17.keep Kq39 (ninS (ne_exa f38_16 f38_10 (by decide)) nin0)
    have f39_12 := P38_0.keep Kq39
    have f39_13 := P38_1.keep Kq39 (ninS (Ne.symm ne35_b31) nin0)
    have f39_14 := P38_2.keep Kq39 (ninS (Ne.symm ne35_b31) nin0)
    have f39_15 := P38_3.keep Kq39 (ninS (Ne.symm ne35_b31) nin0)
    have f39_16 := P38_4.keep Kq39 (ninS (ne_exa P38_5 f38_10 (by decide)) nin0)
    have f39_17 := P38_5.keep Kq39
    have K39 : Keep h0 T39.heap [] := K38.trans Kq39 (allS (Or.inr sz31) all0)
    have Z39 : n0 ≤ T39.heap.size := Nat.le_trans Z38 Kq39.1
    refine own_back (b := T39.setTop (mkF m 123 #[.val (.int p0), .val (.long q1), .second, .val (.long q2), .second, .val (.long q3), .second, .val (.long q4), .second, .val (.int (1 : Int32)), .val (.int p0), .val (.long (m0_0 p0 q1 q2 q3 q4)), .second, .val (.ref b30), .val (.ref b31), .val (.ref b35), .val (.long (q1 + (m0_0 p0 q1 q2 q3 q4))), .second, .unset, .unset, .unset, .unset, .unset, .unset, .unset, .unset, .unset, .unset] [(.int (lcmpW q3 (q1 + (m0_0 p0 q1 q2 q3 q4))))])) (fun t kt => ?_) ?_
    · show Steps p.tables e below (s₁.setTop (mkF m 3 #[.val (.int p0), .val (.long q1), .second, .val (.long q2), .second, .val (.long q3), .second, .val (.long q4), .second, .unset, .unset, .unset, .unset, .unset, .unset, .unset, .unset, .unset, .unset, .unset, .unset, .unset, .unset, .unset, .unset, .unset, .unset, .unset] [(.int (p0 &&& (1 : Int32)))])) _
      refine XS.ifNo X0.here hx rfl (hb hby at_3) rfl ((if0 _ _).trans (feq hc3_1).1) ?_
      refine XS.iconst X0.here hx rfl (hb hby at_6) ?_
      refine XS.goto X0.here hx rfl (pc0 := 7) (pc' := 11) rfl (hb hby at_7) (by decide) (by decide) ?_
      refine XS.istore X0.here hx rfl (hb hby at_11) rfl (l' := #[.val (.int p0), .val (.long q1), .second, .val (.long q2), .second, .val (.long q3), .second, .val (.long q4), .second, .val (.int (1 : Int32)), .unset, .unset, .unset, .unset, .unset, .unset, .unset, .unset, .unset, .unset, .unset, .unset, .unset, .unset, .unset, .unset, .unset, .unset]) rfl ?_
      refine XS.iloadN X0.here hx rfl (hb hby at_13) rfl ?_
      refine XS.istore X0.here hx rfl (hb hby at_14) rfl (l' := #[.val (.int p0), .val (.long q1), .second, .val (.long q2), .second, .val (.long q3), .second, .val (.long q4), .second, .val (.int (1 : Int32)), .val (.int p0), .unset, .unset, .unset, .unset, .unset, .unset, .unset, .unset, .unset, .unset, .unset, .unset, .unset, .unset, .unset, .unset, .unset]) rfl ?_
      refine XS.lconst X0.here hx rfl (hb hby at_16) ?_
      show Steps p.tables e below (s₁.setTop (mkF m 17 #[.val (.int p0), .val (.long q1), .second, .val (.long q2), .second, .val (.long q3), .second, .val (.long q4), .second, .val (.int (1 : Int32)), .val (.int p0), .unset, .unset, .unset, .unset, .unset, .unset, .unset, .unset, .unset, .unset, .unset, .unset, .unset, .unset, .unset, .unset, .unset] [(.long (1 : Int64))])) _
      refine XS.lloadN X0.here hx rfl (hb hby at_17) rfl ?_
      show Steps p.tables e below (s₁.setTop (mkF m 18 #[.val (.int p0), .val (.long q1), .second, .val (.long q2), .second, .val (.long q3), .second, .val (.long q4), .second, .val (.int (1 : Int32)), .val (.int p0), .unset, .unset, .unset, .unset, .unset, .unset, .unset, .unset, .unset, .unset, .unset, .unset, .unset, .unset, .unset, .unset, .unset] [(.long q2), (.long (1 : Int64))])) _
      refine X0.ldc2Long hx hown (mvT hZ (hw _ (List.mem_of_getElem? (i := 0) rfl))) (g := (mkF m 18 #[.val (.int p0), .val (.long q1), .second, .val (.long q2), .second, .val (.long q3), .second, .val (.long q4), .second, .val (.int (1 : Int32)), .val (.int p0), .unset, .unset, .unset, .unset, .unset, .unset, .unset, .unset, .unset, .unset, .unset, .unset, .unset, .unset, .unset, .unset, .unset] [(.long q2), (.long (1 : Int64))])) rfl (hb hby at_18) _ ?_
      refine XS.land X0.here hx rfl (hb hby at_21) rfl ?_
      refine XS.ladd X0.here hx rfl (hb hby at_22) rfl ?_
      refine XS.lstore X0.here hx rfl (hb hby at_23) rfl (l' := #[.val (.int p0), .val (.long q1), .second, .val (.long q2), .second, .val (.long q3), .second, .val (.long q4), .second, .val (.int (1 : Int32)), .val (.int p0), .val (.long (m0_0 p0 q1 q2 q3 q4)), .second, .unset, .unset, .unset, .unset, .unset, .unset, .unset, .unset, .unset, .unset, .unset, .unset, .unset, .unset, .unset]) rfl ?_
      show Steps p.tables e below (s₁.setTop (mkF m 25 #[.val (.int p0), .val (.long q1), .second, .val (.long q2), .second, .val (.long q3), .second, .val (.long q4), .second, .val (.int (1 : Int32)), .val (.int p0), .val (.long (m0_0 p0 q1 q2 q3 q4)), .second, .unset, .unset, .unset, .unset, .unset, .unset, .unset, .unset, .unset, .unset, .unset, .unset, .unset, .unset, .unset] [])) _
      refine st28 _ ?_
      refine XS.dup X28.here hx rfl (hb hby at_28) rfl rfl ?_
      refine XS.lconst X28.here hx rfl (hb hby at_29) ?_
      refine XS.lconst X28.here hx rfl (hb hby at_30) ?_
      show Steps p.tables e below (T28.setTop (mkF m 31 #[.val (.int p0), .val (.long q1), .second, .val (.long q2), .second, .val (.long q3), .second, .val (.long q4), .second, .val (.int (1 : Int32)), .val (.int p0), .val (.long (m0_0 p0 q1 q2 q3 q4)), .second, .unset, .unset, .unset, .unset, .unset, .unset, .unset, .unset, .unset, .unset, .unset, .unset, .unset, .unset, .unset] [(.long (1 : Int64)), (.long (1 : Int64)), (.ref b28), (.ref b28)])) _
      refine st29.trans ?_
      refine XS.lload X29.here hx rfl (hb hby at_34) rfl ?_
      refine XS.lload X29.here hx rfl (hb hby at_36) rfl ?_
      refine XS.lconst X29.here hx rfl (hb hby at_38) ?_
      refine XS.ladd X29.here hx rfl (hb hby at_39) rfl ?_
      show Steps p.tables e below (T29.setTop (mkF m 40 #[.val (.int p0), .val (.long q1), .second, .val (.long q2), .second, .val (.long q3), .second, .val (.long q4), .second, .val (.int (1 : Int32)), .val (.int p0), .val (.long (m0_0 p0 q1 q2 q3 q4)), .second, .unset, .unset, .unset, .unset, .unset, .unset, .unset, .unset, .unset, .unset, .unset, .unset, .unset, .unset, .unset] [(.long ((m0_0 p0 q1 q2 q3 q4) + (1 : Int64))), (.long (m0_0 p0 q1 q2 q3 q4)), (.ref b28)])) _
      refine st30.trans ?_
      refine XS.astore X30.here hx rfl (hb hby at_43) rfl rfl (l' := #[.val (.int p0), .val (.long q1), .second, .val (.long q2), .second, .val (.long q3), .second, .val (.long q4), .second, .val (.int (1 : Int32)), .val (.int p0), .val (.long (m0_0 p0 q1 q2 q3 q4)), .second, .val (.ref b30), .unset, .unset, .unset, .unset, .unset, .unset, .unset, .unset, .unset, .unset, .unset, .unset, .unset, .unset]) rfl ?_
      show Steps p.tables e below (T30.setTop (mkF m 45 #[.val (.int p0), .val (.long q1), .second, .val (.long q2), .second, .val (.long q3), .second, .val (.long q4), .second, .val (.int (1 : Int32)), .val (.int p0), .val (.long (m0_0 p0 q1 q2 q3 q4)), .second, .val (.ref b30), .unset, .unset, .unset, .unset, .unset, .unset, .unset, .unset, .unset, .unset, .unset, .unset, .unset, .unset] [])) _
      refine st31 _ ?_
      refine XS.dup X31.here hx rfl (hb hby at_48) rfl rfl ?_
      refine XS.iload X31.here hx rfl (hb hby at_49) rfl ?_
      refine XS.iconst X31.here hx rfl (hb hby at_51) ?_
      show Steps p.tables e below (T31.setTop (mkF m 52 #[.val (.int p0), .val (.long q1), .second, .val (.long q2), .second, .val (.long q3), .second, .val (.long q4), .second, .val (.int (1 : Int32)), .val (.int p0), .val (.long (m0_0 p0 q1 q2 q3 q4)), .second, .val (.ref b30), .unset, .unset, .unset, .unset, .unset, .unset, .unset, .unset, .unset, .unset, .unset, .unset, .unset, .unset] [(.int (0 : Int32)), (.int p0), (.ref b31), (.ref b31)])) _
      refine st32 _ ?_
      refine XS.dup X32.here hx rfl (hb hby at_55) rfl rfl ?_
      refine XS.iconst X32.here hx rfl (hb hby at_56) ?_
      refine XS.iconst X32.here hx rfl (hb hby at_57) ?_
      show Steps p.tables e below (T32.setTop (mkF m 58 #[.val (.int p0), .val (.long q1), .second, .val (.long q2), .second, .val (.long q3), .second, .val (.long q4), .second, .val (.int (1 : Int32)), .val (.int p0), .val (.long (m0_0 p0 q1 q2 q3 q4)), .second, .val (.ref b30), .unset, .unset, .unset, .unset, .unset, .unset, .unset, .unset, .unset, .unset, .unset, .unset, .unset, .unset] [(.int (1 : Int32)), (.int (1 : Int32)), (.ref b32), (.ref b32), (.int (0 : Int32)), (.int p0), (.ref b31), (.ref b31)])) _
      refine st33.trans ?_
      refine XS.aload X33.here hx rfl (hb hby at_61) rfl rfl ?_
      show Steps p.tables e below (T33.setTop (mkF m 63 #[.val (.int p0), .val (.long q1), .second, .val (.long q2), .second, .val (.long q3), .second, .val (.long q4), .second, .val (.int (1 : Int32)), .val (.int p0), .val (.long (m0_0 p0 q1 q2 q3 q4)), .second, .val (.ref b30), .unset, .unset, .unset, .unset, .unset, .unset, .unset, .unset, .unset, .unset, .unset, .unset, .unset, .unset] [(.ref b30), (.ref b32), (.int (0 : Int32)), (.int p0), (.ref b31), (.ref b31)])) _
      refine st34.trans ?_
      refine XS.astore X34.here hx rfl (hb hby at_66) rfl rfl (l' := #[.val (.int p0), .val (.long q1), .second, .val (.long q2), .second, .val (.long q3), .second, .val (.long q4), .second, .val (.int (1 : Int32)), .val (.int p0), .val (.long (m0_0 p0 q1 q2 q3 q4)), .second, .val (.ref b30), .val (.ref b31), .unset, .unset, .unset, .unset, .unset, .unset, .unset, .unset, .unset, .unset, .unset, .unset, .unset]) rfl ?_
      show Steps p.tables e below (T34.setTop (mkF m 68 #[.val (.int p0), .val (.long q1), .second, .val (.long q2), .second, .val (.long q3), .second, .val (.long q4), .second, .val (.int (1 : Int32)), .val (.int p0), .val (.long (m0_0 p0 q1 q2 q3 q4)), .second, .val (.ref b30), .val (.ref b31), .unset, .unset, .unset, .unset, .unset, .unset, .unset, .unset, .unset, .unset, .unset, .unset, .unset] [])) _
      refine st35 _ ?_
      refine XS.dup X35.here hx rfl (hb hby at_71) rfl rfl ?_
      show Steps p.tables e below (T35.setTop (mkF m 72 #[.val (.int p0), .val (.long q1), .second, .val (.long q2), .second, .val (.long q3), .second, .val (.long q4), .second, .val (.int (1 : Int32)), .val (.int p0), .val (.long (m0_0 p0 q1 q2 q3 q4)), .second, .val (.ref b30), .val (.ref b31), .unset, .unset, .unset, .unset, .unset, .unset, .unset, .unset, .unset, .unset, .unset, .unset, .unset] [(.ref b35), (.ref b35)])) _
      refine st36.trans ?_
      refine XS.astore X36.here hx rfl (hb hby at_75) rfl rfl (l' := #[.val (.int p0), .val (.long q1), .second, .val (.long q2), .second, .val (.long q3), .second, .val (.long q4), .second, .val (.int (1 : Int32)), .val (.int p0), .val (.long (m0_0 p0 q1 q2 q3 q4)), .second, .val (.ref b30), .val (.ref b31), .val (.ref b35), .unset, .unset, .unset, .unset, .unset, .unset, .unset, .unset, .unset, .unset, .unset, .unset]) rfl ?_
      refine XS.iload X36.here hx rfl (hb hby at_77) rfl ?_
      refine XS.ifNo X36.here hx rfl (hb hby at_79) rfl ((if0 _ _).trans (feq (by decide : ¬ ((1 : Int32) = (0 : Int32)))).1) ?_
      refine XS.aload X36.here hx rfl (hb hby at_82) rfl rfl ?_
      refine XS.iload X36.here hx rfl (hb hby at_84) rfl ?_
      show Steps p.tables e below (T36.setTop (mkF m 86 #[.val (.int p0), .val (.long q1), .second, .val (.long q2), .second, .val (.long q3), .second, .val (.long q4), .second, .val (.int (1 : Int32)), .val (.int p0), .val (.long (m0_0 p0 q1 q2 q3 q4)), .second, .val (.ref b30), .val (.ref b31), .val (.ref b35), .unset, .unset, .unset, .unset, .unset, .unset, .unset, .unset, .unset, .unset, .unset, .unset] [(.int p0), (.ref b35)])) _
      refine st37 _ ?_
      show Steps p.tables e below (T37.setTop (mkF m 89 #[.val (.int p0), .val (.long q1), .second, .val (.long q2), .second, .val (.long q3), .second, .val (.long q4), .second, .val (.int (1 : Int32)), .val (.int p0), .val (.long (m0_0 p0 q1 q2 q3 q4)), .second, .val (.ref b30), .val (.ref b31), .val (.ref b35), .unset, .unset, .unset, .unset, .unset, .unset, .unset, .unset, .unset, .unset, .unset, .unset] [(.ref b37), (.ref b35)])) _
      refine st38.trans ?_
      refine XS.pop X38.here hx rfl (hb hby at_92) rfl rfl ?_
      refine XS.aload X38.here hx rfl (hb hby at_93) rfl rfl ?_
      refine XS.lloadN X38.here hx rfl (hb hby at_95) rfl ?_
      refine XS.aload X38.here hx rfl (hb hby at_96) rfl rfl ?_
      show Steps p.tables e below (T38.setTop (mkF m 98 #[.val (.int p0), .val (.long q1), .second, .val (.long q2), .second, .val (.long q3), .second, .val (.long q4), .second, .val (.int (1 : Int32)), .val (.int p0), .val (.long (m0_0 p0 q1 q2 q3 q4)), .second, .val (.ref b30), .val (.ref b31), .val (.ref b35), .unset, .unset, .unset, .unset, .unset, .unset, .unset, .unset, .unset, .unset, .unset, .unset] [(.ref b35), (.long q1), (.ref b31)])) _
      refine st39.trans ?_
      refine XS.iload X39.here hx rfl (hb hby at_101) rfl ?_
      refine XS.ifNo X39.here hx rfl (hb hby at_103) rfl ((if0 _ _).trans (feq (by decide : ¬ ((1 : Int32) = (0 : Int32)))).1) ?_
      refine XS.lloadN X39.here hx rfl (hb hby at_106) rfl ?_
      refine XS.lload X39.here hx rfl (hb hby at_107) rfl ?_
      refine XS.ladd X39.here hx rfl (hb hby at_109) rfl ?_
      refine XS.goto X39.here hx rfl (pc0 := 110) (pc' := 116) rfl (hb hby at_110) (by decide) (by decide) ?_
      show Steps p.tables e below (T39.setTop (mkF m 116 #[.val (.int p0), .val (.long q1), .second, .val (.long q2), .second, .val (.long q3), .second, .val (.long q4), .second, .val (.int (1 : Int32)), .val (.int p0), .val (.long (m0_0 p0 q1 q2 q3 q4)), .second, .val (.ref b30), .val (.ref b31), .val (.ref b35), .unset, .unset, .unset, .unset, .unset, .unset, .unset, .unset, .unset, .unset, .unset, .unset] [(.long (q1 + (m0_0 p0 q1 q2 q3 q4)))])) _
      refine XS.lstore X39.here hx rfl (hb hby at_116) rfl (l' := #[.val (.int p0), .val (.long q1), .second, .val (.long q2), .second, .val (.long q3), .second, .val (.long q4), .second, .val (.int (1 : Int32)), .val (.int p0), .val (.long (m0_0 p0 q1 q2 q3 q4)), .second, .val (.ref b30), .val (.ref b31), .val (.ref b35), .val (.long (q1 + (m0_0 p0 q1 q2 q3 q4))), .second, .unset, .unset, .unset, .unset, .unset, .unset, .unset, .unset, .unset, .unset]) rfl ?_
      refine XS.lload X39.here hx rfl (hb hby at_118) rfl ?_
      refine XS.lload X39.here hx rfl (hb hby at_120) rfl ?_
      refine XS.lcmp X39.here hx rfl (hb hby at_122) rfl ?_
      exact kt
    by_cases hc123_40 : q3 < (q1 + (m0_0 p0 q1 q2 q3 q4))
    · obtain ⟨cq41, kq41, q41a, q41b, q41c⟩ := isOf hZ rfl P39_0
      obtain ⟨_, _, ⟨T41, L41, k41, n41⟩, -, X41, ⟨Lc41, hQ41, l41, y41, z41⟩, st41⟩ := X39.virtualBack hx (y := (⟨"com/example/many_to_leader/manytoleader/bully/CandidatePool", "heartbeatDue", "(J)Z"⟩ : MethodName)) (z := (⟨"com/example/many_to_leader/manytoleader/bully/CandidatePool", "heartbeatDue", "(J)Z"⟩ : MethodName)) hown (mvT hZ (hw _ (List.mem_of_getElem? (i := 120) rfl))) (mvT hZ (hw _ (List.mem_of_getElem? (i := 121) rfl))) (notFace_of_selects (args := #[]) (mvT hZ (hw _ (List.mem_of_getElem? (i := 123) rfl)))) (mvT hZ (hw _ (List.mem_of_getElem? (i := 123) rfl))) (mvT hZ (hw _ (List.mem_of_getElem? (i := 122) rfl))) (by decide) (backOf (W := 0) (rm14 l Z aw hw [] b31 q3 (q1 + (m0_0 p0 q1 q2 q3 q4)) (m0_0 p0 q1 q2 q3 q4) (9223372036854775807 : Int64) (1 : Int32) T39.heap n0 Z39 P39_0 lo31 P39_1 P39_4 P39_3 P39_2) hZ (hw _ (List.mem_of_getElem? (i := 124) rfl)) (hw _ (List.mem_of_getElem? (i := 31) rfl)) (by decide) (by decide)) q41a q41c (g := (mkF m 154 #[.val (.int p0), .val (.long q1), .second, .val (.long q2), .second, .val (.long q3), .second, .val (.long q4), .second, .val (.int (1 : Int32)), .val (.int p0), .val (.long (m0_0 p0 q1 q2 q3 q4)), .second, .val (.ref b30), .val (.ref b31), .val (.ref b35), .val (.long (q1 + (m0_0 p0 q1 q2 q3 q4))), .second, .val (.int (0 : Int32)), .val (.long (q1 + (m0_0 p0 q1 q2 q3 q4))), .second, .unset, .unset, .unset, .unset, .unset, .unset, .unset] [(.long q3), (.ref b31)])) rfl (by rw [hml]; rfl) (Steps.refl _) (argsL := [(.long q3)]) (rest := []) (lenOf pd_0_5 rfl) rfl (by show 2 * 0 + _ ≤ _; exact Nat.le_of_eq rfl) (hb hby at_154) (fun _ _ => ⟨rfl, rfl, (by decide : 9 + 0 ≤ _), (by decide : 50 + 0 ≤ _)⟩)
      dsimp only [Pt.U, Pt.locs, Pt.cells, Pt.slots] at X41 l41 y41 z41 st41 hQ41
      rw [l41, y41, z41] at X41
      obtain ⟨rfl, Nq41, Kq41, P41_0, P41_1, P41_2, P41_3, P41_4⟩ := hQ41
      have N41 := Fr.app N39 Nq41
      have f41_0 := f39_0.keep Kq41
      have f41_1 := f39_1.keep Kq41 (ninS ne31_b28 nin0)
      have f41_2 := f39_2.keep Kq41 (ninS ne31_b28 nin0)
      have f41_3 := f39_3.keep Kq41 (ninS ne31_b28 nin0)
      have f41_4 := f39_4.keep Kq41 (ninS ne31_b28 nin0)
      have f41_5 := f39_5.keep Kq41 (ninS ne31_b28 nin0)
      have f41_6 := f39_6.keep Kq41
      have f41_7 := f39_7.keep Kq41 (ninS ne31_b30 nin0)
      have f41_8 := f39_8.keep Kq41 (ninS ne31_b30 nin0)
      have f41_9 := f39_9.keep Kq41
      have f41_10 := f39_10.keep Kq41
      have f41_11 := f39_11.keep Kq41 (ninS (ne_exa f39_10 P39_0 (by decide)) nin0)
      have f41_12 := f39_12.keep Kq41
      have f41_13 := f39_13.keep Kq41 (ninS (Ne.symm ne35_b31) nin0)
      have f41_14 := f39_14.keep Kq41 (ninS (Ne.symm ne35_b31) nin0)
      have f41_15 := f39_15.keep Kq41 (ninS (Ne.symm ne35_b31) nin0)
      have f41_16 := f39_16.keep Kq41 (ninS (ne_exa f39_17 P39_0 (by decide)) nin0)
      have f41_17 := f39_17.keep Kq41
      have K41 : Keep h0 T41.heap [] := K39.trans Kq41 (allS (Or.inr sz31) all0)
      have Z41 : n0 ≤ T41.heap.size := Nat.le_trans Z39 Kq41.1
      have Fd41 := P41_1
      rw [own_hd_t hc123_40] at Fd41
      obtain ⟨cq42, kq42, q42a, q42b, q42c⟩ := isOf hZ rfl P41_0
      obtain ⟨_, _, ⟨T42, L42, k42, n42⟩, -, X42, ⟨Lc42, hQ42, l42, y42, z42⟩, st42⟩ := X41.virtualBack hx (y := (⟨"com/example/many_to_leader/manytoleader/bully/CandidatePool", "deadline", "()J"⟩ : MethodName)) (z := (⟨"com/example/many_to_leader/manytoleader/bully/CandidatePool", "deadline", "()J"⟩ : MethodName)) hown (mvT hZ (hw _ (List.mem_of_getElem? (i := 125) rfl))) (mvT hZ (hw _ (List.mem_of_getElem? (i := 126) rfl))) (notFace_of_selects (args := #[]) (mvT hZ (hw _ (List.mem_of_getElem? (i := 128) rfl)))) (mvT hZ (hw _ (List.mem_of_getElem? (i := 128) rfl))) (mvT hZ (hw _ (List.mem_of_getElem? (i := 127) rfl))) (by decide) (backOf (W := 0) (rm15 l Z aw hw [] b31 (q1 + (m0_0 p0 q1 q2 q3 q4)) (9223372036854775807 : Int64) T41.heap n0 Z41 Fd41 P41_3) hZ (hw _ (List.mem_of_getElem? (i := 129) rfl)) (hw _ (List.mem_of_getElem? (i := 31) rfl)) (by decide) (by decide)) q42a q42c (g := (mkF m 168 #[.val (.int p0), .val (.long q1), .second, .val (.long q2), .second, .val (.long q3), .second, .val (.long q4), .second, .val (.int (1 : Int32)), .val (.int p0), .val (.long (m0_0 p0 q1 q2 q3 q4)), .second, .val (.ref b30), .val (.ref b31), .val (.ref b35), .val (.long (q1 + (m0_0 p0 q1 q2 q3 q4))), .second, .val (.int (0 : Int32)), .val (.long (q1 + (m0_0 p0 q1 q2 q3 q4))), .second, .val (.int (f14 q3 (q1 + (m0_0 p0 q1 q2 q3 q4)) (m0_0 p0 q1 q2 q3 q4) (9223372036854775807 : Int64) (1 : Int32))), .unset, .unset, .unset, .unset, .unset, .unset] [(.ref b31)])) rfl (by rw [hml]; rfl) (Steps.refl _) (argsL := []) (rest := []) (lenOf pd_0_6 rfl) rfl (by show 2 * 0 + _ ≤ _; exact Nat.le_of_eq rfl) (hb hby at_168) (fun _ _ => ⟨rfl, rfl, (by decide : 9 + 0 ≤ _), (by decide : 50 + 0 ≤ _)⟩)
      dsimp only [Pt.U, Pt.locs, Pt.cells, Pt.slots] at X42 l42 y42 z42 st42 hQ42
      rw [l42, y42, z42] at X42
      obtain ⟨rfl, Nq42, e42⟩ := hQ42
      have N42 := Fr.app N41 Nq42
      obtain ⟨cq43, kq43, q43a, q43b, q43c⟩ := isOf hZ e42 P41_0
      obtain ⟨_, _, ⟨T43, L43, k43, n43⟩, -, X43, ⟨Lc43, hQ43, l43, y43, z43⟩, st43⟩ := X42.virtualBack hx (y := (⟨"com/example/many_to_leader/manytoleader/bully/CandidatePool", "isCandidate", "()Z"⟩ : MethodName)) (z := (⟨"com/example/many_to_leader/manytoleader/bully/CandidatePool", "isCandidate", "()Z"⟩ : MethodName)) hown (mvT hZ (hw _ (List.mem_of_getElem? (i := 134) rfl))) (mvT hZ (hw _ (List.mem_of_getElem? (i := 135) rfl))) (notFace_of_selects (args := #[]) (mvT hZ (hw _ (List.mem_of_getElem? (i := 137) rfl)))) (mvT hZ (hw _ (List.mem_of_getElem? (i := 137) rfl))) (mvT hZ (hw _ (List.mem_of_getElem? (i := 136) rfl))) (by decide) (backOf (W := 0) (rm17c1 l Z aw hw [] b31 T41.heap n0 Z41 P41_4) hZ (hw _ (List.mem_of_getElem? (i := 138) rfl)) (hw _ (List.mem_of_getElem? (i := 31) rfl)) (by decide) (by decide)) q43a q43c (g := (mkF m 179 #[.val (.int p0), .val (.long q1), .second, .val (.long q2), .second, .val (.long q3), .second, .val (.long q4), .second, .val (.int (1 : Int32)), .val (.int p0), .val (.long (m0_0 p0 q1 q2 q3 q4)), .second, .val (.ref b30), .val (.ref b31), .val (.ref b35), .val (.long (q1 + (m0_0 p0 q1 q2 q3 q4))), .second, .val (.int (0 : Int32)), .val (.long (q1 + (m0_0 p0 q1 q2 q3 q4))), .second, .val (.int (f14 q3 (q1 + (m0_0 p0 q1 q2 q3 q4)) (m0_0 p0 q1 q2 q3 q4) (9223372036854775807 : Int64) (1 : Int32))), .unset, .unset, .unset, .unset, .unset, .unset] [(.ref b31)])) rfl (by rw [hml]; rfl) (Steps.refl _) (argsL := []) (rest := []) (lenOf pd_0_7 rfl) rfl (by show 2 * 0 + _ ≤ _; exact Nat.le_of_eq rfl) (hb hby at_179) (fun _ _ => ⟨rfl, e42, (by decide : 9 + 0 ≤ _), (by decide : 50 + 0 ≤ _)⟩)
      dsimp only [Pt.U, Pt.locs, Pt.cells, Pt.slots] at X43 l43 y43 z43 st43 hQ43
      rw [l43, y43, z43] at X43
      obtain ⟨rfl, Nq43, e43⟩ := hQ43
      have N43 := Fr.app N42 Nq43
      refine own_back (b := T43.setTop (mkF m 199 #[.val (.int p0), .val (.long q1), .second, .val (.long q2), .second, .val (.long q3), .second, .val (.long q4), .second, .val (.int (1 : Int32)), .val (.int p0), .val (.long (m0_0 p0 q1 q2 q3 q4)), .second, .val (.ref b30), .val (.ref b31), .val (.ref b35), .val (.long (q1 + (m0_0 p0 q1 q2 q3 q4))), .second, .val (.int (0 : Int32)), .val (.long (q1 + (m0_0 p0 q1 q2 q3 q4))), .second, .val (.int (f14 q3 (q1 + (m0_0 p0 q1 q2 q3 q4)) (m0_0 p0 q1 q2 q3 q4) (9223372036854775807 : Int64) (1 : Int32))), .val (.int (1 : Int32)), .unset, .unset, .unset, .unset, .unset] [(.int (lcmpW q4 (q1 + (m0_0 p0 q1 q2 q3 q4))))])) (fun t kt => ?_) ?_
      · show Steps p.tables e below (T39.setTop (mkF m 123 #[.val (.int p0), .val (.long q1), .second, .val (.long q2), .second, .val (.long q3), .second, .val (.long q4), .second, .val (.int (1 : Int32)), .val (.int p0), .val (.long (m0_0 p0 q1 q2 q3 q4)), .second, .val (.ref b30), .val (.ref b31), .val (.ref b35), .val (.long (q1 + (m0_0 p0 q1 q2 q3 q4))), .second, .unset, .unset, .unset, .unset, .unset, .unset, .unset, .unset, .unset, .unset] [(.int (lcmpW q3 (q1 + (m0_0 p0 q1 q2 q3 q4))))])) _
        refine XS.ifYes X39.here hx rfl (pc0 := 123) (pc' := 130) rfl (hb hby at_123) rfl ((if0 _ _).trans (tlt ((lw_lt _ _).mpr hc123_40)).1) (by decide) (by decide) ?_
        refine XS.iconst X39.here hx rfl (hb hby at_130) ?_
        refine XS.istore X39.here hx rfl (hb hby at_131) rfl (l' := #[.val (.int p0), .val (.long q1), .second, .val (.long q2), .second, .val (.long q3), .second, .val (.long q4), .second, .val (.int (1 : Int32)), .val (.int p0), .val (.long (m0_0 p0 q1 q2 q3 q4)), .second, .val (.ref b30), .val (.ref b31), .val (.ref b35), .val (.long (q1 + (m0_0 p0 q1 q2 q3 q4))), .second, .val (.int (0 : Int32)), .unset, .unset, .unset, .unset, .unset, .unset, .unset, .unset, .unset]) rfl ?_
        refine XS.iload X39.here hx rfl (hb hby at_133) rfl ?_
        refine XS.ifYes X39.here hx rfl (pc0 := 135) (pc' := 146) rfl (hb hby at_135) rfl ((if0 _ _).trans (teq (by decide : (0 : Int32) = (0 : Int32))).1) (by decide) (by decide) ?_
        refine XS.lload X39.here hx rfl (hb hby at_146) rfl ?_
        refine XS.lstore X39.here hx rfl (hb hby at_148) rfl (l' := #[.val (.int p0), .val (.long q1), .second, .val (.long q2), .second, .val (.long q3), .second, .val (.long q4), .second, .val (.int (1 : Int32)), .val (.int p0), .val (.long (m0_0 p0 q1 q2 q3 q4)), .second, .val (.ref b30), .val (.ref b31), .val (.ref b35), .val (.long (q1 + (m0_0 p0 q1 q2 q3 q4))), .second, .val (.int (0 : Int32)), .val (.long (q1 + (m0_0 p0 q1 q2 q3 q4))), .second, .unset, .unset, .unset, .unset, .unset, .unset, .unset]) rfl ?_
        show Steps p.tables e below (T39.setTop (mkF m 150 #[.val (.int p0), .val (.long q1), .second, .val (.long q2), .second, .val (.long q3), .second, .val (.long q4), .second, .val (.int (1 : Int32)), .val (.int p0), .val (.long (m0_0 p0 q1 q2 q3 q4)), .second, .val (.ref b30), .val (.ref b31), .val (.ref b35), .val (.long (q1 + (m0_0 p0 q1 q2 q3 q4))), .second, .val (.int (0 : Int32)), .val (.long (q1 + (m0_0 p0 q1 q2 q3 q4))), .second, .unset, .unset, .unset, .unset, .unset, .unset, .unset] [])) _
        refine XS.aload X39.here hx rfl (hb hby at_150) rfl rfl ?_
        refine XS.lload X39.here hx rfl (hb hby at_152) rfl ?_
        show Steps p.tables e below (T39.setTop (mkF m 154 #[.val (.int p0), .val (.long q1), .second, .val (.long q2), .second, .val (.long q3), .second, .val (.long q4), .second, .val (.int (1 : Int32)), .val (.int p0), .val (.long (m0_0 p0 q1 q2 q3 q4)), .second, .val (.ref b30), .val (.ref b31), .val (.ref b35), .val (.long (q1 + (m0_0 p0 q1 q2 q3 q4))), .second, .val (.int (0 : Int32)), .val (.long (q1 + (m0_0 p0 q1 q2 q3 q4))), .second, .unset, .unset, .unset, .unset, .unset, .unset, .unset] [(.long q3), (.ref b31)])) _
        refine st41.trans ?_
        refine XS.istore X41.here hx rfl (hb hby at_157) rfl (l' := #[.val (.int p0), .val (.long q1), .second, .val (.long q2), .second, .val (.long q3), .second, .val (.long q4), .second, .val (.int (1 : Int32)), .val (.int p0), .val (.long (m0_0 p0 q1 q2 q3 q4)), .second, .val (.ref b30), .val (.ref b31), .val (.ref b35), .val (.long (q1 + (m0_0 p0 q1 q2 q3 q4))), .second, .val (.int (0 : Int32)), .val (.long (q1 + (m0_0 p0 q1 q2 q3 q4))), .second, .val (.int (f14 q3 (q1 + (m0_0 p0 q1 q2 q3 q4)) (m0_0 p0 q1 q2 q3 q4) (9223372036854775807 : Int64) (1 : Int32))), .unset, .unset, .unset, .unset, .unset, .unset]) rfl ?_
        refine XS.iload X41.here hx rfl (hb hby at_159) rfl ?_
        refine XS.iload X41.here hx rfl (hb hby at_161) rfl ?_
        refine XS.icmpNo X41.here hx rfl (hb hby at_163) rfl (teq (own_due0 hc123_40)).2 ?_
        refine XS.aload X41.here hx rfl (hb hby at_166) rfl rfl ?_
        show Steps p.tables e below (T41.setTop (mkF m 168 #[.val (.int p0), .val (.long q1), .second, .val (.long q2), .second, .val (.long q3), .second, .val (.long q4), .second, .val (.int (1 : Int32)), .val (.int p0), .val (.long (m0_0 p0 q1 q2 q3 q4)), .second, .val (.ref b30), .val (.ref b31), .val (.ref b35), .val (.long (q1 + (m0_0 p0 q1 q2 q3 q4))), .second, .val (.int (0 : Int32)), .val (.long (q1 + (m0_0 p0 q1 q2 q3 q4))), .second, .val (.int (f14 q3 (q1 + (m0_0 p0 q1 q2 q3 q4)) (m0_0 p0 q1 q2 q3 q4) (9223372036854775807 : Int64) (1 : Int32))), .unset, .unset, .unset, .unset, .unset, .unset] [(.ref b31)])) _
        refine st42.trans ?_
        refine XS.lload X42.here hx rfl (hb hby at_171) rfl ?_
        refine XS.lcmp X42.here hx rfl (hb hby at_173) rfl ?_
        refine XS.ifNo X42.here hx rfl (hb hby at_174) rfl ((if0 _ _).trans (teq ((lw_eq _ _).mpr (own_mint _))).2) ?_
        refine XS.aload X42.here hx rfl (hb hby at_177) rfl rfl ?_
        show Steps p.tables e below (T42.setTop (mkF m 179 #[.val (.int p0), .val (.long q1), .second, .val (.long q2), .second, .val (.long q3), .second, .val (.long q4), .second, .val (.int (1 : Int32)), .val (.int p0), .val (.long (m0_0 p0 q1 q2 q3 q4)), .second, .val (.ref b30), .val (.ref b31), .val (.ref b35), .val (.long (q1 + (m0_0 p0 q1 q2 q3 q4))), .second, .val (.int (0 : Int32)), .val (.long (q1 + (m0_0 p0 q1 q2 q3 q4))), .second, .val (.int (f14 q3 (q1 + (m0_0 p0 q1 q2 q3 q4)) (m0_0 p0 q1 q2 q3 q4) (9223372036854775807 : Int64) (1 : Int32))), .unset, .unset, .unset, .unset, .unset, .unset] [(.ref b31)])) _
        refine st43.trans ?_
        refine XS.iload X43.here hx rfl (hb hby at_182) rfl ?_
        refine XS.icmpNo X43.here hx rfl (hb hby at_184) rfl (teq (by decide : (1 : Int32) = (1 : Int32))).2 ?_
        refine XS.iconst X43.here hx rfl (hb hby at_187) ?_
        refine XS.goto X43.here hx rfl (pc0 := 188) (pc' := 192) rfl (hb hby at_188) (by decide) (by decide) ?_
        refine XS.istore X43.here hx rfl (hb hby at_192) rfl (l' := #[.val (.int p0), .val (.long q1), .second, .val (.long q2), .second, .val (.long q3), .second, .val (.long q4), .second, .val (.int (1 : Int32)), .val (.int p0), .val (.long (m0_0 p0 q1 q2 q3 q4)), .second, .val (.ref b30), .val (.ref b31), .val (.ref b35), .val (.long (q1 + (m0_0 p0 q1 q2 q3 q4))), .second, .val (.int (0 : Int32)), .val (.long (q1 + (m0_0 p0 q1 q2 q3 q4))), .second, .val (.int (f14 q3 (q1 + (m0_0 p0 q1 q2 q3 q4)) (m0_0 p0 q1 q2 q3 q4) (9223372036854775807 : Int64) (1 : Int32))), .val (.int (1 : Int32)), .unset, .unset, .unset, .unset, .unset]) rfl ?_
        refine XS.lload X43.here hx rfl (hb hby at_194) rfl ?_
        show Steps p.tables e below (T43.setTop (mkF m 196 #[.val (.int p0), .val (.long q1), .second, .val (.long q2), .second, .val (.long q3), .second, .val (.long q4), .second, .val (.int (1 : Int32)), .val (.int p0), .val (.long (m0_0 p0 q1 q2 q3 q4)), .second, .val (.ref b30), .val (.ref b31), .val (.ref b35), .val (.long (q1 + (m0_0 p0 q1 q2 q3 q4))), .second, .val (.int (0 : Int32)), .val (.long (q1 + (m0_0 p0 q1 q2 q3 q4))), .second, .val (.int (f14 q3 (q1 + (m0_0 p0 q1 q2 q3 q4)) (m0_0 p0 q1 q2 q3 q4) (9223372036854775807 : Int64) (1 : Int32))), .val (.int (1 : Int32)), .unset, .unset, .unset, .unset, .unset] [(.long q4)])) _
        refine XS.lload X43.here hx rfl (hb hby at_196) rfl ?_
        refine XS.lcmp X43.here hx rfl (hb hby at_198) rfl ?_
        exact kt
      by_cases hc199_44 : q4 < (q1 + (m0_0 p0 q1 q2 q3 q4))
      · obtain ⟨cq45, kq45, q45a, q45b, q45c⟩ := isOf hZ e43 P41_0
        obtain ⟨_, _, ⟨T45, L45, k45, n45⟩, -, X45, ⟨Lc45, hQ45, l45, y45, z45⟩, st45⟩ := X43.virtualBack hx (y := (⟨"com/example/many_to_leader/manytoleader/bully/CandidatePool", "heartbeatDue", "(J)Z"⟩ : MethodName)) (z := (⟨"com/example/many_to_leader/manytoleader/bully/CandidatePool", "heartbeatDue", "(J)Z"⟩ : MethodName)) hown (mvT hZ (hw _ (List.mem_of_getElem? (i := 120) rfl))) (mvT hZ (hw _ (List.mem_of_getElem? (i := 121) rfl))) (notFace_of_selects (args := #[]) (mvT hZ (hw _ (List.mem_of_getElem? (i := 123) rfl)))) (mvT hZ (hw _ (List.mem_of_getElem? (i := 123) rfl))) (mvT hZ (hw _ (List.mem_of_getElem? (i := 122) rfl))) (by decide) (backOf (W := 0) (rm14 l Z aw hw [] b31 q4 (q1 + (m0_0 p0 q1 q2 q3 q4)) (m0_0 p0 q1 q2 q3 q4) (9223372036854775807 : Int64) (1 : Int32) T41.heap n0 Z41 P41_0 lo31 Fd41 P41_2 P41_3 P41_4) hZ (hw _ (List.mem_of_getElem? (i := 124) rfl)) (hw _ (List.mem_of_getElem? (i := 31) rfl)) (by decide) (by decide)) q45a q45c (g := (mkF m 230 #[.val (.int p0), .val (.long q1), .second, .val (.long q2), .second, .val (.long q3), .second, .val (.long q4), .second, .val (.int (1 : Int32)), .val (.int p0), .val (.long (m0_0 p0 q1 q2 q3 q4)), .second, .val (.ref b30), .val (.ref b31), .val (.ref b35), .val (.long (q1 + (m0_0 p0 q1 q2 q3 q4))), .second, .val (.int (0 : Int32)), .val (.long (q1 + (m0_0 p0 q1 q2 q3 q4))), .second, .val (.int (f14 q3 (q1 + (m0_0 p0 q1 q2 q3 q4)) (m0_0 p0 q1 q2 q3 q4) (9223372036854775807 : Int64) (1 : Int32))), .val (.int (1 : Int32)), .val (.int (0 : Int32)), .val (.long (q1 + (m0_0 p0 q1 q2 q3 q4))), .second, .unset, .unset] [(.long q4), (.ref b31)])) rfl (by rw [hml]; rfl) (Steps.refl _) (argsL := [(.long q4)]) (rest := []) (lenOf pd_0_5 rfl) rfl (by show 2 * 0 + _ ≤ _; exact Nat.le_of_eq rfl) (hb hby at_230) (fun _ _ => ⟨rfl, e43, (by decide : 9 + 0 ≤ _), (by decide : 50 + 0 ≤ _)⟩)
        dsimp only [Pt.U, Pt.locs, Pt.cells, Pt.slots] at X45 l45 y45 z45 st45 hQ45
        rw [l45, y45, z45] at X45
        obtain ⟨rfl, Nq45, Kq45, P45_0, P45_1, P45_2, P45_3, P45_4⟩ := hQ45
        have N45 := Fr.app N43 Nq45
        have f45_0 := f41_0.keep Kq45
        have f45_1 := f41_1.keep Kq45 (ninS ne31_b28 nin0)
        have f45_2 := f41_2.keep Kq45 (ninS ne31_b28 nin0)
        have f45_3 := f41_3.keep Kq45 (ninS ne31_b28 nin0)
        have f45_4 := f41_4.keep Kq45 (ninS ne31_b28 nin0)
        have f45_5 := f41_5.keep Kq45 (ninS ne31_b28 nin0)
        have f45_6 := f41_6.keep Kq45
        have f45_7 := f41_7.keep Kq45 (ninS ne31_b30 nin0)
        have f45_8 := f41_8.keep Kq45 (ninS ne31_b30 nin0)
        have f45_9 := f41_9.keep Kq45
        have f45_10 := f41_10.keep Kq45
        have f45_11 := f41_11.keep Kq45 (ninS (ne_exa f41_10 P41_0 (by decide)) nin0)
        have f45_12 := f41_12.keep Kq45
        have f45_13 := f41_13.keep Kq45 (ninS (Ne.symm ne35_b31) nin0)
        have f45_14 := f41_14.keep Kq45 (ninS (Ne.symm ne35_b31) nin0)
        have f45_15 := f41_15.keep Kq45 (ninS (Ne.symm ne35_b31) nin0)
        have f45_16 := f41_16.keep Kq45 (ninS (ne_exa f41_17 P41_0 (by decide)) nin0)
        have f45_17 := f41_17.keep Kq45
        have K45 : Keep h0 T45.heap [] := K41.trans Kq45 (allS (Or.inr sz31) all0)
        have Z45 : n0 ≤ T45.heap.size := Nat.le_trans Z41 Kq45.1
        have Fd45 := P45_1
        rw [own_hd_t hc199_44] at Fd45
        obtain ⟨cq46, kq46, q46a, q46b, q46c⟩ := isOf hZ rfl P45_0
        obtain ⟨_, _, ⟨T46, L46, k46, n46⟩, -, X46, ⟨Lc46, hQ46, l46, y46, z46⟩, st46⟩ := X45.virtualBack hx (y := (⟨"com/example/many_to_leader/manytoleader/bully/CandidatePool", "deadline", "()J"⟩ : MethodName)) (z := (⟨"com/example/many_to_leader/manytoleader/bully/CandidatePool", "deadline", "()J"⟩ : MethodName)) hown (mvT hZ (hw _ (List.mem_of_getElem? (i := 125) rfl))) (mvT hZ (hw _ (List.mem_of_getElem? (i := 126) rfl))) (notFace_of_selects (args := #[]) (mvT hZ (hw _ (List.mem_of_getElem? (i := 128) rfl)))) (mvT hZ (hw _ (List.mem_of_getElem? (i := 128) rfl))) (mvT hZ (hw _ (List.mem_of_getElem? (i := 127) rfl))) (by decide) (backOf (W := 0) (rm15 l Z aw hw [] b31 (q1 + (m0_0 p0 q1 q2 q3 q4)) (9223372036854775807 : Int64) T45.heap n0 Z45 Fd45 P45_3) hZ (hw _ (List.mem_of_getElem? (i := 129) rfl)) (hw _ (List.mem_of_getElem? (i := 31) rfl)) (by decide) (by decide)) q46a q46c (g := (mkF m 244 #[.val (.int p0), .val (.long q1), .second, .val (.long q2), .second, .val (.long q3), .second, .val (.long q4), .second, .val (.int (1 : Int32)), .val (.int p0), .val (.long (m0_0 p0 q1 q2 q3 q4)), .second, .val (.ref b30), .val (.ref b31), .val (.ref b35), .val (.long (q1 + (m0_0 p0 q1 q2 q3 q4))), .second, .val (.int (0 : Int32)), .val (.long (q1 + (m0_0 p0 q1 q2 q3 q4))), .second, .val (.int (f14 q3 (q1 + (m0_0 p0 q1 q2 q3 q4)) (m0_0 p0 q1 q2 q3 q4) (9223372036854775807 : Int64) (1 : Int32))), .val (.int (1 : Int32)), .val (.int (0 : Int32)), .val (.long (q1 + (m0_0 p0 q1 q2 q3 q4))), .second, .val (.int (f14 q4 (q1 + (m0_0 p0 q1 q2 q3 q4)) (m0_0 p0 q1 q2 q3 q4) (9223372036854775807 : Int64) (1 : Int32))), .unset] [(.ref b31)])) rfl (by rw [hml]; rfl) (Steps.refl _) (argsL := []) (rest := []) (lenOf pd_0_6 rfl) rfl (by show 2 * 0 + _ ≤ _; exact Nat.le_of_eq rfl) (hb hby at_244) (fun _ _ => ⟨rfl, rfl, (by decide : 9 + 0 ≤ _), (by decide : 50 + 0 ≤ _)⟩)
        dsimp only [Pt.U, Pt.locs, Pt.cells, Pt.slots] at X46 l46 y46 z46 st46 hQ46
        rw [l46, y46, z46] at X46
        obtain ⟨rfl, Nq46, e46⟩ := hQ46
        have N46 := Fr.app N45 Nq46
        refine own_back (b := T46.setTop (mkF m 275 #[.val (.int p0), .val (.long q1), .second, .val (.long q2), .second, .val (.long q3), .second, .val (.long q4), .second, .val (.int (1 : Int32)), .val (.int p0), .val (.long (m0_0 p0 q1 q2 q3 q4)), .second, .val (.ref b30), .val (.ref b31), .val (.ref b35), .val (.long (q1 + (m0_0 p0 q1 q2 q3 q4))), .second, .val (.int (0 : Int32)), .val (.long (q1 + (m0_0 p0 q1 q2 q3 q4))), .second, .val (.int (f14 q3 (q1 + (m0_0 p0 q1 q2 q3 q4)) (m0_0 p0 q1 q2 q3 q4) (9223372036854775807 : Int64) (1 : Int32))), .val (.int (1 : Int32)), .val (.int (0 : Int32)), .val (.long (q1 + (m0_0 p0 q1 q2 q3 q4))), .second, .val (.int (f14 q4 (q1 + (m0_0 p0 q1 q2 q3 q4)) (m0_0 p0 q1 q2 q3 q4) (9223372036854775807 : Int64) (1 : Int32))), .val (.int (1 : Int32))] [(.int (1 : Int32))])) (fun t kt => ?_) ?_
        · show Steps p.tables e below (T43.setTop (mkF m 199 #[.val (.int p0), .val (.long q1), .second, .val (.long q2), .second, .val (.long q3), .second, .val (.long q4), .second, .val (.int (1 : Int32)), .val (.int p0), .val (.long (m0_0 p0 q1 q2 q3 q4)), .second, .val (.ref b30), .val (.ref b31), .val (.ref b35), .val (.long (q1 + (m0_0 p0 q1 q2 q3 q4))), .second, .val (.int (0 : Int32)), .val (.long (q1 + (m0_0 p0 q1 q2 q3 q4))), .second, .val (.int (f14 q3 (q1 + (m0_0 p0 q1 q2 q3 q4)) (m0_0 p0 q1 q2 q3 q4) (9223372036854775807 : Int64) (1 : Int32))), .val (.int (1 : Int32)), .unset, .unset, .unset, .unset, .unset] [(.int (lcmpW q4 (q1 + (m0_0 p0 q1 q2 q3 q4))))])) _
          refine XS.ifYes X43.here hx rfl (pc0 := 199) (pc' := 206) rfl (hb hby at_199) rfl ((if0 _ _).trans (tlt ((lw_lt _ _).mpr hc199_44)).1) (by decide) (by decide) ?_
          refine XS.iconst X43.here hx rfl (hb hby at_206) ?_
          refine XS.istore X43.here hx rfl (hb hby at_207) rfl (l' := #[.val (.int p0), .val (.long q1), .second, .val (.long q2), .second, .val (.long q3), .second, .val (.long q4), .second, .val (.int (1 : Int32)), .val (.int p0), .val (.long (m0_0 p0 q1 q2 q3 q4)), .second, .val (.ref b30), .val (.ref b31), .val (.ref b35), .val (.long (q1 + (m0_0 p0 q1 q2 q3 q4))), .second, .val (.int (0 : Int32)), .val (.long (q1 + (m0_0 p0 q1 q2 q3 q4))), .second, .val (.int (f14 q3 (q1 + (m0_0 p0 q1 q2 q3 q4)) (m0_0 p0 q1 q2 q3 q4) (9223372036854775807 : Int64) (1 : Int32))), .val (.int (1 : Int32)), .val (.int (0 : Int32)), .unset, .unset, .unset, .unset]) rfl ?_
          refine XS.iload X43.here hx rfl (hb hby at_209) rfl ?_
          refine XS.ifYes X43.here hx rfl (pc0 := 211) (pc' := 222) rfl (hb hby at_211) rfl ((if0 _ _).trans (teq (by decide : (0 : Int32) = (0 : Int32))).1) (by decide) (by decide) ?_
          refine XS.lload X43.here hx rfl (hb hby at_222) rfl ?_
          refine XS.lstore X43.here hx rfl (hb hby at_224) rfl (l' := #[.val (.int p0), .val (.long q1), .second, .val (.long q2), .second, .val (.long q3), .second, .val (.long q4), .second, .val (.int (1 : Int32)), .val (.int p0), .val (.long (m0_0 p0 q1 q2 q3 q4)), .second, .val (.ref b30), .val (.ref b31), .val (.ref b35), .val (.long (q1 + (m0_0 p0 q1 q2 q3 q4))), .second, .val (.int (0 : Int32)), .val (.long (q1 + (m0_0 p0 q1 q2 q3 q4))), .second, .val (.int (f14 q3 (q1 + (m0_0 p0 q1 q2 q3 q4)) (m0_0 p0 q1 q2 q3 q4) (9223372036854775807 : Int64) (1 : Int32))), .val (.int (1 : Int32)), .val (.int (0 : Int32)), .val (.long (q1 + (m0_0 p0 q1 q2 q3 q4))), .second, .unset, .unset]) rfl ?_
          show Steps p.tables e below (T43.setTop (mkF m 226 #[.val (.int p0), .val (.long q1), .second, .val (.long q2), .second, .val (.long q3), .second, .val (.long q4), .second, .val (.int (1 : Int32)), .val (.int p0), .val (.long (m0_0 p0 q1 q2 q3 q4)), .second, .val (.ref b30), .val (.ref b31), .val (.ref b35), .val (.long (q1 + (m0_0 p0 q1 q2 q3 q4))), .second, .val (.int (0 : Int32)), .val (.long (q1 + (m0_0 p0 q1 q2 q3 q4))), .second, .val (.int (f14 q3 (q1 + (m0_0 p0 q1 q2 q3 q4)) (m0_0 p0 q1 q2 q3 q4) (9223372036854775807 : Int64) (1 : Int32))), .val (.int (1 : Int32)), .val (.int (0 : Int32)), .val (.long (q1 + (m0_0 p0 q1 q2 q3 q4))), .second, .unset, .unset] [])) _
          refine XS.aload X43.here hx rfl (hb hby at_226) rfl rfl ?_
          refine XS.lload X43.here hx rfl (hb hby at_228) rfl ?_
          show Steps p.tables e below (T43.setTop (mkF m 230 #[.val (.int p0), .val (.long q1), .second, .val (.long q2), .second, .val (.long q3), .second, .val (.long q4), .second, .val (.int (1 : Int32)), .val (.int p0), .val (.long (m0_0 p0 q1 q2 q3 q4)), .second, .val (.ref b30), .val (.ref b31), .val (.ref b35), .val (.long (q1 + (m0_0 p0 q1 q2 q3 q4))), .second, .val (.int (0 : Int32)), .val (.long (q1 + (m0_0 p0 q1 q2 q3 q4))), .second, .val (.int (f14 q3 (q1 + (m0_0 p0 q1 q2 q3 q4)) (m0_0 p0 q1 q2 q3 q4) (9223372036854775807 : Int64) (1 : Int32))), .val (.int (1 : Int32)), .val (.int (0 : Int32)), .val (.long (q1 + (m0_0 p0 q1 q2 q3 q4))), .second, .unset, .unset] [(.long q4), (.ref b31)])) _
          refine st45.trans ?_
          refine XS.istore X45.here hx rfl (hb hby at_233) rfl (l' := #[.val (.int p0), .val (.long q1), .second, .val (.long q2), .second, .val (.long q3), .second, .val (.long q4), .second, .val (.int (1 : Int32)), .val (.int p0), .val (.long (m0_0 p0 q1 q2 q3 q4)), .second, .val (.ref b30), .val (.ref b31), .val (.ref b35), .val (.long (q1 + (m0_0 p0 q1 q2 q3 q4))), .second, .val (.int (0 : Int32)), .val (.long (q1 + (m0_0 p0 q1 q2 q3 q4))), .second, .val (.int (f14 q3 (q1 + (m0_0 p0 q1 q2 q3 q4)) (m0_0 p0 q1 q2 q3 q4) (9223372036854775807 : Int64) (1 : Int32))), .val (.int (1 : Int32)), .val (.int (0 : Int32)), .val (.long (q1 + (m0_0 p0 q1 q2 q3 q4))), .second, .val (.int (f14 q4 (q1 + (m0_0 p0 q1 q2 q3 q4)) (m0_0 p0 q1 q2 q3 q4) (9223372036854775807 : Int64) (1 : Int32))), .unset]) rfl ?_
          refine XS.iload X45.here hx rfl (hb hby at_235) rfl ?_
          refine XS.iload X45.here hx rfl (hb hby at_237) rfl ?_
          refine XS.icmpNo X45.here hx rfl (hb hby at_239) rfl (teq (own_due0 hc199_44)).2 ?_
          refine XS.aload X45.here hx rfl (hb hby at_242) rfl rfl ?_
          show Steps p.tables e below (T45.setTop (mkF m 244 #[.val (.int p0), .val (.long q1), .second, .val (.long q2), .second, .val (.long q3), .second, .val (.long q4), .second, .val (.int (1 : Int32)), .val (.int p0), .val (.long (m0_0 p0 q1 q2 q3 q4)), .second, .val (.ref b30), .val (.ref b31), .val (.ref b35), .val (.long (q1 + (m0_0 p0 q1 q2 q3 q4))), .second, .val (.int (0 : Int32)), .val (.long (q1 + (m0_0 p0 q1 q2 q3 q4))), .second, .val (.int (f14 q3 (q1 + (m0_0 p0 q1 q2 q3 q4)) (m0_0 p0 q1 q2 q3 q4) (9223372036854775807 : Int64) (1 : Int32))), .val (.int (1 : Int32)), .val (.int (0 : Int32)), .val (.long (q1 + (m0_0 p0 q1 q2 q3 q4))), .second, .val (.int (f14 q4 (q1 + (m0_0 p0 q1 q2 q3 q4)) (m0_0 p0 q1 q2 q3 q4) (9223372036854775807 : Int64) (1 : Int32))), .unset] [(.ref b31)])) _
          refine st46.trans ?_
          refine XS.lload X46.here hx rfl (hb hby at_247) rfl ?_
          refine XS.lcmp X46.here hx rfl (hb hby at_249) rfl ?_
          refine XS.ifNo X46.here hx rfl (hb hby at_250) rfl ((if0 _ _).trans (teq ((lw_eq _ _).mpr (own_mint _))).2) ?_
          refine XS.iconst X46.here hx rfl (hb hby at_253) ?_
          refine XS.goto X46.here hx rfl (pc0 := 254) (pc' := 258) rfl (hb hby at_254) (by decide) (by decide) ?_
          refine XS.istore X46.here hx rfl (hb hby at_258) rfl (l' := #[.val (.int p0), .val (.long q1), .second, .val (.long q2), .second, .val (.long q3), .second, .val (.long q4), .second, .val (.int (1 : Int32)), .val (.int p0), .val (.long (m0_0 p0 q1 q2 q3 q4)), .second, .val (.ref b30), .val (.ref b31), .val (.ref b35), .val (.long (q1 + (m0_0 p0 q1 q2 q3 q4))), .second, .val (.int (0 : Int32)), .val (.long (q1 + (m0_0 p0 q1 q2 q3 q4))), .second, .val (.int (f14 q3 (q1 + (m0_0 p0 q1 q2 q3 q4)) (m0_0 p0 q1 q2 q3 q4) (9223372036854775807 : Int64) (1 : Int32))), .val (.int (1 : Int32)), .val (.int (0 : Int32)), .val (.long (q1 + (m0_0 p0 q1 q2 q3 q4))), .second, .val (.int (f14 q4 (q1 + (m0_0 p0 q1 q2 q3 q4)) (m0_0 p0 q1 q2 q3 q4) (9223372036854775807 : Int64) (1 : Int32))), .val (.int (1 : Int32))]) rfl ?_
          show Steps p.tables e below (T46.setTop (mkF m 260 #[.val (.int p0), .val (.long q1), .second, .val (.long q2), .second, .val (.long q3), .second, .val (.long q4), .second, .val (.int (1 : Int32)), .val (.int p0), .val (.long (m0_0 p0 q1 q2 q3 q4)), .second, .val (.ref b30), .val (.ref b31), .val (.ref b35), .val (.long (q1 + (m0_0 p0 q1 q2 q3 q4))), .second, .val (.int (0 : Int32)), .val (.long (q1 + (m0_0 p0 q1 q2 q3 q4))), .second, .val (.int (f14 q3 (q1 + (m0_0 p0 q1 q2 q3 q4)) (m0_0 p0 q1 q2 q3 q4) (9223372036854775807 : Int64) (1 : Int32))), .val (.int (1 : Int32)), .val (.int (0 : Int32)), .val (.long (q1 + (m0_0 p0 q1 q2 q3 q4))), .second, .val (.int (f14 q4 (q1 + (m0_0 p0 q1 q2 q3 q4)) (m0_0 p0 q1 q2 q3 q4) (9223372036854775807 : Int64) (1 : Int32))), .val (.int (1 : Int32))] [])) _
          refine XS.iload X46.here hx rfl (hb hby at_260) rfl ?_
          refine XS.ifNo X46.here hx rfl (hb hby at_262) rfl ((if0 _ _).trans (feq (by decide : ¬ ((1 : Int32) = (0 : Int32)))).1) ?_
          refine XS.iload X46.here hx rfl (hb hby at_265) rfl ?_
          refine XS.ifNo X46.here hx rfl (hb hby at_267) rfl ((if0 _ _).trans (feq (by decide : ¬ ((1 : Int32) = (0 : Int32)))).1) ?_
          refine XS.iconst X46.here hx rfl (hb hby at_270) ?_
          refine XS.goto X46.here hx rfl (pc0 := 271) (pc' := 275) rfl (hb hby at_271) (by decide) (by decide) ?_
          exact kt
        obtain ⟨fs, hr, hrun, hended, hW, hsame⟩ := X46.leave (v := some (.int (1 : Int32))) (fun h => by rw [Bd.returns] at h; cases h) (BodyLoose.notSynchronized Bd)
        refine ⟨_, _, ?_, hrun, hended, _, _, rfl, ?_, ⟨_, rfl⟩, hW, hsame.mono (by decide) (by decide)⟩
        · show Steps p.tables e below (T46.setTop (mkF m 275 #[.val (.int p0), .val (.long q1), .second, .val (.long q2), .second, .val (.long q3), .second, .val (.long q4), .second, .val (.int (1 : Int32)), .val (.int p0), .val (.long (m0_0 p0 q1 q2 q3 q4)), .second, .val (.ref b30), .val (.ref b31), .val (.ref b35), .val (.long (q1 + (m0_0 p0 q1 q2 q3 q4))), .second, .val (.int (0 : Int32)), .val (.long (q1 + (m0_0 p0 q1 q2 q3 q4))), .second, .val (.int (f14 q3 (q1 + (m0_0 p0 q1 q2 q3 q4)) (m0_0 p0 q1 q2 q3 q4) (9223372036854775807 : Int64) (1 : Int32))), .val (.int (1 : Int32)), .val (.int (0 : Int32)), .val (.long (q1 + (m0_0 p0 q1 q2 q3 q4))), .second, .val (.int (f14 q4 (q1 + (m0_0 p0 q1 q2 q3 q4)) (m0_0 p0 q1 q2 q3 q4) (9223372036854775807 : Int64) (1 : Int32))), .val (.int (1 : Int32))] [(.int (1 : Int32))])) _
          exact retN X46 hx (t := .boolean) Bd.returns (by simp) (hb hby at_275) hr
        · show Q0 Z p0 q1 q2 q3 q4 wd kd wc h0 n0 _ T46.heap _
          rw [e46]
          exact ⟨by rw [show f0 p0 q1 q2 q3 q4 = (1 : Int32) from by unfold f0; rw [if_neg hc3_1, if_pos hc123_40, if_pos hc199_44]], N46⟩
      · obtain ⟨cq47, kq47, q47a, q47b, q47c⟩ := isOf hZ e43 P41_0
        obtain ⟨_, _, ⟨T47, L47, k47, n47⟩, -, X47, ⟨Lc47, hQ47, l47, y47, z47⟩, st47⟩ := X43.virtualBack hx (y := (⟨"com/example/many_to_leader/manytoleader/bully/CandidatePool", "heartbeatDue", "(J)Z"⟩ : MethodName)) (z := (⟨"com/example/many_to_leader/manytoleader/bully/CandidatePool", "heartbeatDue", "(J)Z"⟩ : MethodName)) hown (mvT hZ (hw _ (List.mem_of_getElem? (i := 120) rfl))) (mvT hZ (hw _ (List.mem_of_getElem? (i := 121) rfl))) (notFace_of_selects (args := #[]) (mvT hZ (hw _ (List.mem_of_getElem? (i := 123) rfl)))) (mvT hZ (hw _ (List.mem_of_getElem? (i := 123) rfl))) (mvT hZ (hw _ (List.mem_of_getElem? (i := 122) rfl))) (by decide) (backOf (W := 0) (rm14 l Z aw hw [] b31 q4 (q1 + (m0_0 p0 q1 q2 q3 q4)) (m0_0 p0 q1 q2 q3 q4) (9223372036854775807 : Int64) (1 : Int32) T41.heap n0 Z41 P41_0 lo31 Fd41 P41_2 P41_3 P41_4) hZ (hw _ (List.mem_of_getElem? (i := 124) rfl)) (hw _ (List.mem_of_getElem? (i := 31) rfl)) (by decide) (by decide)) q47a q47c (g := (mkF m 230 #[.val (.int p0), .val (.long q1), .second, .val (.long q2), .second, .val (.long q3), .second, .val (.long q4), .second, .val (.int (1 : Int32)), .val (.int p0), .val (.long (m0_0 p0 q1 q2 q3 q4)), .second, .val (.ref b30), .val (.ref b31), .val (.ref b35), .val (.long (q1 + (m0_0 p0 q1 q2 q3 q4))), .second, .val (.int (0 : Int32)), .val (.long (q1 + (m0_0 p0 q1 q2 q3 q4))), .second, .val (.int (f14 q3 (q1 + (m0_0 p0 q1 q2 q3 q4)) (m0_0 p0 q1 q2 q3 q4) (9223372036854775807 : Int64) (1 : Int32))), .val (.int (1 : Int32)), .val (.int (1 : Int32)), .val (.long (q4 + (m0_0 p0 q1 q2 q3 q4))), .second, .unset, .unset] [(.long q4), (.ref b31)])) rfl (by rw [hml]; rfl) (Steps.refl _) (argsL := [(.long q4)]) (rest := []) (lenOf pd_0_5 rfl) rfl (by show 2 * 0 + _ ≤ _; exact Nat.le_of_eq rfl) (hb hby at_230) (fun _ _ => ⟨rfl, e43, (by decide : 9 + 0 ≤ _), (by decide : 50 + 0 ≤ _)⟩)
        dsimp only [Pt.U, Pt.locs, Pt.cells, Pt.slots] at X47 l47 y47 z47 st47 hQ47
        rw [l47, y47, z47] at X47
        obtain ⟨rfl, Nq47, Kq47, P47_0, P47_1, P47_2, P47_3, P47_4⟩ := hQ47
        have N47 := Fr.app N43 Nq47
        have f47_0 := f41_0.keep Kq47
        have f47_1 := f41_1.keep Kq47 (ninS ne31_b28 nin0)
        have f47_2 := f41_2.keep Kq47 (ninS ne31_b28 nin0)
        have f47_3 := f41_3.keep Kq47 (ninS ne31_b28 nin0)
        have f47_4 := f41_4.keep Kq47 (ninS ne31_b28 nin0)
        have f47_5 := f41_5.keep Kq47 (ninS ne31_b28 nin0)
        have f47_6 := f41_6.keep Kq47
        have f47_7 := f41_7.keep Kq47 (ninS ne31_b30 nin0)
        have f47_8 := f41_8.keep Kq47 (ninS ne31_b30 nin0)
        have f47_9 := f41_9.keep Kq47
        have f47_10 := f41_10.keep Kq47
        have f47_11 := f41_11.keep Kq47 (ninS (ne_exa f41_10 P41_0 (by decide)) nin0)
        have f47_12 := f41_12.keep Kq47
        have f47_13 := f41_13.keep Kq47 (ninS (Ne.symm ne35_b31) nin0)
        have f47_14 := f41_14.keep Kq47 (ninS (Ne.symm ne35_b31) nin0)
        have f47_15 := f41_15.keep Kq47 (ninS (Ne.symm ne35_b31) nin0)
        have f47_16 := f41_16.keep Kq47 (ninS (ne_exa f41_17 P41_0 (by decide)) nin0)
        have f47_17 := f41_17.keep Kq47
        have K47 : Keep h0 T47.heap [] := K41.trans Kq47 (allS (Or.inr sz31) all0)
        have Z47 : n0 ≤ T47.heap.size := Nat.le_trans Z41 Kq47.1
        have Fd47 := P47_1
        rw [own_hd_f hc199_44] at Fd47
        obtain ⟨cq48, kq48, q48a, q48b, q48c⟩ := isOf hZ rfl P47_0
        obtain ⟨_, _, ⟨T48, L48, k48, n48⟩, -, X48, ⟨Lc48, hQ48, l48, y48, z48⟩, st48⟩ := X47.virtualBack hx (y := (⟨"com/example/many_to_leader/manytoleader/bully/CandidatePool", "deadline", "()J"⟩ : MethodName)) (z := (⟨"com/example/many_to_leader/manytoleader/bully/CandidatePool", "deadline", "()J"⟩ : MethodName)) hown (mvT hZ (hw _ (List.mem_of_getElem? (i := 125) rfl))) (mvT hZ (hw _ (List.mem_of_getElem? (i := 126) rfl))) (notFace_of_selects (args := #[]) (mvT hZ (hw _ (List.mem_of_getElem? (i := 128) rfl)))) (mvT hZ (hw _ (List.mem_of_getElem? (i := 128) rfl))) (mvT hZ (hw _ (List.mem_of_getElem? (i := 127) rfl))) (by decide) (backOf (W := 0) (rm15 l Z aw hw [] b31 (q4 + (m0_0 p0 q1 q2 q3 q4)) (9223372036854775807 : Int64) T47.heap n0 Z47 Fd47 P47_3) hZ (hw _ (List.mem_of_getElem? (i := 129) rfl)) (hw _ (List.mem_of_getElem? (i := 31) rfl)) (by decide) (by decide)) q48a q48c (g := (mkF m 244 #[.val (.int p0), .val (.long q1), .second, .val (.long q2), .second, .val (.long q3), .second, .val (.long q4), .second, .val (.int (1 : Int32)), .val (.int p0), .val (.long (m0_0 p0 q1 q2 q3 q4)), .second, .val (.ref b30), .val (.ref b31), .val (.ref b35), .val (.long (q1 + (m0_0 p0 q1 q2 q3 q4))), .second, .val (.int (0 : Int32)), .val (.long (q1 + (m0_0 p0 q1 q2 q3 q4))), .second, .val (.int (f14 q3 (q1 + (m0_0 p0 q1 q2 q3 q4)) (m0_0 p0 q1 q2 q3 q4) (9223372036854775807 : Int64) (1 : Int32))), .val (.int (1 : Int32)), .val (.int (1 : Int32)), .val (.long (q4 + (m0_0 p0 q1 q2 q3 q4))), .second, .val (.int (f14 q4 (q1 + (m0_0 p0 q1 q2 q3 q4)) (m0_0 p0 q1 q2 q3 q4) (9223372036854775807 : Int64) (1 : Int32))), .unset] [(.ref b31)])) rfl (by rw [hml]; rfl) (Steps.refl _) (argsL := []) (rest := []) (lenOf pd_0_6 rfl) rfl (by show 2 * 0 + _ ≤ _; exact Nat.le_of_eq rfl) (hb hby at_244) (fun _ _ => ⟨rfl, rfl, (by decide : 9 + 0 ≤ _), (by decide : 50 + 0 ≤ _)⟩)
        dsimp only [Pt.U, Pt.locs, Pt.cells, Pt.slots] at X48 l48 y48 z48 st48 hQ48
        rw [l48, y48, z48] at X48
        obtain ⟨rfl, Nq48, e48⟩ := hQ48
        have N48 := Fr.app N47 Nq48
        refine own_back (b := T48.setTop (mkF m 275 #[.val (.int p0), .val (.long q1), .second, .val (.long q2), .second, .val (.long q3), .second, .val (.long q4), .second, .val (.int (1 : Int32)), .val (.int p0), .val (.long (m0_0 p0 q1 q2 q3 q4)), .second, .val (.ref b30), .val (.ref b31), .val (.ref b35), .val (.long (q1 + (m0_0 p0 q1 q2 q3 q4))), .second, .val (.int (0 : Int32)), .val (.long (q1 + (m0_0 p0 q1 q2 q3 q4))), .second, .val (.int (f14 q3 (q1 + (m0_0 p0 q1 q2 q3 q4)) (m0_0 p0 q1 q2 q3 q4) (9223372036854775807 : Int64) (1 : Int32))), .val (.int (1 : Int32)), .val (.int (1 : Int32)), .val (.long (q4 + (m0_0 p0 q1 q2 q3 q4))), .second, .val (.int (f14 q4 (q1 + (m0_0 p0 q1 q2 q3 q4)) (m0_0 p0 q1 q2 q3 q4) (9223372036854775807 : Int64) (1 : Int32))), .val (.int (1 : Int32))] [(.int (1 : Int32))])) (fun t kt => ?_) ?_
        · show Steps p.tables e below (T43.setTop (mkF m 199 #[.val (.int p0), .val (.long q1), .second, .val (.long q2), .second, .val (.long q3), .second, .val (.long q4), .second, .val (.int (1 : Int32)), .val (.int p0), .val (.long (m0_0 p0 q1 q2 q3 q4)), .second, .val (.ref b30), .val (.ref b31), .val (.ref b35), .val (.long (q1 + (m0_0 p0 q1 q2 q3 q4))), .second, .val (.int (0 : Int32)), .val (.long (q1 + (m0_0 p0 q1 q2 q3 q4))), .second, .val (.int (f14 q3 (q1 + (m0_0 p0 q1 q2 q3 q4)) (m0_0 p0 q1 q2 q3 q4) (9223372036854775807 : Int64) (1 : Int32))), .val (.int (1 : Int32)), .unset, .unset, .unset, .unset, .unset] [(.int (lcmpW q4 (q1 + (m0_0 p0 q1 q2 q3 q4))))])) _
          refine XS.ifNo X43.here hx rfl (hb hby at_199) rfl ((if0 _ _).trans (flt (fun q => hc199_44 ((lw_lt _ _).mp q))).1) ?_
          refine XS.iconst X43.here hx rfl (hb hby at_202) ?_
          refine XS.goto X43.here hx rfl (pc0 := 203) (pc' := 207) rfl (hb hby at_203) (by decide) (by decide) ?_
          refine XS.istore X43.here hx rfl (hb hby at_207) rfl (l' := #[.val (.int p0), .val (.long q1), .second, .val (.long q2), .second, .val (.long q3), .second, .val (.long q4), .second, .val (.int (1 : Int32)), .val (.int p0), .val (.long (m0_0 p0 q1 q2 q3 q4)), .second, .val (.ref b30), .val (.ref b31), .val (.ref b35), .val (.long (q1 + (m0_0 p0 q1 q2 q3 q4))), .second, .val (.int (0 : Int32)), .val (.long (q1 + (m0_0 p0 q1 q2 q3 q4))), .second, .val (.int (f14 q3 (q1 + (m0_0 p0 q1 q2 q3 q4)) (m0_0 p0 q1 q2 q3 q4) (9223372036854775807 : Int64) (1 : Int32))), .val (.int (1 : Int32)), .val (.int (1 : Int32)), .unset, .unset, .unset, .unset]) rfl ?_
          refine XS.iload X43.here hx rfl (hb hby at_209) rfl ?_
          refine XS.ifNo X43.here hx rfl (hb hby at_211) rfl ((if0 _ _).trans (feq (by decide : ¬ ((1 : Int32) = (0 : Int32)))).1) ?_
          refine XS.lload X43.here hx rfl (hb hby at_214) rfl ?_
          show Steps p.tables e below (T43.setTop (mkF m 216 #[.val (.int p0), .val (.long q1), .second, .val (.long q2), .second, .val (.long q3), .second, .val (.long q4), .second, .val (.int (1 : Int32)), .val (.int p0), .val (.long (m0_0 p0 q1 q2 q3 q4)), .second, .val (.ref b30), .val (.ref b31), .val (.ref b35), .val (.long (q1 + (m0_0 p0 q1 q2 q3 q4))), .second, .val (.int (0 : Int32)), .val (.long (q1 + (m0_0 p0 q1 q2 q3 q4))), .second, .val (.int (f14 q3 (q1 + (m0_0 p0 q1 q2 q3 q4)) (m0_0 p0 q1 q2 q3 q4) (9223372036854775807 : Int64) (1 : Int32))), .val (.int (1 : Int32)), .val (.int (1 : Int32)), .unset, .unset, .unset, .unset] [(.long q4)])) _
          refine XS.lload X43.here hx rfl (hb hby at_216) rfl ?_
          refine XS.ladd X43.here hx rfl (hb hby at_218) rfl ?_
          refine XS.goto X43.here hx rfl (pc0 := 219) (pc' := 224) rfl (hb hby at_219) (by decide) (by decide) ?_
          refine XS.lstore X43.here hx rfl (hb hby at_224) rfl (l' := #[.val (.int p0), .val (.long q1), .second, .val (.long q2), .second, .val (.long q3), .second, .val (.long q4), .second, .val (.int (1 : Int32)), .val (.int p0), .val (.long (m0_0 p0 q1 q2 q3 q4)), .second, .val (.ref b30), .val (.ref b31), .val (.ref b35), .val (.long (q1 + (m0_0 p0 q1 q2 q3 q4))), .second, .val (.int (0 : Int32)), .val (.long (q1 + (m0_0 p0 q1 q2 q3 q4))), .second, .val (.int (f14 q3 (q1 + (m0_0 p0 q1 q2 q3 q4)) (m0_0 p0 q1 q2 q3 q4) (9223372036854775807 : Int64) (1 : Int32))), .val (.int (1 : Int32)), .val (.int (1 : Int32)), .val (.long (q4 + (m0_0 p0 q1 q2 q3 q4))), .second, .unset, .unset]) rfl ?_
          refine XS.aload X43.here hx rfl (hb hby at_226) rfl rfl ?_
          refine XS.lload X43.here hx rfl (hb hby at_228) rfl ?_
          show Steps p.tables e below (T43.setTop (mkF m 230 #[.val (.int p0), .val (.long q1), .second, .val (.long q2), .second, .val (.long q3), .second, .val (.long q4), .second, .val (.int (1 : Int32)), .val (.int p0), .val (.long (m0_0 p0 q1 q2 q3 q4)), .second, .val (.ref b30), .val (.ref b31), .val (.ref b35), .val (.long (q1 + (m0_0 p0 q1 q2 q3 q4))), .second, .val (.int (0 : Int32)), .val (.long (q1 + (m0_0 p0 q1 q2 q3 q4))), .second, .val (.int (f14 q3 (q1 + (m0_0 p0 q1 q2 q3 q4)) (m0_0 p0 q1 q2 q3 q4) (9223372036854775807 : Int64) (1 : Int32))), .val (.int (1 : Int32)), .val (.int (1 : Int32)), .val (.long (q4 + (m0_0 p0 q1 q2 q3 q4))), .second, .unset, .unset] [(.long q4), (.ref b31)])) _
          refine st47.trans ?_
          refine XS.istore X47.here hx rfl (hb hby at_233) rfl (l' := #[.val (.int p0), .val (.long q1), .second, .val (.long q2), .second, .val (.long q3), .second, .val (.long q4), .second, .val (.int (1 : Int32)), .val (.int p0), .val (.long (m0_0 p0 q1 q2 q3 q4)), .second, .val (.ref b30), .val (.ref b31), .val (.ref b35), .val (.long (q1 + (m0_0 p0 q1 q2 q3 q4))), .second, .val (.int (0 : Int32)), .val (.long (q1 + (m0_0 p0 q1 q2 q3 q4))), .second, .val (.int (f14 q3 (q1 + (m0_0 p0 q1 q2 q3 q4)) (m0_0 p0 q1 q2 q3 q4) (9223372036854775807 : Int64) (1 : Int32))), .val (.int (1 : Int32)), .val (.int (1 : Int32)), .val (.long (q4 + (m0_0 p0 q1 q2 q3 q4))), .second, .val (.int (f14 q4 (q1 + (m0_0 p0 q1 q2 q3 q4)) (m0_0 p0 q1 q2 q3 q4) (9223372036854775807 : Int64) (1 : Int32))), .unset]) rfl ?_
          refine XS.iload X47.here hx rfl (hb hby at_235) rfl ?_
          refine XS.iload X47.here hx rfl (hb hby at_237) rfl ?_
          refine XS.icmpNo X47.here hx rfl (hb hby at_239) rfl (teq (own_due1 hc199_44)).2 ?_
          refine XS.aload X47.here hx rfl (hb hby at_242) rfl rfl ?_
          show Steps p.tables e below (T47.setTop (mkF m 244 #[.val (.int p0), .val (.long q1), .second, .val (.long q2), .second, .val (.long q3), .second, .val (.long q4), .second, .val (.int (1 : Int32)), .val (.int p0), .val (.long (m0_0 p0 q1 q2 q3 q4)), .second, .val (.ref b30), .val (.ref b31), .val (.ref b35), .val (.long (q1 + (m0_0 p0 q1 q2 q3 q4))), .second, .val (.int (0 : Int32)), .val (.long (q1 + (m0_0 p0 q1 q2 q3 q4))), .second, .val (.int (f14 q3 (q1 + (m0_0 p0 q1 q2 q3 q4)) (m0_0 p0 q1 q2 q3 q4) (9223372036854775807 : Int64) (1 : Int32))), .val (.int (1 : Int32)), .val (.int (1 : Int32)), .val (.long (q4 + (m0_0 p0 q1 q2 q3 q4))), .second, .val (.int (f14 q4 (q1 + (m0_0 p0 q1 q2 q3 q4)) (m0_0 p0 q1 q2 q3 q4) (9223372036854775807 : Int64) (1 : Int32))), .unset] [(.ref b31)])) _
          refine st48.trans ?_
          refine XS.lload X48.here hx rfl (hb hby at_247) rfl ?_
          refine XS.lcmp X48.here hx rfl (hb hby at_249) rfl ?_
          refine XS.ifNo X48.here hx rfl (hb hby at_250) rfl ((if0 _ _).trans (teq ((lw_eq _ _).mpr (own_mint _))).2) ?_
          refine XS.iconst X48.here hx rfl (hb hby at_253) ?_
          refine XS.goto X48.here hx rfl (pc0 := 254) (pc' := 258) rfl (hb hby at_254) (by decide) (by decide) ?_
          refine XS.istore X48.here hx rfl (hb hby at_258) rfl (l' := #[.val (.int p0), .val (.long q1), .second, .val (.long q2), .second, .val (.long q3), .second, .val (.long q4), .second, .val (.int (1 : Int32)), .val (.int p0), .val (.long (m0_0 p0 q1 q2 q3 q4)), .second, .val (.ref b30), .val (.ref b31), .val (.ref b35), .val (.long (q1 + (m0_0 p0 q1 q2 q3 q4))), .second, .val (.int (0 : Int32)), .val (.long (q1 + (m0_0 p0 q1 q2 q3 q4))), .second, .val (.int (f14 q3 (q1 + (m0_0 p0 q1 q2 q3 q4)) (m0_0 p0 q1 q2 q3 q4) (9223372036854775807 : Int64) (1 : Int32))), .val (.int (1 : Int32)), .val (.int (1 : Int32)), .val (.long (q4 + (m0_0 p0 q1 q2 q3 q4))), .second, .val (.int (f14 q4 (q1 + (m0_0 p0 q1 q2 q3 q4)) (m0_0 p0 q1 q2 q3 q4) (9223372036854775807 : Int64) (1 : Int32))), .val (.int (1 : Int32))]) rfl ?_
          show Steps p.tables e below (T48.setTop (mkF m 260 #[.val (.int p0), .val (.long q1), .second, .val (.long q2), .second, .val (.long q3), .second, .val (.long q4), .second, .val (.int (1 : Int32)), .val (.int p0), .val (.long (m0_0 p0 q1 q2 q3 q4)), .second, .val (.ref b30), .val (.ref b31), .val (.ref b35), .val (.long (q1 + (m0_0 p0 q1 q2 q3 q4))), .second, .val (.int (0 : Int32)), .val (.long (q1 + (m0_0 p0 q1 q2 q3 q4))), .second, .val (.int (f14 q3 (q1 + (m0_0 p0 q1 q2 q3 q4)) (m0_0 p0 q1 q2 q3 q4) (9223372036854775807 : Int64) (1 : Int32))), .val (.int (1 : Int32)), .val (.int (1 : Int32)), .val (.long (q4 + (m0_0 p0 q1 q2 q3 q4))), .second, .val (.int (f14 q4 (q1 + (m0_0 p0 q1 q2 q3 q4)) (m0_0 p0 q1 q2 q3 q4) (9223372036854775807 : Int64) (1 : Int32))), .val (.int (1 : Int32))] [])) _
          refine XS.iload X48.here hx rfl (hb hby at_260) rfl ?_
          refine XS.ifNo X48.here hx rfl (hb hby at_262) rfl ((if0 _ _).trans (feq (by decide : ¬ ((1 : Int32) = (0 : Int32)))).1) ?_
          refine XS.iload X48.here hx rfl (hb hby at_265) rfl ?_
          refine XS.ifNo X48.here hx rfl (hb hby at_267) rfl ((if0 _ _).trans (feq (by decide : ¬ ((1 : Int32) = (0 : Int32)))).1) ?_
          refine XS.iconst X48.here hx rfl (hb hby at_270) ?_
          refine XS.goto X48.here hx rfl (pc0 := 271) (pc' := 275) rfl (hb hby at_271) (by decide) (by decide) ?_
          exact kt
        obtain ⟨fs, hr, hrun, hended, hW, hsame⟩ := X48.leave (v := some (.int (1 : Int32))) (fun h => by rw [Bd.returns] at h; cases h) (BodyLoose.notSynchronized Bd)
        refine ⟨_, _, ?_, hrun, hended, _, _, rfl, ?_, ⟨_, rfl⟩, hW, hsame.mono (by decide) (by decide)⟩
        · show Steps p.tables e below (T48.setTop (mkF m 275 #[.val (.int p0), .val (.long q1), .second, .val (.long q2), .second, .val (.long q3), .second, .val (.long q4), .second, .val (.int (1 : Int32)), .val (.int p0), .val (.long (m0_0 p0 q1 q2 q3 q4)), .second, .val (.ref b30), .val (.ref b31), .val (.ref b35), .val (.long (q1 + (m0_0 p0 q1 q2 q3 q4))), .second, .val (.int (0 : Int32)), .val (.long (q1 + (m0_0 p0 q1 q2 q3 q4))), .second, .val (.int (f14 q3 (q1 + (m0_0 p0 q1 q2 q3 q4)) (m0_0 p0 q1 q2 q3 q4) (9223372036854775807 : Int64) (1 : Int32))), .val (.int (1 : Int32)), .val (.int (1 : Int32)), .val (.long (q4 + (m0_0 p0 q1 q2 q3 q4))), .second, .val (.int (f14 q4 (q1 + (m0_0 p0 q1 q2 q3 q4)) (m0_0 p0 q1 q2 q3 q4) (9223372036854775807 : Int64) (1 : Int32))), .val (.int (1 : Int32))] [(.int (1 : Int32))])) _
          exact retN X48 hx (t := .boolean) Bd.returns (by simp) (hb hby at_275) hr
        · show Q0 Z p0 q1 q2 q3 q4 wd kd wc h0 n0 _ T48.heap _
          rw [e48]
          exact ⟨by rw [show f0 p0 q1 q2 q3 q4 = (1 : Int32) from by unfold f0; rw [if_neg hc3_1, if_pos hc123_40, if_neg hc199_44]], N48⟩
    · obtain ⟨cq49, kq49, q49a, q49b, q49c⟩ := isOf hZ rfl P39_0
      obtain ⟨_, _, ⟨T49, L49, k49, n49⟩, -, X49, ⟨Lc49, hQ49, l49, y49, z49⟩, st49⟩ := X39.virtualBack hx (y := (⟨"com/example/many_to_leader/manytoleader/bully/CandidatePool", "heartbeatDue", "(J)Z"⟩ : MethodName)) (z := (⟨"com/example/many_to_leader/manytoleader/bully/CandidatePool", "heartbeatDue", "(J)Z"⟩ : MethodName)) hown (mvT hZ (hw _ (List.mem_of_getElem? (i := 120) rfl))) (mvT hZ (hw _ (List.mem_of_getElem? (i := 121) rfl))) (notFace_of_selects (args := #[]) (mvT hZ (hw _ (List.mem_of_getElem? (i := 123) rfl)))) (mvT hZ (hw _ (List.mem_of_getElem? (i := 123) rfl))) (mvT hZ (hw _ (List.mem_of_getElem? (i := 122) rfl))) (by decide) (backOf (W := 0) (rm14 l Z aw hw [] b31 q3 (q1 + (m0_0 p0 q1 q2 q3 q4)) (m0_0 p0 q1 q2 q3 q4) (9223372036854775807 : Int64) (1 : Int32) T39.heap n0 Z39 P39_0 lo31 P39_1 P39_4 P39_3 P39_2) hZ (hw _ (List.mem_of_getElem? (i := 124) rfl)) (hw _ (List.mem_of_getElem? (i := 31) rfl)) (by decide) (by decide)) q49a q49c (g := (mkF m 154 #[.val (.int p0), .val (.long q1), .second, .val (.long q2), .second, .val (.long q3), .second, .val (.long q4), .second, .val (.int (1 : Int32)), .val (.int p0), .val (.long (m0_0 p0 q1 q2 q3 q4)), .second, .val (.ref b30), .val (.ref b31), .val (.ref b35), .val (.long (q1 + (m0_0 p0 q1 q2 q3 q4))), .second, .val (.int (1 : Int32)), .val (.long (q3 + (m0_0 p0 q1 q2 q3 q4))), .second, .unset, .unset, .unset, .unset, .unset, .unset, .unset] [(.long q3), (.ref b31)])) rfl (by rw [hml]; rfl) (Steps.refl _) (argsL := [(.long q3)]) (rest := []) (lenOf pd_0_5 rfl) rfl (by show 2 * 0 + _ ≤ _; exact Nat.le_of_eq rfl) (hb hby at_154) (fun _ _ => ⟨rfl, rfl, (by decide : 9 + 0 ≤ _), (by decide : 50 + 0 ≤ _)⟩)
      dsimp only [Pt.U, Pt.locs, Pt.cells, Pt.slots] at X49 l49 y49 z49 st49 hQ49
      rw [l49, y49, z49] at X49
      obtain ⟨rfl, Nq49, Kq49, P49_0, P49_1, P49_2, P49_3, P49_4⟩ := hQ49
      have N49 := Fr.app N39 Nq49
      have f49_0 := f39_0.keep Kq49
      have f49_1 := f39_1.keep Kq49 (ninS ne31_b28 nin0)
      have f49_2 := f39_2.keep Kq49 (ninS ne31_b28 nin0)
      have f49_3 := f39_3.keep Kq49 (ninS ne31_b28 nin0)
      have f49_4 := f39_4.keep Kq49 (ninS ne31_b28 nin0)
      have f49_5 := f39_5.keep Kq49 (ninS ne31_b28 nin0)
      have f49_6 := f39_6.keep Kq49
      have f49_7 := f39_7.keep Kq49 (ninS ne31_b30 nin0)
      have f49_8 := f39_8.keep Kq49 (ninS ne31_b30 nin0)
      have f49_9 := f39_9.keep Kq49
      have f49_10 := f39_10.keep Kq49
      have f49_11 := f39_11.keep Kq49 (ninS (ne_exa f39_10 P39_0 (by decide)) nin0)
      have f49_12 := f39_12.keep Kq49
      have f49_13 := f39_13.keep Kq49 (ninS (Ne.symm ne35_b31) nin0)
      have f49_14 := f39_14.keep Kq49 (ninS (Ne.symm ne35_b31) nin0)
      have f49_15 := f39_15.keep Kq49 (ninS (Ne.symm ne35_b31) nin0)
      have f49_16 := f39_16.keep Kq49 (ninS (ne_exa f39_17 P39_0 (by decide)) nin0)
      have f49_17 := f39_17.keep Kq49
      have K49 : Keep h0 T49.heap [] := K39.trans Kq49 (allS (Or.inr sz31) all0)
      have Z49 : n0 ≤ T49.heap.size := Nat.le_trans Z39 Kq49.1
      have Fd49 := P49_1
      rw [own_hd_f hc123_40] at Fd49
      obtain ⟨cq50, kq50, q50a, q50b, q50c⟩ := isOf hZ rfl P49_0
      obtain ⟨_, _, ⟨T50, L50, k50, n50⟩, -, X50, ⟨Lc50, hQ50, l50, y50, z50⟩, st50⟩ := X49.virtualBack hx (y := (⟨"com/example/many_to_leader/manytoleader/bully/CandidatePool", "deadline", "()J"⟩ : MethodName)) (z := (⟨"com/example/many_to_leader/manytoleader/bully/CandidatePool", "deadline", "()J"⟩ : MethodName)) hown (mvT hZ (hw _ (List.mem_of_getElem? (i := 125) rfl))) (mvT hZ (hw _ (List.mem_of_getElem? (i := 126) rfl))) (notFace_of_selects (args := #[]) (mvT hZ (hw _ (List.mem_of_getElem? (i := 128) rfl)))) (mvT hZ (hw _ (List.mem_of_getElem? (i := 128) rfl))) (mvT hZ (hw _ (List.mem_of_getElem? (i := 127) rfl))) (by decide) (backOf (W := 0) (rm15 l Z aw hw [] b31 (q3 + (m0_0 p0 q1 q2 q3 q4)) (9223372036854775807 : Int64) T49.heap n0 Z49 Fd49 P49_3) hZ (hw _ (List.mem_of_getElem? (i := 129) rfl)) (hw _ (List.mem_of_getElem? (i := 31) rfl)) (by decide) (by decide)) q50a q50c (g := (mkF m 168 #[.val (.int p0), .val (.long q1), .second, .val (.long q2), .second, .val (.long q3), .second, .val (.long q4), .second, .val (.int (1 : Int32)), .val (.int p0), .val (.long (m0_0 p0 q1 q2 q3 q4)), .second, .val (.ref b30), .val (.ref b31), .val (.ref b35), .val (.long (q1 + (m0_0 p0 q1 q2 q3 q4))), .second, .val (.int (1 : Int32)), .val (.long (q3 + (m0_0 p0 q1 q2 q3 q4))), .second, .val (.int (f14 q3 (q1 + (m0_0 p0 q1 q2 q3 q4)) (m0_0 p0 q1 q2 q3 q4) (9223372036854775807 : Int64) (1 : Int32))), .unset, .unset, .unset, .unset, .unset, .unset] [(.ref b31)])) rfl (by rw [hml]; rfl) (Steps.refl _) (argsL := []) (rest := []) (lenOf pd_0_6 rfl) rfl (by show 2 * 0 + _ ≤ _; exact Nat.le_of_eq rfl) (hb hby at_168) (fun _ _ => ⟨rfl, rfl, (by decide : 9 + 0 ≤ _), (by decide : 50 + 0 ≤ _)⟩)
      dsimp only [Pt.U, Pt.locs, Pt.cells, Pt.slots] at X50 l50 y50 z50 st50 hQ50
      rw [l50, y50, z50] at X50
      obtain ⟨rfl, Nq50, e50⟩ := hQ50
      have N50 := Fr.app N49 Nq50
      obtain ⟨cq51, kq51, q51a, q51b, q51c⟩ := isOf hZ e50 P49_0
      obtain ⟨_, _, ⟨T51, L51, k51, n51⟩, -, X51, ⟨Lc51, hQ51, l51, y51, z51⟩, st51⟩ := X50.virtualBack hx (y := (⟨"com/example/many_to_leader/manytoleader/bully/CandidatePool", "isCandidate", "()Z"⟩ : MethodName)) (z := (⟨"com/example/many_to_leader/manytoleader/bully/CandidatePool", "isCandidate", "()Z"⟩ : MethodName)) hown (mvT hZ (hw _ (List.mem_of_getElem? (i := 134) rfl))) (mvT hZ (hw _ (List.mem_of_getElem? (i := 135) rfl))) (notFace_of_selects (args := #[]) (mvT hZ (hw _ (List.mem_of_getElem? (i := 137) rfl)))) (mvT hZ (hw _ (List.mem_of_getElem? (i := 137) rfl))) (mvT hZ (hw _ (List.mem_of_getElem? (i := 136) rfl))) (by decide) (backOf (W := 0) (rm17c1 l Z aw hw [] b31 T49.heap n0 Z49 P49_4) hZ (hw _ (List.mem_of_getElem? (i := 138) rfl)) (hw _ (List.mem_of_getElem? (i := 31) rfl)) (by decide) (by decide)) q51a q51c (g := (mkF m 179 #[.val (.int p0), .val (.long q1), .second, .val (.long q2), .second, .val (.long q3), .second, .val (.long q4), .second, .val (.int (1 : Int32)), .val (.int p0), .val (.long (m0_0 p0 q1 q2 q3 q4)), .second, .val (.ref b30), .val (.ref b31), .val (.ref b35), .val (.long (q1 + (m0_0 p0 q1 q2 q3 q4))), .second, .val (.int (1 : Int32)), .val (.long (q3 + (m0_0 p0 q1 q2 q3 q4))), .second, .val (.int (f14 q3 (q1 + (m0_0 p0 q1 q2 q3 q4)) (m0_0 p0 q1 q2 q3 q4) (9223372036854775807 : Int64) (1 : Int32))), .unset, .unset, .unset, .unset, .unset, .unset] [(.ref b31)])) rfl (by rw [hml]; rfl) (Steps.refl _) (argsL := []) (rest := []) (lenOf pd_0_7 rfl) rfl (by show 2 * 0 + _ ≤ _; exact Nat.le_of_eq rfl) (hb hby at_179) (fun _ _ => ⟨rfl, e50, (by decide : 9 + 0 ≤ _), (by decide : 50 + 0 ≤ _)⟩)
      dsimp only [Pt.U, Pt.locs, Pt.cells, Pt.slots] at X51 l51 y51 z51 st51 hQ51
      rw [l51, y51, z51] at X51
      obtain ⟨rfl, Nq51, e51⟩ := hQ51
      have N51 := Fr.app N50 Nq51
      refine own_back (b := T51.setTop (mkF m 199 #[.val (.int p0), .val (.long q1), .second, .val (.long q2), .second, .val (.long q3), .second, .val (.long q4), .second, .val (.int (1 : Int32)), .val (.int p0), .val (.long (m0_0 p0 q1 q2 q3 q4)), .second, .val (.ref b30), .val (.ref b31), .val (.ref b35), .val (.long (q1 + (m0_0 p0 q1 q2 q3 q4))), .second, .val (.int (1 : Int32)), .val (.long (q3 + (m0_0 p0 q1 q2 q3 q4))), .second, .val (.int (f14 q3 (q1 + (m0_0 p0 q1 q2 q3 q4)) (m0_0 p0 q1 q2 q3 q4) (9223372036854775807 : Int64) (1 : Int32))), .val (.int (1 : Int32)), .unset, .unset, .unset, .unset, .unset] [(.int (lcmpW q4 (q3 + (m0_0 p0 q1 q2 q3 q4))))])) (fun t kt => ?_) ?_
      · show Steps p.tables e below (T39.setTop (mkF m 123 #[.val (.int p0), .val (.long q1), .second, .val (.long q2), .second, .val (.long q3), .second, .val (.long q4), .second, .val (.int (1 : Int32)), .val (.int p0), .val (.long (m0_0 p0 q1 q2 q3 q4)), .second, .val (.ref b30), .val (.ref b31), .val (.ref b35), .val (.long (q1 + (m0_0 p0 q1 q2 q3 q4))), .second, .unset, .unset, .unset, .unset, .unset, .unset, .unset, .unset, .unset, .unset] [(.int (lcmpW q3 (q1 + (m0_0 p0 q1 q2 q3 q4))))])) _
        refine XS.ifNo X39.here hx rfl (hb hby at_123) rfl ((if0 _ _).trans (flt (fun q => hc123_40 ((lw_lt _ _).mp q))).1) ?_
        refine XS.iconst X39.here hx rfl (hb hby at_126) ?_
        refine XS.goto X39.here hx rfl (pc0 := 127) (pc' := 131) rfl (hb hby at_127) (by decide) (by decide) ?_
        refine XS.istore X39.here hx rfl (hb hby at_131) rfl (l' := #[.val (.int p0), .val (.long q1), .second, .val (.long q2), .second, .val (.long q3), .second, .val (.long q4), .second, .val (.int (1 : Int32)), .val (.int p0), .val (.long (m0_0 p0 q1 q2 q3 q4)), .second, .val (.ref b30), .val (.ref b31), .val (.ref b35), .val (.long (q1 + (m0_0 p0 q1 q2 q3 q4))), .second, .val (.int (1 : Int32)), .unset, .unset, .unset, .unset, .unset, .unset, .unset, .unset, .unset]) rfl ?_
        refine XS.iload X39.here hx rfl (hb hby at_133) rfl ?_
        refine XS.ifNo X39.here hx rfl (hb hby at_135) rfl ((if0 _ _).trans (feq (by decide : ¬ ((1 : Int32) = (0 : Int32)))).1) ?_
        refine XS.lload X39.here hx rfl (hb hby at_138) rfl ?_
        show Steps p.tables e below (T39.setTop (mkF m 140 #[.val (.int p0), .val (.long q1), .second, .val (.long q2), .second, .val (.long q3), .second, .val (.long q4), .second, .val (.int (1 : Int32)), .val (.int p0), .val (.long (m0_0 p0 q1 q2 q3 q4)), .second, .val (.ref b30), .val (.ref b31), .val (.ref b35), .val (.long (q1 + (m0_0 p0 q1 q2 q3 q4))), .second, .val (.int (1 : Int32)), .unset, .unset, .unset, .unset, .unset, .unset, .unset, .unset, .unset] [(.long q3)])) _
        refine XS.lload X39.here hx rfl (hb hby at_140) rfl ?_
        refine XS.ladd X39.here hx rfl (hb hby at_142) rfl ?_
        refine XS.goto X39.here hx rfl (pc0 := 143) (pc' := 148) rfl (hb hby at_143) (by decide) (by decide) ?_
        refine XS.lstore X39.here hx rfl (hb hby at_148) rfl (l' := #[.val (.int p0), .val (.long q1), .second, .val (.long q2), .second, .val (.long q3), .second, .val (.long q4), .second, .val (.int (1 : Int32)), .val (.int p0), .val (.long (m0_0 p0 q1 q2 q3 q4)), .second, .val (.ref b30), .val (.ref b31), .val (.ref b35), .val (.long (q1 + (m0_0 p0 q1 q2 q3 q4))), .second, .val (.int (1 : Int32)), .val (.long (q3 + (m0_0 p0 q1 q2 q3 q4))), .second, .unset, .unset, .unset, .unset, .unset, .unset, .unset]) rfl ?_
        refine XS.aload X39.here hx rfl (hb hby at_150) rfl rfl ?_
        refine XS.lload X39.here hx rfl (hb hby at_152) rfl ?_
        show Steps p.tables e below (T39.setTop (mkF m 154 #[.val (.int p0), .val (.long q1), .second, .val (.long q2), .second, .val (.long q3), .second, .val (.long q4), .second, .val (.int (1 : Int32)), .val (.int p0), .val (.long (m0_0 p0 q1 q2 q3 q4)), .second, .val (.ref b30), .val (.ref b31), .val (.ref b35), .val (.long (q1 + (m0_0 p0 q1 q2 q3 q4))), .second, .val (.int (1 : Int32)), .val (.long (q3 + (m0_0 p0 q1 q2 q3 q4))), .second, .unset, .unset, .unset, .unset, .unset, .unset, .unset] [(.long q3), (.ref b31)])) _
        refine st49.trans ?_
        refine XS.istore X49.here hx rfl (hb hby at_157) rfl (l' := #[.val (.int p0), .val (.long q1), .second, .val (.long q2), .second, .val (.long q3), .second, .val (.long q4), .second, .val (.int (1 : Int32)), .val (.int p0), .val (.long (m0_0 p0 q1 q2 q3 q4)), .second, .val (.ref b30), .val (.ref b31), .val (.ref b35), .val (.long (q1 + (m0_0 p0 q1 q2 q3 q4))), .second, .val (.int (1 : Int32)), .val (.long (q3 + (m0_0 p0 q1 q2 q3 q4))), .second, .val (.int (f14 q3 (q1 + (m0_0 p0 q1 q2 q3 q4)) (m0_0 p0 q1 q2 q3 q4) (9223372036854775807 : Int64) (1 : Int32))), .unset, .unset, .unset, .unset, .unset, .unset]) rfl ?_
        refine XS.iload X49.here hx rfl (hb hby at_159) rfl ?_
        refine XS.iload X49.here hx rfl (hb hby at_161) rfl ?_
        refine XS.icmpNo X49.here hx rfl (hb hby at_163) rfl (teq (own_due1 hc123_40)).2 ?_
        refine XS.aload X49.here hx rfl (hb hby at_166) rfl rfl ?_
        show Steps p.tables e below (T49.setTop (mkF m 168 #[.val (.int p0), .val (.long q1), .second, .val (.long q2), .second, .val (.long q3), .second, .val (.long q4), .second, .val (.int (1 : Int32)), .val (.int p0), .val (.long (m0_0 p0 q1 q2 q3 q4)), .second, .val (.ref b30), .val (.ref b31), .val (.ref b35), .val (.long (q1 + (m0_0 p0 q1 q2 q3 q4))), .second, .val (.int (1 : Int32)), .val (.long (q3 + (m0_0 p0 q1 q2 q3 q4))), .second, .val (.int (f14 q3 (q1 + (m0_0 p0 q1 q2 q3 q4)) (m0_0 p0 q1 q2 q3 q4) (9223372036854775807 : Int64) (1 : Int32))), .unset, .unset, .unset, .unset, .unset, .unset] [(.ref b31)])) _
        refine st50.trans ?_
        refine XS.lload X50.here hx rfl (hb hby at_171) rfl ?_
        refine XS.lcmp X50.here hx rfl (hb hby at_173) rfl ?_
        refine XS.ifNo X50.here hx rfl (hb hby at_174) rfl ((if0 _ _).trans (teq ((lw_eq _ _).mpr (own_mint _))).2) ?_
        refine XS.aload X50.here hx rfl (hb hby at_177) rfl rfl ?_
        show Steps p.tables e below (T50.setTop (mkF m 179 #[.val (.int p0), .val (.long q1), .second, .val (.long q2), .second, .val (.long q3), .second, .val (.long q4), .second, .val (.int (1 : Int32)), .val (.int p0), .val (.long (m0_0 p0 q1 q2 q3 q4)), .second, .val (.ref b30), .val (.ref b31), .val (.ref b35), .val (.long (q1 + (m0_0 p0 q1 q2 q3 q4))), .second, .val (.int (1 : Int32)), .val (.long (q3 + (m0_0 p0 q1 q2 q3 q4))), .second, .val (.int (f14 q3 (q1 + (m0_0 p0 q1 q2 q3 q4)) (m0_0 p0 q1 q2 q3 q4) (9223372036854775807 : Int64) (1 : Int32))), .unset, .unset, .unset, .unset, .unset, .unset] [(.ref b31)])) _
        refine st51.trans ?_
        refine XS.iload X51.here hx rfl (hb hby at_182) rfl ?_
        refine XS.icmpNo X51.here hx rfl (hb hby at_184) rfl (teq (by decide : (1 : Int32) = (1 : Int32))).2 ?_
        refine XS.iconst X51.here hx rfl (hb hby at_187) ?_
        refine XS.goto X51.here hx rfl (pc0 := 188) (pc' := 192) rfl (hb hby at_188) (by decide) (by decide) ?_
        refine XS.istore X51.here hx rfl (hb hby at_192) rfl (l' := #[.val (.int p0), .val (.long q1), .second, .val (.long q2), .second, .val (.long q3), .second, .val (.long q4), .second, .val (.int (1 : Int32)), .val (.int p0), .val (.long (m0_0 p0 q1 q2 q3 q4)), .second, .val (.ref b30), .val (.ref b31), .val (.ref b35), .val (.long (q1 + (m0_0 p0 q1 q2 q3 q4))), .second, .val (.int (1 : Int32)), .val (.long (q3 + (m0_0 p0 q1 q2 q3 q4))), .second, .val (.int (f14 q3 (q1 + (m0_0 p0 q1 q2 q3 q4)) (m0_0 p0 q1 q2 q3 q4) (9223372036854775807 : Int64) (1 : Int32))), .val (.int (1 : Int32)), .unset, .unset, .unset, .unset, .unset]) rfl ?_
        refine XS.lload X51.here hx rfl (hb hby at_194) rfl ?_
        show Steps p.tables e below (T51.setTop (mkF m 196 #[.val (.int p0), .val (.long q1), .second, .val (.long q2), .second, .val (.long q3), .second, .val (.long q4), .second, .val (.int (1 : Int32)), .val (.int p0), .val (.long (m0_0 p0 q1 q2 q3 q4)), .second, .val (.ref b30), .val (.ref b31), .val (.ref b35), .val (.long (q1 + (m0_0 p0 q1 q2 q3 q4))), .second, .val (.int (1 : Int32)), .val (.long (q3 + (m0_0 p0 q1 q2 q3 q4))), .second, .val (.int (f14 q3 (q1 + (m0_0 p0 q1 q2 q3 q4)) (m0_0 p0 q1 q2 q3 q4) (9223372036854775807 : Int64) (1 : Int32))), .val (.int (1 : Int32)), .unset, .unset, .unset, .unset, .unset] [(.long q4)])) _
        refine XS.lload X51.here hx rfl (hb hby at_196) rfl ?_
        refine XS.lcmp X51.here hx rfl (hb hby at_198) rfl ?_
        exact kt
      by_cases hc199_52 : q4 < (q3 + (m0_0 p0 q1 q2 q3 q4))
      · obtain ⟨cq53, kq53, q53a, q53b, q53c⟩ := isOf hZ e51 P49_0
        obtain ⟨_, _, ⟨T53, L53, k53, n53⟩, -, X53, ⟨Lc53, hQ53, l53, y53, z53⟩, st53⟩ := X51.virtualBack hx (y := (⟨"com/example/many_to_leader/manytoleader/bully/CandidatePool", "heartbeatDue", "(J)Z"⟩ : MethodName)) (z := (⟨"com/example/many_to_leader/manytoleader/bully/CandidatePool", "heartbeatDue", "(J)Z"⟩ : MethodName)) hown (mvT hZ (hw _ (List.mem_of_getElem? (i := 120) rfl))) (mvT hZ (hw _ (List.mem_of_getElem? (i := 121) rfl))) (notFace_of_selects (args := #[]) (mvT hZ (hw _ (List.mem_of_getElem? (i := 123) rfl)))) (mvT hZ (hw _ (List.mem_of_getElem? (i := 123) rfl))) (mvT hZ (hw _ (List.mem_of_getElem? (i := 122) rfl))) (by decide) (backOf (W := 0) (rm14 l Z aw hw [] b31 q4 (q3 + (m0_0 p0 q1 q2 q3 q4)) (m0_0 p0 q1 q2 q3 q4) (9223372036854775807 : Int64) (1 : Int32) T49.heap n0 Z49 P49_0 lo31 Fd49 P49_2 P49_3 P49_4) hZ (hw _ (List.mem_of_getElem? (i := 124) rfl)) (hw _ (List.mem_of_getElem? (i := 31) rfl)) (by decide) (by decide)) q53a q53c (g := (mkF m 230 #[.val (.int p0), .val (.long q1), .second, .val (.long q2), .second, .val (.long q3), .second, .val (.long q4), .second, .val (.int (1 : Int32)), .val (.int p0), .val (.long (m0_0 p0 q1 q2 q3 q4)), .second, .val (.ref b30), .val (.ref b31), .val (.ref b35), .val (.long (q1 + (m0_0 p0 q1 q2 q3 q4))), .second, .val (.int (1 : Int32)), .val (.long (q3 + (m0_0 p0 q1 q2 q3 q4))), .second, .val (.int (f14 q3 (q1 + (m0_0 p0 q1 q2 q3 q4)) (m0_0 p0 q1 q2 q3 q4) (9223372036854775807 : Int64) (1 : Int32))), .val (.int (1 : Int32)), .val (.int (0 : Int32)), .val (.long (q3 + (m0_0 p0 q1 q2 q3 q4))), .second, .unset, .unset] [(.long q4), (.ref b31)])) rfl (by rw [hml]; rfl) (Steps.refl _) (argsL := [(.long q4)]) (rest := []) (lenOf pd_0_5 rfl) rfl (by show 2 * 0 + _ ≤ _; exact Nat.le_of_eq rfl) (hb hby at_230) (fun _ _ => ⟨rfl, e51, (by decide : 9 + 0 ≤ _), (by decide : 50 + 0 ≤ _)⟩)
        dsimp only [Pt.U, Pt.locs, Pt.cells, Pt.slots] at X53 l53 y53 z53 st53 hQ53
        rw [l53, y53, z53] at X53
        obtain ⟨rfl, Nq53, Kq53, P53_0, P53_1, P53_2, P53_3, P53_4⟩ := hQ53
        have N53 := Fr.app N51 Nq53
        have f53_0 := f49_0.keep Kq53
        have f53_1 := f49_1.keep Kq53 (ninS ne31_b28 nin0)
        have f53_2 := f49_2.keep Kq53 (ninS ne31_b28 nin0)
        have f53_3 := f49_3.keep Kq53 (ninS ne31_b28 nin0)
        have f53_4 := f49_4.keep Kq53 (ninS ne31_b28 nin0)
        have f53_5 := f49_5.keep Kq53 (ninS ne31_b28 nin0)
        have f53_6 := f49_6.keep Kq53
        have f53_7 := f49_7.keep Kq53 (ninS ne31_b30 nin0)
        have f53_8 := f49_8.keep Kq53 (ninS ne31_b30 nin0)
        have f53_9 := f49_9.keep Kq53
        have f53_10 := f49_10.keep Kq53
        have f53_11 := f49_11.keep Kq53 (ninS (ne_exa f49_10 P49_0 (by decide)) nin0)
        have f53_12 := f49_12.keep Kq53
        have f53_13 := f49_13.keep Kq53 (ninS (Ne.symm ne35_b31) nin0)
        have f53_14 := f49_14.keep Kq53 (ninS (Ne.symm ne35_b31) nin0)
        have f53_15 := f49_15.keep Kq53 (ninS (Ne.symm ne35_b31) nin0)
        have f53_16 := f49_16.keep Kq53 (ninS (ne_exa f49_17 P49_0 (by decide)) nin0)
        have f53_17 := f49_17.keep Kq53
        have K53 : Keep h0 T53.heap [] := K49.trans Kq53 (allS (Or.inr sz31) all0)
        have Z53 : n0 ≤ T53.heap.size := Nat.le_trans Z49 Kq53.1
        have Fd53 := P53_1
        rw [own_hd_t hc199_52] at Fd53
        obtain ⟨cq54, kq54, q54a, q54b, q54c⟩ := isOf hZ rfl P53_0
        obtain ⟨_, _, ⟨T54, L54, k54, n54⟩, -, X54, ⟨Lc54, hQ54, l54, y54, z54⟩, st54⟩ := X53.virtualBack hx (y := (⟨"com/example/many_to_leader/manytoleader/bully/CandidatePool", "deadline", "()J"⟩ : MethodName)) (z := (⟨"com/example/many_to_leader/manytoleader/bully/CandidatePool", "deadline", "()J"⟩ : MethodName)) hown (mvT hZ (hw _ (List.mem_of_getElem? (i := 125) rfl))) (mvT hZ (hw _ (List.mem_of_getElem? (i := 126) rfl))) (notFace_of_selects (args := #[]) (mvT hZ (hw _ (List.mem_of_getElem? (i := 128) rfl)))) (mvT hZ (hw _ (List.mem_of_getElem? (i := 128) rfl))) (mvT hZ (hw _ (List.mem_of_getElem? (i := 127) rfl))) (by decide) (backOf (W := 0) (rm15 l Z aw hw [] b31 (q3 + (m0_0 p0 q1 q2 q3 q4)) (9223372036854775807 : Int64) T53.heap n0 Z53 Fd53 P53_3) hZ (hw _ (List.mem_of_getElem? (i := 129) rfl)) (hw _ (List.mem_of_getElem? (i := 31) rfl)) (by decide) (by decide)) q54a q54c (g := (mkF m 244 #[.val (.int p0), .val (.long q1), .second, .val (.long q2), .second, .val (.long q3), .second, .val (.long q4), .second, .val (.int (1 : Int32)), .val (.int p0), .val (.long (m0_0 p0 q1 q2 q3 q4)), .second, .val (.ref b30), .val (.ref b31), .val (.ref b35), .val (.long (q1 + (m0_0 p0 q1 q2 q3 q4))), .second, .val (.int (1 : Int32)), .val (.long (q3 + (m0_0 p0 q1 q2 q3 q4))), .second, .val (.int (f14 q3 (q1 + (m0_0 p0 q1 q2 q3 q4)) (m0_0 p0 q1 q2 q3 q4) (9223372036854775807 : Int64) (1 : Int32))), .val (.int (1 : Int32)), .val (.int (0 : Int32)), .val (.long (q3 + (m0_0 p0 q1 q2 q3 q4))), .second, .val (.int (f14 q4 (q3 + (m0_0 p0 q1 q2 q3 q4)) (m0_0 p0 q1 q2 q3 q4) (9223372036854775807 : Int64) (1 : Int32))), .unset] [(.ref b31)])) rfl (by rw [hml]; rfl) (Steps.refl _) (argsL := []) (rest := []) (lenOf pd_0_6 rfl) rfl (by show 2 * 0 + _ ≤ _; exact Nat.le_of_eq rfl) (hb hby at_244) (fun _ _ => ⟨rfl, rfl, (by decide : 9 + 0 ≤ _), (by decide : 50 + 0 ≤ _)⟩)
        dsimp only [Pt.U, Pt.locs, Pt.cells, Pt.slots] at X54 l54 y54 z54 st54 hQ54
        rw [l54, y54, z54] at X54
        obtain ⟨rfl, Nq54, e54⟩ := hQ54
        have N54 := Fr.app N53 Nq54
        refine own_back (b := T54.setTop (mkF m 275 #[.val (.int p0), .val (.long q1), .second, .val (.long q2), .second, .val (.long q3), .second, .val (.long q4), .second, .val (.int (1 : Int32)), .val (.int p0), .val (.long (m0_0 p0 q1 q2 q3 q4)), .second, .val (.ref b30), .val (.ref b31), .val (.ref b35), .val (.long (q1 + (m0_0 p0 q1 q2 q3 q4))), .second, .val (.int (1 : Int32)), .val (.long (q3 + (m0_0 p0 q1 q2 q3 q4))), .second, .val (.int (f14 q3 (q1 + (m0_0 p0 q1 q2 q3 q4)) (m0_0 p0 q1 q2 q3 q4) (9223372036854775807 : Int64) (1 : Int32))), .val (.int (1 : Int32)), .val (.int (0 : Int32)), .val (.long (q3 + (m0_0 p0 q1 q2 q3 q4))), .second, .val (.int (f14 q4 (q3 + (m0_0 p0 q1 q2 q3 q4)) (m0_0 p0 q1 q2 q3 q4) (9223372036854775807 : Int64) (1 : Int32))), .val (.int (1 : Int32))] [(.int (1 : Int32))])) (fun t kt => ?_) ?_
        · show Steps p.tables e below (T51.setTop (mkF m 199 #[.val (.int p0), .val (.long q1), .second, .val (.long q2), .second, .val (.long q3), .second, .val (.long q4), .second, .val (.int (1 : Int32)), .val (.int p0), .val (.long (m0_0 p0 q1 q2 q3 q4)), .second, .val (.ref b30), .val (.ref b31), .val (.ref b35), .val (.long (q1 + (m0_0 p0 q1 q2 q3 q4))), .second, .val (.int (1 : Int32)), .val (.long (q3 + (m0_0 p0 q1 q2 q3 q4))), .second, .val (.int (f14 q3 (q1 + (m0_0 p0 q1 q2 q3 q4)) (m0_0 p0 q1 q2 q3 q4) (9223372036854775807 : Int64) (1 : Int32))), .val (.int (1 : Int32)), .unset, .unset, .unset, .unset, .unset] [(.int (lcmpW q4 (q3 + (m0_0 p0 q1 q2 q3 q4))))])) _
          refine XS.ifYes X51.here hx rfl (pc0 := 199) (pc' := 206) rfl (hb hby at_199) rfl ((if0 _ _).trans (tlt ((lw_lt _ _).mpr hc199_52)).1) (by decide) (by decide) ?_
          refine XS.iconst X51.here hx rfl (hb hby at_206) ?_
          refine XS.istore X51.here hx rfl (hb hby at_207) rfl (l' := #[.val (.int p0), .val (.long q1), .second, .val (.long q2), .second, .val (.long q3), .second, .val (.long q4), .second, .val (.int (1 : Int32)), .val (.int p0), .val (.long (m0_0 p0 q1 q2 q3 q4)), .second, .val (.ref b30), .val (.ref b31), .val (.ref b35), .val (.long (q1 + (m0_0 p0 q1 q2 q3 q4))), .second, .val (.int (1 : Int32)), .val (.long (q3 + (m0_0 p0 q1 q2 q3 q4))), .second, .val (.int (f14 q3 (q1 + (m0_0 p0 q1 q2 q3 q4)) (m0_0 p0 q1 q2 q3 q4) (9223372036854775807 : Int64) (1 : Int32))), .val (.int (1 : Int32)), .val (.int (0 : Int32)), .unset, .unset, .unset, .unset]) rfl ?_
          refine XS.iload X51.here hx rfl (hb hby at_209) rfl ?_
          refine XS.ifYes X51.here hx rfl (pc0 := 211) (pc' := 222) rfl (hb hby at_211) rfl ((if0 _ _).trans (teq (by decide : (0 : Int32) = (0 : Int32))).1) (by decide) (by decide) ?_
          refine XS.lload X51.here hx rfl (hb hby at_222) rfl ?_
          refine XS.lstore X51.here hx rfl (hb hby at_224) rfl (l' := #[.val (.int p0), .val (.long q1), .second, .val (.long q2), .second, .val (.long q3), .second, .val (.long q4), .second, .val (.int (1 : Int32)), .val (.int p0), .val (.long (m0_0 p0 q1 q2 q3 q4)), .second, .val (.ref b30), .val (.ref b31), .val (.ref b35), .val (.long (q1 + (m0_0 p0 q1 q2 q3 q4))), .second, .val (.int (1 : Int32)), .val (.long (q3 + (m0_0 p0 q1 q2 q3 q4))), .second, .val (.int (f14 q3 (q1 + (m0_0 p0 q1 q2 q3 q4)) (m0_0 p0 q1 q2 q3 q4) (9223372036854775807 : Int64) (1 : Int32))), .val (.int (1 : Int32)), .val (.int (0 : Int32)), .val (.long (q3 + (m0_0 p0 q1 q2 q3 q4))), .second, .unset, .unset]) rfl ?_
          show Steps p.tables e below (T51.setTop (mkF m 226 #[.val (.int p0), .val (.long q1), .second, .val (.long q2), .second, .val (.long q3), .second, .val (.long q4), .second, .val (.int (1 : Int32)), .val (.int p0), .val (.long (m0_0 p0 q1 q2 q3 q4)), .second, .val (.ref b30), .val (.ref b31), .val (.ref b35), .val (.long (q1 + (m0_0 p0 q1 q2 q3 q4))), .second, .val (.int (1 : Int32)), .val (.long (q3 + (m0_0 p0 q1 q2 q3 q4))), .second, .val (.int (f14 q3 (q1 + (m0_0 p0 q1 q2 q3 q4)) (m0_0 p0 q1 q2 q3 q4) (9223372036854775807 : Int64) (1 : Int32))), .val (.int (1 : Int32)), .val (.int (0 : Int32)), .val (.long (q3 + (m0_0 p0 q1 q2 q3 q4))), .second, .unset, .unset] [])) _
          refine XS.aload X51.here hx rfl (hb hby at_226) rfl rfl ?_
          refine XS.lload X51.here hx rfl (hb hby at_228) rfl ?_
          show Steps p.tables e below (T51.setTop (mkF m 230 #[.val (.int p0), .val (.long q1), .second, .val (.long q2), .second, .val (.long q3), .second, .val (.long q4), .second, .val (.int (1 : Int32)), .val (.int p0), .val (.long (m0_0 p0 q1 q2 q3 q4)), .second, .val (.ref b30), .val (.ref b31), .val (.ref b35), .val (.long (q1 + (m0_0 p0 q1 q2 q3 q4))), .second, .val (.int (1 : Int32)), .val (.long (q3 + (m0_0 p0 q1 q2 q3 q4))), .second, .val (.int (f14 q3 (q1 + (m0_0 p0 q1 q2 q3 q4)) (m0_0 p0 q1 q2 q3 q4) (9223372036854775807 : Int64) (1 : Int32))), .val (.int (1 : Int32)), .val (.int (0 : Int32)), .val (.long (q3 + (m0_0 p0 q1 q2 q3 q4))), .second, .unset, .unset] [(.long q4), (.ref b31)])) _
          refine st53.trans ?_
          refine XS.istore X53.here hx rfl (hb hby at_233) rfl (l' := #[.val (.int p0), .val (.long q1), .second, .val (.long q2), .second, .val (.long q3), .second, .val (.long q4), .second, .val (.int (1 : Int32)), .val (.int p0), .val (.long (m0_0 p0 q1 q2 q3 q4)), .second, .val (.ref b30), .val (.ref b31), .val (.ref b35), .val (.long (q1 + (m0_0 p0 q1 q2 q3 q4))), .second, .val (.int (1 : Int32)), .val (.long (q3 + (m0_0 p0 q1 q2 q3 q4))), .second, .val (.int (f14 q3 (q1 + (m0_0 p0 q1 q2 q3 q4)) (m0_0 p0 q1 q2 q3 q4) (9223372036854775807 : Int64) (1 : Int32))), .val (.int (1 : Int32)), .val (.int (0 : Int32)), .val (.long (q3 + (m0_0 p0 q1 q2 q3 q4))), .second, .val (.int (f14 q4 (q3 + (m0_0 p0 q1 q2 q3 q4)) (m0_0 p0 q1 q2 q3 q4) (9223372036854775807 : Int64) (1 : Int32))), .unset]) rfl ?_
          refine XS.iload X53.here hx rfl (hb hby at_235) rfl ?_
          refine XS.iload X53.here hx rfl (hb hby at_237) rfl ?_
          refine XS.icmpNo X53.here hx rfl (hb hby at_239) rfl (teq (own_due0 hc199_52)).2 ?_
          refine XS.aload X53.here hx rfl (hb hby at_242) rfl rfl ?_
          show Steps p.tables e below (T53.setTop (mkF m 244 #[.val (.int p0), .val (.long q1), .second, .val (.long q2), .second, .val (.long q3), .second, .val (.long q4), .second, .val (.int (1 : Int32)), .val (.int p0), .val (.long (m0_0 p0 q1 q2 q3 q4)), .second, .val (.ref b30), .val (.ref b31), .val (.ref b35), .val (.long (q1 + (m0_0 p0 q1 q2 q3 q4))), .second, .val (.int (1 : Int32)), .val (.long (q3 + (m0_0 p0 q1 q2 q3 q4))), .second, .val (.int (f14 q3 (q1 + (m0_0 p0 q1 q2 q3 q4)) (m0_0 p0 q1 q2 q3 q4) (9223372036854775807 : Int64) (1 : Int32))), .val (.int (1 : Int32)), .val (.int (0 : Int32)), .val (.long (q3 + (m0_0 p0 q1 q2 q3 q4))), .second, .val (.int (f14 q4 (q3 + (m0_0 p0 q1 q2 q3 q4)) (m0_0 p0 q1 q2 q3 q4) (9223372036854775807 : Int64) (1 : Int32))), .unset] [(.ref b31)])) _
          refine st54.trans ?_
          refine XS.lload X54.here hx rfl (hb hby at_247) rfl ?_
          refine XS.lcmp X54.here hx rfl (hb hby at_249) rfl ?_
          refine XS.ifNo X54.here hx rfl (hb hby at_250) rfl ((if0 _ _).trans (teq ((lw_eq _ _).mpr (own_mint _))).2) ?_
          refine XS.iconst X54.here hx rfl (hb hby at_253) ?_
          refine XS.goto X54.here hx rfl (pc0 := 254) (pc' := 258) rfl (hb hby at_254) (by decide) (by decide) ?_
          refine XS.istore X54.here hx rfl (hb hby at_258) rfl (l' := #[.val (.int p0), .val (.long q1), .second, .val (.long q2), .second, .val (.long q3), .second, .val (.long q4), .second, .val (.int (1 : Int32)), .val (.int p0), .val (.long (m0_0 p0 q1 q2 q3 q4)), .second, .val (.ref b30), .val (.ref b31), .val (.ref b35), .val (.long (q1 + (m0_0 p0 q1 q2 q3 q4))), .second, .val (.int (1 : Int32)), .val (.long (q3 + (m0_0 p0 q1 q2 q3 q4))), .second, .val (.int (f14 q3 (q1 + (m0_0 p0 q1 q2 q3 q4)) (m0_0 p0 q1 q2 q3 q4) (9223372036854775807 : Int64) (1 : Int32))), .val (.int (1 : Int32)), .val (.int (0 : Int32)), .val (.long (q3 + (m0_0 p0 q1 q2 q3 q4))), .second, .val (.int (f14 q4 (q3 + (m0_0 p0 q1 q2 q3 q4)) (m0_0 p0 q1 q2 q3 q4) (9223372036854775807 : Int64) (1 : Int32))), .val (.int (1 : Int32))]) rfl ?_
          show Steps p.tables e below (T54.setTop (mkF m 260 #[.val (.int p0), .val (.long q1), .second, .val (.long q2), .second, .val (.long q3), .second, .val (.long q4), .second, .val (.int (1 : Int32)), .val (.int p0), .val (.long (m0_0 p0 q1 q2 q3 q4)), .second, .val (.ref b30), .val (.ref b31), .val (.ref b35), .val (.long (q1 + (m0_0 p0 q1 q2 q3 q4))), .second, .val (.int (1 : Int32)), .val (.long (q3 + (m0_0 p0 q1 q2 q3 q4))), .second, .val (.int (f14 q3 (q1 + (m0_0 p0 q1 q2 q3 q4)) (m0_0 p0 q1 q2 q3 q4) (9223372036854775807 : Int64) (1 : Int32))), .val (.int (1 : Int32)), .val (.int (0 : Int32)), .val (.long (q3 + (m0_0 p0 q1 q2 q3 q4))), .second, .val (.int (f14 q4 (q3 + (m0_0 p0 q1 q2 q3 q4)) (m0_0 p0 q1 q2 q3 q4) (9223372036854775807 : Int64) (1 : Int32))), .val (.int (1 : Int32))] [])) _
          refine XS.iload X54.here hx rfl (hb hby at_260) rfl ?_
          refine XS.ifNo X54.here hx rfl (hb hby at_262) rfl ((if0 _ _).trans (feq (by decide : ¬ ((1 : Int32) = (0 : Int32)))).1) ?_
          refine XS.iload X54.here hx rfl (hb hby at_265) rfl ?_
          refine XS.ifNo X54.here hx rfl (hb hby at_267) rfl ((if0 _ _).trans (feq (by decide : ¬ ((1 : Int32) = (0 : Int32)))).1) ?_
          refine XS.iconst X54.here hx rfl (hb hby at_270) ?_
          refine XS.goto X54.here hx rfl (pc0 := 271) (pc' := 275) rfl (hb hby at_271) (by decide) (by decide) ?_
          exact kt
        obtain ⟨fs, hr, hrun, hended, hW, hsame⟩ := X54.leave (v := some (.int (1 : Int32))) (fun h => by rw [Bd.returns] at h; cases h) (BodyLoose.notSynchronized Bd)
        refine ⟨_, _, ?_, hrun, hended, _, _, rfl, ?_, ⟨_, rfl⟩, hW, hsame.mono (by decide) (by decide)⟩
        · show Steps p.tables e below (T54.setTop (mkF m 275 #[.val (.int p0), .val (.long q1), .second, .val (.long q2), .second, .val (.long q3), .second, .val (.long q4), .second, .val (.int (1 : Int32)), .val (.int p0), .val (.long (m0_0 p0 q1 q2 q3 q4)), .second, .val (.ref b30), .val (.ref b31), .val (.ref b35), .val (.long (q1 + (m0_0 p0 q1 q2 q3 q4))), .second, .val (.int (1 : Int32)), .val (.long (q3 + (m0_0 p0 q1 q2 q3 q4))), .second, .val (.int (f14 q3 (q1 + (m0_0 p0 q1 q2 q3 q4)) (m0_0 p0 q1 q2 q3 q4) (9223372036854775807 : Int64) (1 : Int32))), .val (.int (1 : Int32)), .val (.int (0 : Int32)), .val (.long (q3 + (m0_0 p0 q1 q2 q3 q4))), .second, .val (.int (f14 q4 (q3 + (m0_0 p0 q1 q2 q3 q4)) (m0_0 p0 q1 q2 q3 q4) (9223372036854775807 : Int64) (1 : Int32))), .val (.int (1 : Int32))] [(.int (1 : Int32))])) _
          exact retN X54 hx (t := .boolean) Bd.returns (by simp) (hb hby at_275) hr
        · show Q0 Z p0 q1 q2 q3 q4 wd kd wc h0 n0 _ T54.heap _
          rw [e54]
          exact ⟨by rw [show f0 p0 q1 q2 q3 q4 = (1 : Int32) from by unfold f0; rw [if_neg hc3_1, if_neg hc123_40, if_pos hc199_52]], N54⟩
      · obtain ⟨cq55, kq55, q55a, q55b, q55c⟩ := isOf hZ e51 P49_0
        obtain ⟨_, _, ⟨T55, L55, k55, n55⟩, -, X55, ⟨Lc55, hQ55, l55, y55, z55⟩, st55⟩ := X51.virtualBack hx (y := (⟨"com/example/many_to_leader/manytoleader/bully/CandidatePool", "heartbeatDue", "(J)Z"⟩ : MethodName)) (z := (⟨"com/example/many_to_leader/manytoleader/bully/CandidatePool", "heartbeatDue", "(J)Z"⟩ : MethodName)) hown (mvT hZ (hw _ (List.mem_of_getElem? (i := 120) rfl))) (mvT hZ (hw _ (List.mem_of_getElem? (i := 121) rfl))) (notFace_of_selects (args := #[]) (mvT hZ (hw _ (List.mem_of_getElem? (i := 123) rfl)))) (mvT hZ (hw _ (List.mem_of_getElem? (i := 123) rfl))) (mvT hZ (hw _ (List.mem_of_getElem? (i := 122) rfl))) (by decide) (backOf (W := 0) (rm14 l Z aw hw [] b31 q4 (q3 + (m0_0 p0 q1 q2 q3 q4)) (m0_0 p0 q1 q2 q3 q4) (9223372036854775807 : Int64) (1 : Int32) T49.heap n0 Z49 P49_0 lo31 Fd49 P49_2 P49_3 P49_4) hZ (hw _ (List.mem_of_getElem? (i := 124) rfl)) (hw _ (List.mem_of_getElem? (i := 31) rfl)) (by decide) (by decide)) q55a q55c (g := (mkF m 230 #[.val (.int p0), .val (.long q1), .second, .val (.long q2), .second, .val (.long q3), .second, .val (.long q4), .second, .val (.int (1 : Int32)), .val (.int p0), .val (.long (m0_0 p0 q1 q2 q3 q4)), .second, .val (.ref b30), .val (.ref b31), .val (.ref b35), .val (.long (q1 + (m0_0 p0 q1 q2 q3 q4))), .second, .val (.int (1 : Int32)), .val (.long (q3 + (m0_0 p0 q1 q2 q3 q4))), .second, .val (.int (f14 q3 (q1 + (m0_0 p0 q1 q2 q3 q4)) (m0_0 p0 q1 q2 q3 q4) (9223372036854775807 : Int64) (1 : Int32))), .val (.int (1 : Int32)), .val (.int (1 : Int32)), .val (.long (q4 + (m0_0 p0 q1 q2 q3 q4))), .second, .unset, .unset] [(.long q4), (.ref b31)])) rfl (by rw [hml]; rfl) (Steps.refl _) (argsL := [(.long q4)]) (rest := []) (lenOf pd_0_5 rfl) rfl (by show 2 * 0 + _ ≤ _; exact Nat.le_of_eq rfl) (hb hby at_230) (fun _ _ => ⟨rfl, e51, (by decide : 9 + 0 ≤ _), (by decide : 50 + 0 ≤ _)⟩)
        dsimp only [Pt.U, Pt.locs, Pt.cells, Pt.slots] at X55 l55 y55 z55 st55 hQ55
        rw [l55, y55, z55] at X55
        obtain ⟨rfl, Nq55, Kq55, P55_0, P55_1, P55_2, P55_3, P55_4⟩ := hQ55
        have N55 := Fr.app N51 Nq55
        have f55_0 := f49_0.keep Kq55
        have f55_1 := f49_1.keep Kq55 (ninS ne31_b28 nin0)
        have f55_2 := f49_2.keep Kq55 (ninS ne31_b28 nin0)
        have f55_3 := f49_3.keep Kq55 (ninS ne31_b28 nin0)
        have f55_4 := f49_4.keep Kq55 (ninS ne31_b28 nin0)
        have f55_5 := f49_5.keep Kq55 (ninS ne31_b28 nin0)
        have f55_6 := f49_6.keep Kq55
        have f55_7 := f49_7.keep Kq55 (ninS ne31_b30 nin0)
        have f55_8 := f49_8.keep Kq55 (ninS ne31_b30 nin0)
        have f55_9 := f49_9.keep Kq55
        have f55_10 := f49_10.keep Kq55
        have f55_11 := f49_11.keep Kq55 (ninS (ne_exa f49_10 P49_0 (by decide)) nin0)
        have f55_12 := f49_12.keep Kq55
        have f55_13 := f49_13.keep Kq55 (ninS (Ne.symm ne35_b31) nin0)
        have f55_14 := f49_14.keep Kq55 (ninS (Ne.symm ne35_b31) nin0)
        have f55_15 := f49_15.keep Kq55 (ninS (Ne.symm ne35_b31) nin0)
        have f55_16 := f49_16.keep Kq55 (ninS (ne_exa f49_17 P49_0 (by decide)) nin0)
        have f55_17 := f49_17.keep Kq55
        have K55 : Keep h0 T55.heap [] := K49.trans Kq55 (allS (Or.inr sz31) all0)
        have Z55 : n0 ≤ T55.heap.size := Nat.le_trans Z49 Kq55.1
        have Fd55 := P55_1
        rw [own_hd_f hc199_52] at Fd55
        obtain ⟨cq56, kq56, q56a, q56b, q56c⟩ := isOf hZ rfl P55_0
        obtain ⟨_, _, ⟨T56, L56, k56, n56⟩, -, X56, ⟨Lc56, hQ56, l56, y56, z56⟩, st56⟩ := X55.virtualBack hx (y := (⟨"com/example/many_to_leader/manytoleader/bully/CandidatePool", "deadline", "()J"⟩ : MethodName)) (z := (⟨"com/example/many_to_leader/manytoleader/bully/CandidatePool", "deadline", "()J"⟩ : MethodName)) hown (mvT hZ (hw _ (List.mem_of_getElem? (i := 125) rfl))) (mvT hZ (hw _ (List.mem_of_getElem? (i := 126) rfl))) (notFace_of_selects (args := #[]) (mvT hZ (hw _ (List.mem_of_getElem? (i := 128) rfl)))) (mvT hZ (hw _ (List.mem_of_getElem? (i := 128) rfl))) (mvT hZ (hw _ (List.mem_of_getElem? (i := 127) rfl))) (by decide) (backOf (W := 0) (rm15 l Z aw hw [] b31 (q4 + (m0_0 p0 q1 q2 q3 q4)) (9223372036854775807 : Int64) T55.heap n0 Z55 Fd55 P55_3) hZ (hw _ (List.mem_of_getElem? (i := 129) rfl)) (hw _ (List.mem_of_getElem? (i := 31) rfl)) (by decide) (by decide)) q56a q56c (g := (mkF m 244 #[.val (.int p0), .val (.long q1), .second, .val (.long q2), .second, .val (.long q3), .second, .val (.long q4), .second, .val (.int (1 : Int32)), .val (.int p0), .val (.long (m0_0 p0 q1 q2 q3 q4)), .second, .val (.ref b30), .val (.ref b31), .val (.ref b35), .val (.long (q1 + (m0_0 p0 q1 q2 q3 q4))), .second, .val (.int (1 : Int32)), .val (.long (q3 + (m0_0 p0 q1 q2 q3 q4))), .second, .val (.int (f14 q3 (q1 + (m0_0 p0 q1 q2 q3 q4)) (m0_0 p0 q1 q2 q3 q4) (9223372036854775807 : Int64) (1 : Int32))), .val (.int (1 : Int32)), .val (.int (1 : Int32)), .val (.long (q4 + (m0_0 p0 q1 q2 q3 q4))), .second, .val (.int (f14 q4 (q3 + (m0_0 p0 q1 q2 q3 q4)) (m0_0 p0 q1 q2 q3 q4) (9223372036854775807 : Int64) (1 : Int32))), .unset] [(.ref b31)])) rfl (by rw [hml]; rfl) (Steps.refl _) (argsL := []) (rest := []) (lenOf pd_0_6 rfl) rfl (by show 2 * 0 + _ ≤ _; exact Nat.le_of_eq rfl) (hb hby at_244) (fun _ _ => ⟨rfl, rfl, (by decide : 9 + 0 ≤ _), (by decide : 50 + 0 ≤ _)⟩)
        dsimp only [Pt.U, Pt.locs, Pt.cells, Pt.slots] at X56 l56 y56 z56 st56 hQ56
        rw [l56, y56, z56] at X56
        obtain ⟨rfl, Nq56, e56⟩ := hQ56
        have N56 := Fr.app N55 Nq56
        refine own_back (b := T56.setTop (mkF m 275 #[.val (.int p0), .val (.long q1), .second, .val (.long q2), .second, .val (.long q3), .second, .val (.long q4), .second, .val (.int (1 : Int32)), .val (.int p0), .val (.long (m0_0 p0 q1 q2 q3 q4)), .second, .val (.ref b30), .val (.ref b31), .val (.ref b35), .val (.long (q1 + (m0_0 p0 q1 q2 q3 q4))), .second, .val (.int (1 : Int32)), .val (.long (q3 + (m0_0 p0 q1 q2 q3 q4))), .second, .val (.int (f14 q3 (q1 + (m0_0 p0 q1 q2 q3 q4)) (m0_0 p0 q1 q2 q3 q4) (9223372036854775807 : Int64) (1 : Int32))), .val (.int (1 : Int32)), .val (.int (1 : Int32)), .val (.long (q4 + (m0_0 p0 q1 q2 q3 q4))), .second, .val (.int (f14 q4 (q3 + (m0_0 p0 q1 q2 q3 q4)) (m0_0 p0 q1 q2 q3 q4) (9223372036854775807 : Int64) (1 : Int32))), .val (.int (1 : Int32))] [(.int (1 : Int32))])) (fun t kt => ?_) ?_
        · show Steps p.tables e below (T51.setTop (mkF m 199 #[.val (.int p0), .val (.long q1), .second, .val (.long q2), .second, .val (.long q3), .second, .val (.long q4), .second, .val (.int (1 : Int32)), .val (.int p0), .val (.long (m0_0 p0 q1 q2 q3 q4)), .second, .val (.ref b30), .val (.ref b31), .val (.ref b35), .val (.long (q1 + (m0_0 p0 q1 q2 q3 q4))), .second, .val (.int (1 : Int32)), .val (.long (q3 + (m0_0 p0 q1 q2 q3 q4))), .second, .val (.int (f14 q3 (q1 + (m0_0 p0 q1 q2 q3 q4)) (m0_0 p0 q1 q2 q3 q4) (9223372036854775807 : Int64) (1 : Int32))), .val (.int (1 : Int32)), .unset, .unset, .unset, .unset, .unset] [(.int (lcmpW q4 (q3 + (m0_0 p0 q1 q2 q3 q4))))])) _
          refine XS.ifNo X51.here hx rfl (hb hby at_199) rfl ((if0 _ _).trans (flt (fun q => hc199_52 ((lw_lt _ _).mp q))).1) ?_
          refine XS.iconst X51.here hx rfl (hb hby at_202) ?_
          refine XS.goto X51.here hx rfl (pc0 := 203) (pc' := 207) rfl (hb hby at_203) (by decide) (by decide) ?_
          refine XS.istore X51.here hx rfl (hb hby at_207) rfl (l' := #[.val (.int p0), .val (.long q1), .second, .val (.long q2), .second, .val (.long q3), .second, .val (.long q4), .second, .val (.int (1 : Int32)), .val (.int p0), .val (.long (m0_0 p0 q1 q2 q3 q4)), .second, .val (.ref b30), .val (.ref b31), .val (.ref b35), .val (.long (q1 + (m0_0 p0 q1 q2 q3 q4))), .second, .val (.int (1 : Int32)), .val (.long (q3 + (m0_0 p0 q1 q2 q3 q4))), .second, .val (.int (f14 q3 (q1 + (m0_0 p0 q1 q2 q3 q4)) (m0_0 p0 q1 q2 q3 q4) (9223372036854775807 : Int64) (1 : Int32))), .val (.int (1 : Int32)), .val (.int (1 : Int32)), .unset, .unset, .unset, .unset]) rfl ?_
          refine XS.iload X51.here hx rfl (hb hby at_209) rfl ?_
          refine XS.ifNo X51.here hx rfl (hb hby at_211) rfl ((if0 _ _).trans (feq (by decide : ¬ ((1 : Int32) = (0 : Int32)))).1) ?_
          refine XS.lload X51.here hx rfl (hb hby at_214) rfl ?_
          show Steps p.tables e below (T51.setTop (mkF m 216 #[.val (.int p0), .val (.long q1), .second, .val (.long q2), .second, .val (.long q3), .second, .val (.long q4), .second, .val (.int (1 : Int32)), .val (.int p0), .val (.long (m0_0 p0 q1 q2 q3 q4)), .second, .val (.ref b30), .val (.ref b31), .val (.ref b35), .val (.long (q1 + (m0_0 p0 q1 q2 q3 q4))), .second, .val (.int (1 : Int32)), .val (.long (q3 + (m0_0 p0 q1 q2 q3 q4))), .second, .val (.int (f14 q3 (q1 + (m0_0 p0 q1 q2 q3 q4)) (m0_0 p0 q1 q2 q3 q4) (9223372036854775807 : Int64) (1 : Int32))), .val (.int (1 : Int32)), .val (.int (1 : Int32)), .unset, .unset, .unset, .unset] [(.long q4)])) _
          refine XS.lload X51.here hx rfl (hb hby at_216) rfl ?_
          refine XS.ladd X51.here hx rfl (hb hby at_218) rfl ?_
          refine XS.goto X51.here hx rfl (pc0 := 219) (pc' := 224) rfl (hb hby at_219) (by decide) (by decide) ?_
          refine XS.lstore X51.here hx rfl (hb hby at_224) rfl (l' := #[.val (.int p0), .val (.long q1), .second, .val (.long q2), .second, .val (.long q3), .second, .val (.long q4), .second, .val (.int (1 : Int32)), .val (.int p0), .val (.long (m0_0 p0 q1 q2 q3 q4)), .second, .val (.ref b30), .val (.ref b31), .val (.ref b35), .val (.long (q1 + (m0_0 p0 q1 q2 q3 q4))), .second, .val (.int (1 : Int32)), .val (.long (q3 + (m0_0 p0 q1 q2 q3 q4))), .second, .val (.int (f14 q3 (q1 + (m0_0 p0 q1 q2 q3 q4)) (m0_0 p0 q1 q2 q3 q4) (9223372036854775807 : Int64) (1 : Int32))), .val (.int (1 : Int32)), .val (.int (1 : Int32)), .val (.long (q4 + (m0_0 p0 q1 q2 q3 q4))), .second, .unset, .unset]) rfl ?_
          refine XS.aload X51.here hx rfl (hb hby at_226) rfl rfl ?_
          refine XS.lload X51.here hx rfl (hb hby at_228) rfl ?_
          show Steps p.tables e below (T51.setTop (mkF m 230 #[.val (.int p0), .val (.long q1), .second, .val (.long q2), .second, .val (.long q3), .second, .val (.long q4), .second, .val (.int (1 : Int32)), .val (.int p0), .val (.long (m0_0 p0 q1 q2 q3 q4)), .second, .val (.ref b30), .val (.ref b31), .val (.ref b35), .val (.long (q1 + (m0_0 p0 q1 q2 q3 q4))), .second, .val (.int (1 : Int32)), .val (.long (q3 + (m0_0 p0 q1 q2 q3 q4))), .second, .val (.int (f14 q3 (q1 + (m0_0 p0 q1 q2 q3 q4)) (m0_0 p0 q1 q2 q3 q4) (9223372036854775807 : Int64) (1 : Int32))), .val (.int (1 : Int32)), .val (.int (1 : Int32)), .val (.long (q4 + (m0_0 p0 q1 q2 q3 q4))), .second, .unset, .unset] [(.long q4), (.ref b31)])) _
          refine st55.trans ?_
          refine XS.istore X55.here hx rfl (hb hby at_233) rfl (l' := #[.val (.int p0), .val (.long q1), .second, .val (.long q2), .second, .val (.long q3), .second, .val (.long q4), .second, .val (.int (1 : Int32)), .val (.int p0), .val (.long (m0_0 p0 q1 q2 q3 q4)), .second, .val (.ref b30), .val (.ref b31), .val (.ref b35), .val (.long (q1 + (m0_0 p0 q1 q2 q3 q4))), .second, .val (.int (1 : Int32)), .val (.long (q3 + (m0_0 p0 q1 q2 q3 q4))), .second, .val (.int (f14 q3 (q1 + (m0_0 p0 q1 q2 q3 q4)) (m0_0 p0 q1 q2 q3 q4) (9223372036854775807 : Int64) (1 : Int32))), .val (.int (1 : Int32)), .val (.int (1 : Int32)), .val (.long (q4 + (m0_0 p0 q1 q2 q3 q4))), .second, .val (.int (f14 q4 (q3 + (m0_0 p0 q1 q2 q3 q4)) (m0_0 p0 q1 q2 q3 q4) (9223372036854775807 : Int64) (1 : Int32))), .unset]) rfl ?_
          refine XS.iload X55.here hx rfl (hb hby at_235) rfl ?_
          refine XS.iload X55.here hx rfl (hb hby at_237) rfl ?_
          refine XS.icmpNo X55.here hx rfl (hb hby at_239) rfl (teq (own_due1 hc199_52)).2 ?_
          refine XS.aload X55.here hx rfl (hb hby at_242) rfl rfl ?_
          show Steps p.tables e below (T55.setTop (mkF m 244 #[.val (.int p0), .val (.long q1), .second, .val (.long q2), .second, .val (.long q3), .second, .val (.long q4), .second, .val (.int (1 : Int32)), .val (.int p0), .val (.long (m0_0 p0 q1 q2 q3 q4)), .second, .val (.ref b30), .val (.ref b31), .val (.ref b35), .val (.long (q1 + (m0_0 p0 q1 q2 q3 q4))), .second, .val (.int (1 : Int32)), .val (.long (q3 + (m0_0 p0 q1 q2 q3 q4))), .second, .val (.int (f14 q3 (q1 + (m0_0 p0 q1 q2 q3 q4)) (m0_0 p0 q1 q2 q3 q4) (9223372036854775807 : Int64) (1 : Int32))), .val (.int (1 : Int32)), .val (.int (1 : Int32)), .val (.long (q4 + (m0_0 p0 q1 q2 q3 q4))), .second, .val (.int (f14 q4 (q3 + (m0_0 p0 q1 q2 q3 q4)) (m0_0 p0 q1 q2 q3 q4) (9223372036854775807 : Int64) (1 : Int32))), .unset] [(.ref b31)])) _
          refine st56.trans ?_
          refine XS.lload X56.here hx rfl (hb hby at_247) rfl ?_
          refine XS.lcmp X56.here hx rfl (hb hby at_249) rfl ?_
          refine XS.ifNo X56.here hx rfl (hb hby at_250) rfl ((if0 _ _).trans (teq ((lw_eq _ _).mpr (own_mint _))).2) ?_
          refine XS.iconst X56.here hx rfl (hb hby at_253) ?_
          refine XS.goto X56.here hx rfl (pc0 := 254) (pc' := 258) rfl (hb hby at_254) (by decide) (by decide) ?_
          refine XS.istore X56.here hx rfl (hb hby at_258) rfl (l' := #[.val (.int p0), .val (.long q1), .second, .val (.long q2), .second, .val (.long q3), .second, .val (.long q4), .second, .val (.int (1 : Int32)), .val (.int p0), .val (.long (m0_0 p0 q1 q2 q3 q4)), .second, .val (.ref b30), .val (.ref b31), .val (.ref b35), .val (.long (q1 + (m0_0 p0 q1 q2 q3 q4))), .second, .val (.int (1 : Int32)), .val (.long (q3 + (m0_0 p0 q1 q2 q3 q4))), .second, .val (.int (f14 q3 (q1 + (m0_0 p0 q1 q2 q3 q4)) (m0_0 p0 q1 q2 q3 q4) (9223372036854775807 : Int64) (1 : Int32))), .val (.int (1 : Int32)), .val (.int (1 : Int32)), .val (.long (q4 + (m0_0 p0 q1 q2 q3 q4))), .second, .val (.int (f14 q4 (q3 + (m0_0 p0 q1 q2 q3 q4)) (m0_0 p0 q1 q2 q3 q4) (9223372036854775807 : Int64) (1 : Int32))), .val (.int (1 : Int32))]) rfl ?_
          show Steps p.tables e below (T56.setTop (mkF m 260 #[.val (.int p0), .val (.long q1), .second, .val (.long q2), .second, .val (.long q3), .second, .val (.long q4), .second, .val (.int (1 : Int32)), .val (.int p0), .val (.long (m0_0 p0 q1 q2 q3 q4)), .second, .val (.ref b30), .val (.ref b31), .val (.ref b35), .val (.long (q1 + (m0_0 p0 q1 q2 q3 q4))), .second, .val (.int (1 : Int32)), .val (.long (q3 + (m0_0 p0 q1 q2 q3 q4))), .second, .val (.int (f14 q3 (q1 + (m0_0 p0 q1 q2 q3 q4)) (m0_0 p0 q1 q2 q3 q4) (9223372036854775807 : Int64) (1 : Int32))), .val (.int (1 : Int32)), .val (.int (1 : Int32)), .val (.long (q4 + (m0_0 p0 q1 q2 q3 q4))), .second, .val (.int (f14 q4 (q3 + (m0_0 p0 q1 q2 q3 q4)) (m0_0 p0 q1 q2 q3 q4) (9223372036854775807 : Int64) (1 : Int32))), .val (.int (1 : Int32))] [])) _
          refine XS.iload X56.here hx rfl (hb hby at_260) rfl ?_
          refine XS.ifNo X56.here hx rfl (hb hby at_262) rfl ((if0 _ _).trans (feq (by decide : ¬ ((1 : Int32) = (0 : Int32)))).1) ?_
          refine XS.iload X56.here hx rfl (hb hby at_265) rfl ?_
          refine XS.ifNo X56.here hx rfl (hb hby at_267) rfl ((if0 _ _).trans (feq (by decide : ¬ ((1 : Int32) = (0 : Int32)))).1) ?_
          refine XS.iconst X56.here hx rfl (hb hby at_270) ?_
          refine XS.goto X56.here hx rfl (pc0 := 271) (pc' := 275) rfl (hb hby at_271) (by decide) (by decide) ?_
          exact kt
        obtain ⟨fs, hr, hrun, hended, hW, hsame⟩ := X56.leave (v := some (.int (1 : Int32))) (fun h => by rw [Bd.returns] at h; cases h) (BodyLoose.notSynchronized Bd)
        refine ⟨_, _, ?_, hrun, hended, _, _, rfl, ?_, ⟨_, rfl⟩, hW, hsame.mono (by decide) (by decide)⟩
        · show Steps p.tables e below (T56.setTop (mkF m 275 #[.val (.int p0), .val (.long q1), .second, .val (.long q2), .second, .val (.long q3), .second, .val (.long q4), .second, .val (.int (1 : Int32)), .val (.int p0), .val (.long (m0_0 p0 q1 q2 q3 q4)), .second, .val (.ref b30), .val (.ref b31), .val (.ref b35), .val (.long (q1 + (m0_0 p0 q1 q2 q3 q4))), .second, .val (.int (1 : Int32)), .val (.long (q3 + (m0_0 p0 q1 q2 q3 q4))), .second, .val (.int (f14 q3 (q1 + (m0_0 p0 q1 q2 q3 q4)) (m0_0 p0 q1 q2 q3 q4) (9223372036854775807 : Int64) (1 : Int32))), .val (.int (1 : Int32)), .val (.int (1 : Int32)), .val (.long (q4 + (m0_0 p0 q1 q2 q3 q4))), .second, .val (.int (f14 q4 (q3 + (m0_0 p0 q1 q2 q3 q4)) (m0_0 p0 q1 q2 q3 q4) (9223372036854775807 : Int64) (1 : Int32))), .val (.int (1 : Int32))] [(.int (1 : Int32))])) _
          exact retN X56 hx (t := .boolean) Bd.returns (by simp) (hb hby at_275) hr
        · show Q0 Z p0 q1 q2 q3 q4 wd kd wc h0 n0 _ T56.heap _
          rw [e56]
          exact ⟨by rw [show f0 p0 q1 q2 q3 q4 = (1 : Int32) from by unfold f0; rw [if_neg hc3_1, if_neg hc123_40, if_neg hc199_52]], N56⟩
theorem own_law (a : Int32) (b c d e : Int64) : f0 a b c d e = 1 := by
  unfold f0
  repeat' split
  all_goals rfl
theorem own_len {args : Array Value} {s : State} {t : Term} {a : Addr} {cl : Cell} {k : Int32} (ev : t.eval args s none [] s = some (.ref a)) (hat : s.arrayAt? a = some cl) (v4 : (Jvm.Cond.eq (Term.length t) (Term.int k)).value args s none s [] = some true) : cl.slots.size < 2 ^ 31 ∧ cl.slots.size.toInt32 = k := by
  obtain ⟨x, y, ex, ey, -, -⟩ := cmp_v (Or.inl v4)
  have hlt : cl.slots.size < 2 ^ 31 := by
    by_cases q : cl.slots.size < 2 ^ 31
    · exact q
    · simp [Term.eval, ev, hat, q] at ex
  obtain ⟨a', c', e1, e2, rfl⟩ := Term.length_spec ex
  cases ev.symm.trans e1
  cases hat.symm.trans e2
  exact ⟨hlt, gotT (Cond.eq_ints ex (Term.int_eval k)) v4⟩
theorem own_stac {args : Array Value} {s : State} {t : Term} {k : Int32} (h : (Jvm.Cond.eq t (Term.int k)).value args s none s [] = some true) : t.eval args s none [] s = some (.int k) := by
  obtain ⟨x, y, ex, ey, kxy, kyx⟩ := cmp_v (Or.inl h)
  obtain rfl : y = .int k := (Option.some.inj ((Term.int_eval k).symm.trans ey)).symm
  obtain ⟨z, rfl⟩ := kyx
  obtain rfl : z = k := gotT (Cond.eq_ints ex ey) h
  exact ex
theorem own_exai {args : Array Value} {s : State} {t : Term} {a : Addr} {C : String} {idx : List Nat} (ev : t.eval args s none idx s = some (.ref a)) (h : (Jvm.Cond.exactly t C).value args s none s idx = some true) : Exa s s.heap a C := by
  have e : (Jvm.Cond.exactly (Term.arg 0) C).value #[.ref a] s none s [] = (Jvm.Cond.exactly t C).value args s none s idx := by
    have ev0 : (Term.arg 0).eval #[.ref a] s none [] s = some (.ref a) := rfl
    simp only [Cond.value, ev, ev0]
  exact Exa.start (t := Term.arg 0) rfl (e.trans h)
theorem own_empty {args : Array Value} {s : State} (hfit : Fit s) {t : Term} {C : String} (v6 : (Jvm.Cond.arrayOf t (.object C)).value args s none s [] = some true) {a : Addr} (ev : t.eval args s none [] s = some (.ref a))
    (v8 : (Jvm.Cond.eq (Term.length t) (Term.int 0)).value args s none s [] = some true) : ∃ kd, Arv s s.heap a kd (.object C) (0 : Int32) [] .null := by
  obtain ⟨cl, A⟩ := Arr.start ev v6
  have hat : s.arrayAt? a = some cl := A.fin (State.Warmed39.refl s).alike
  obtain ⟨h1, h2⟩ := own_len ev hat v8
  exact ⟨cl.cls, Arv.start hfit A h1 h2 (by decide) rfl trivial⟩
theorem own_icache {args : Array Value} {s : State} {wc : Addr} (ev : (Term.static "java/lang/Integer$IntegerCache" "cache" "[Ljava/lang/Integer;").eval args s none [] s = some (.ref wc))
    (v2 : (Jvm.Cond.arrayOf (Term.static "java/lang/Integer$IntegerCache" "cache" "[Ljava/lang/Integer;") (.object "java/lang/Integer")).value args s none s [] = some true)
    (v4 : (Jvm.Cond.eq (Term.length (Term.static "java/lang/Integer$IntegerCache" "cache" "[Ljava/lang/Integer;")) (Term.int 256)).value args s none s [] = some true)
    (v5 : (Jvm.Cond.all (Term.static "java/lang/Integer$IntegerCache" "cache" "[Ljava/lang/Integer;") (Jvm.Cond.and (Jvm.Cond.exactly (Term.elem (Term.static "java/lang/Integer$IntegerCache" "cache" "[Ljava/lang/Integer;") (Term.index 0)) "java/lang/Integer") (Jvm.Cond.eq (Term.field (Term.elem (Term.static "java/lang/Integer$IntegerCache" "cache" "[Ljava/lang/Integer;") (Term.index 0)) "java/lang/Integer" "value" "I") (Term.sub (Term.index 0) (Term.int 128))))).value args s none s [] = some true) :
    ICache s s.heap wc := by
  obtain ⟨cl, A⟩ := Arr.start ev v2
  have hat : s.arrayAt? wc = some cl := A.fin (State.Warmed39.refl s).alike
  obtain ⟨hlt, h256⟩ := own_len ev hat v4
  have hsz : cl.slots.size = 256 := by
    have := len_toInt hlt
    rw [h256, show (256 : Int32).toInt = 256 from rfl] at this
    omega
  refine ⟨cl, A, hsz, fun i hi => ?_⟩
  obtain ⟨g1, g2⟩ := and_e (Cond.all_elim ev hat v5 i (by omega))
  obtain ⟨b, eb⟩ := exa_v g1
  have evi : (Term.static "java/lang/Integer$IntegerCache" "cache" "[Ljava/lang/Integer;").eval args s none [i] s = some (.ref wc) := ev
  have hj : (Term.index 0).eval args s none [i] s = some (.int i.toInt32) := rfl
  obtain ⟨q1, q2⟩ := elem_in eb evi hj A.1
  have hi2 : i.toInt32.toNatClampNeg = i := by
    have t := len_toInt (n := i) (by omega)
    have u := nat_of (j := i.toInt32) (fun q => q1 (Or.inl q))
    omega
  rw [hi2] at q2
  obtain ⟨x, y, ex, ey, kxy, kyx⟩ := cmp_v (Or.inl g2)
  have hsub : (Term.sub (Term.index 0) (Term.int 128)).eval args s none [i] s = some (.int (i.toInt32 - 128)) := rfl
  obtain rfl : y = .int (i.toInt32 - 128) := (Option.some.inj (hsub.symm.trans ey)).symm
  obtain ⟨z, rfl⟩ := kyx
  obtain rfl : z = i.toInt32 - 128 := gotT (Cond.eq_ints ex ey) g2
  rw [fld_at eb] at ex
  exact ⟨b, q2, own_exai eb g1, Fld.start ex⟩
set_option maxRecDepth 65536 in
set_option maxHeartbeats 40000000 in
theorem comes_1 {Post : Tables → Env → Array Value → State → Outcome → State → Prop} (hpost : ∀ tb e args s v u, (limb_1_1.after args s (.returned v) u = true ∧ limb_1_2.after args s (.returned v) u = true ∧ True) → FrameEnd s (.returned v) u (Jvm.fieldLocs frame_1_writes args s ++ Jvm.arrayLocs frame_1_arrays args s ++ Jvm.staticLocs frame_1_statics s) 32 192 → Post tb e args s (.returned v) u) :
    ArmFor flags0 classFile x code maxLocals ret World_1 tables_1 room_1 Calls_1 rest_1 Pre_1 Post := by
  intro l hfl _ _ p e ha hc hk s m args below hf hA hF happ hP
  obtain ⟨hcalls, hrest, hpre⟩ := hP
  obtain ⟨-, -, -, hnamed, -, -, -, hat⟩ := (Spec.applies_iff hf).mp happ
  obtain ⟨hg, hn⟩ := and_e (Cond.before_iff.mp (show (Jvm.Cond.and given_1 narrow_1).before args s = true from hpre))
  obtain ⟨gc, gr0⟩ := and_e hg
  obtain ⟨ga0, gr1⟩ := and_e gr0
  obtain ⟨ga1, gr2⟩ := and_e gr1
  obtain ⟨ga2, gr3⟩ := and_e gr2
  obtain ⟨ga3, gr4⟩ := and_e gr3
  obtain ⟨w0, w1, w2, w3, w4, rfl⟩ : ∃ w0 w1 w2 w3 w4 : Value, args = #[w0, w1, w2, w3, w4] := by
    have hs : args.size = 5 := by simpa [Cond.value, given_1] using gc
    obtain ⟨L⟩ := args
    match L, hs with
    | [w0, w1, w2, w3, w4], _ => exact ⟨w0, w1, w2, w3, w4, rfl⟩
  have hw := fun d (hd : d ∈ tables_1) => atoms_spec (ws := Jvm.Cond.code x code maxLocals ret :: tables_1) hat d (List.mem_cons_of_mem _ hd)
  have hfit : Fit s := fun {y c} hc i hi => by
    obtain ⟨ha, rfl⟩ := Array.getElem?_eq_some_iff.mp hc
    have q := List.all_eq_true.mp ((Array.all_eq_true_iff_forall_mem.mp hF) _ (Array.getElem_mem ha)) i (List.mem_range.mpr hi)
    simpa [Array.getElem?_eq_getElem hi] using q
  obtain ⟨hsets, hown0⟩ := atoms_of _ (rest_1_c_eq ▸ (show rest_1_c.before _ s = true from hrest))
  have hr0 := Cond.before_iff.mp hown0
  obtain ⟨i0, ei0⟩ := is_v ga0
  obtain rfl : w0 = (.int i0) := Option.some.inj ei0
  obtain ⟨i1, ei1⟩ := isL_v ga1
  obtain rfl : w1 = (.long i1) := Option.some.inj ei1
  obtain ⟨i2, ei2⟩ := isL_v ga2
  obtain rfl : w2 = (.long i2) := Option.some.inj ei2
  obtain ⟨i3, ei3⟩ := isL_v ga3
  obtain rfl : w3 = (.long i3) := Option.some.inj ei3
  obtain ⟨i4, ei4⟩ := isL_v gr4
  obtain rfl : w4 = (.long i4) := Option.some.inj ei4
  have v6 := Cond.before_iff.mp (hsets _ (List.mem_of_getElem? (i := 6) rfl))
  obtain ⟨wd, evd⟩ := arr_v v6
  have Sd := Sta.start evd (Or.inr ⟨(hw _ (List.mem_of_getElem? (i := 97) rfl)), (hsets _ (List.mem_of_getElem? (i := 2) rfl))⟩)
  have Ed := Exa.start evd (Cond.before_iff.mp (hsets _ (List.mem_of_getElem? (i := 7) rfl)))
  obtain ⟨kd, Vd⟩ := own_empty hfit v6 evd (Cond.before_iff.mp (hsets _ (List.mem_of_getElem? (i := 8) rfl)))
  have Sh := Sta.start (own_stac (Cond.before_iff.mp (hsets _ (List.mem_of_getElem? (i := 12) rfl)))) (Or.inl (hsets _ (List.mem_of_getElem? (i := 10) rfl)))
  have v13 := Cond.before_iff.mp (hsets _ (List.mem_of_getElem? (i := 13) rfl))
  obtain ⟨wc, evc⟩ := arr_v v13
  have Sc := Sta.start evc (Or.inr ⟨(hw _ (List.mem_of_getElem? (i := 146) rfl)), (hsets _ (List.mem_of_getElem? (i := 11) rfl))⟩)
  have Xc := own_icache evc v13 (Cond.before_iff.mp (hsets _ (List.mem_of_getElem? (i := 15) rfl))) (Cond.before_iff.mp (hsets _ (List.mem_of_getElem? (i := 16) rfl)))
  obtain ⟨n, o, h1, h2, h3, _, L, rfl, ⟨rfl, N⟩, hq⟩ := rm0 l s _ hw tables_1 i0 i1 i2 i3 i4 wd kd wc s.heap s.heap.size (Nat.le_refl _) Sd Vd Ed Sh Sc Xc p e ha hc hk s m _ below hf ((Spec.applies_iff_loose hf).mp happ).1 ⟨rfl, State.Warmed39.refl s, rfl⟩ trivial
  refine ⟨n, _, h1, h2, h3, hpost _ _ _ _ _ _ ⟨Cond.after_iff.mpr rfl, Cond.after_iff.mpr (eq_i res_at (Term.int_eval (1)) (congrArg Value.int (own_law i0 i1 i2 i3 i4))), trivial⟩ ⟨hq.1, hq.2.1, (hq.2.2.sift fun y hy => Or.inr (N y hy)).mono (by decide) (by decide)⟩⟩
theorem main_1_1 : Claimed_1_1 := comes_1 fun _ _ _ _ _ _ h hF => ⟨h.1, hF⟩
theorem main_1_2 : Claimed_1_2 := comes_1 fun _ _ _ _ _ _ h hF => ⟨h.2.1, hF⟩
end Jvm.Pilot.@@N@@
namespace Jvm.Pilot.@@N@@
open Jvm Jvm.ClassFile Sem Op Lib Jvm.Free Jvm.Stand Jvm.Pilot.@@N@@.Jvm.D
/-! MADE BY PROGRAM (witnessworld.py) out of the Statement's table words and the real class files: 36 classes; the members and pool entries that the words name. The judged class is class 1, her method 1. -/
namespace start1
open Jvm.ClassFile
def u (s : String) : CpInfo := .utf8 (stringToUtf16 s)
/-- a pool by its gaps: so many unusable entries, then the entry; so many at the end -/
def gap : Nat → List CpInfo → List CpInfo
  | 0, r => r
  | n + 1, r => .unusable :: gap n r
def poolList (es : List (Nat × CpInfo)) (last : Nat) : List CpInfo := es.foldr (fun e r => gap e.1 (e.2 :: r)) (gap last [])
def pool (es : List (Nat × CpInfo)) (last : Nat) : Array CpInfo := ⟨poolList es last⟩
def fileOf (pool : Array CpInfo) (this : Nat) (attrs : Array Attribute := #[]) (ms : Array MethodInfo := #[]) (fl : Nat := 33) (sup : Nat := 0) (ifs : Array Nat := #[]) (fds : Array FieldInfo := #[]) : ClassFile where
  minorVersion := 0
  majorVersion := 65
  constantPool := pool
  accessFlags := fl
  thisClass := this
  superClass := sup
  interfaces := ifs
  fields := fds
  methods := ms
  attributes := attrs
def plain (name : String) (sup : Option ClassId) : Class where
  name := name
  kind := .ordinary
  loader := none
  accessFlags := 33
  super := sup
  interfaces := #[]
  cf := none
  fields := #[]
  methods := #[]
  instanceTypes := #[]
  staticTypes := #[]
  resolved := #[]
  callSites := []
  init := .initialized
  statics := none
  mirror := none

def pool0 : Array CpInfo := pool [(5, u "<init>"), (0, u "()V"), (1, .class_ 10), (1, u "java/lang/Object")] 113

def k0c0 : Code := { maxStack := 0, maxLocals := 1, code := object_method_1_code, exceptionTable := #[], attributes := #[] }
def k0m0 : Method := { name := "<init>", desc := "()V", sig := { parameters := [], returnType := none }, accessFlags := 1, code := some k0c0 }
/-- java/lang/Object -/
def k0 : Class := { plain "java/lang/Object" none with
  accessFlags := 33
  interfaces := #[]
  cf := some (fileOf pool0 8 #[] #[{ accessFlags := 1, nameIndex := 5, descriptorIndex := 6, attributes := #[] }] 33 0 #[] #[])
  fields := #[]
  methods := #[k0m0]
  instanceTypes := #[]
  staticTypes := #[]
  resolved := Array.replicate 124 none
  statics := none }

def pool1 : Array CpInfo := pool [(2, .class_ 4), (0, .nameAndType 5 6), (0, u "java/lang/Object"), (0, u "<init>"), (0, u "()V"), (0, .long 4611686018427387903), (1, .class_ 10), (0, u "com/example/many_to_leader/manytoleader/bully/Timeouts"), (0, .methodref 9 12), (0, .nameAndType 5 13), (0, u "(JJ)V"), (0, .methodref 9 15), (0, .nameAndType 16 17), (0, u "withHeartbeats"), (0, u "(JJ)Lcom/example/many_to_leader/manytoleader/bully/Timeouts;"), (0, .class_ 19), (0, u "com/example/many_to_leader/manytoleader/bully/CandidatePool"), (0, .class_ 21), (0, u "com/example/many_to_leader/manytoleader/bully/PoolSize"), (0, .methodref 20 23), (0, .nameAndType 5 24), (0, u "(II)V"), (0, .methodref 18 26), (0, .nameAndType 5 27), (0, u "(IILcom/example/many_to_leader/manytoleader/bully/PoolSize;Lcom/example/many_to_leader/manytoleader/bully/Timeouts;)V"), (0, .class_ 29), (0, u "java/util/ArrayList"), (0, .methodref 28 3), (0, .methodref 32 33), (0, .class_ 34), (0, .nameAndType 35 36), (0, u "java/lang/Integer"), (0, u "valueOf"), (0, u "(I)Ljava/lang/Integer;"), (0, .methodref 28 38), (0, .nameAndType 39 40), (0, u "add"), (0, u "(Ljava/lang/Object;)Z"), (0, .methodref 18 42), (0, .nameAndType 43 44), (0, u "assume"), (0, u "(JLjava/util/Collection;)V"), (2, .long 9223372036854775807), (1, .methodref 18 50), (0, .nameAndType 51 52), (0, u "heartbeatDue"), (0, u "(J)Z"), (0, .methodref 18 54), (0, .nameAndType 55 56), (0, u "deadline"), (0, u "()J"), (0, .methodref 18 58), (0, .nameAndType 59 60), (0, u "isCandidate"), (0, u "()Z"), (0, .class_ 62), (0, u "com/example/many_to_leader/manytoleader/bully/CandidatePoolHeartbeatDuePinLaw"), (2, u "law"), (0, u "(IJJJJ)Z")] 3

def k1m0 : Method := { name := "<init>", desc := "()V", sig := { parameters := [], returnType := none }, accessFlags := 1, code := none }
def k1c1 : Code := { maxStack := 8, maxLocals := 28, code := code, exceptionTable := #[], attributes := #[] }
def k1m1 : Method := { name := "law", desc := "(IJJJJ)Z", sig := { parameters := [.int, .long, .long, .long, .long], returnType := some .boolean }, accessFlags := 9, code := some k1c1 }
/-- com/example/many_to_leader/manytoleader/bully/CandidatePoolHeartbeatDuePinLaw -/
def k1 : Class := { plain "com/example/many_to_leader/manytoleader/bully/CandidatePoolHeartbeatDuePinLaw" (some 0) with
  accessFlags := 49
  interfaces := #[]
  cf := some (fileOf pool1 61 #[] #[{ accessFlags := 1, nameIndex := 5, descriptorIndex := 6, attributes := #[] }, { accessFlags := 9, nameIndex := 65, descriptorIndex := 66, attributes := #[] }] 49 2 #[] #[])
  fields := #[]
  methods := #[k1m0, k1m1]
  instanceTypes := #[]
  staticTypes := #[]
  resolved := Array.replicate 70 none
  statics := none }

def pool2 : Array CpInfo := pool [(1, .methodref 2 3), (0, .class_ 4), (0, .nameAndType 5 6), (0, u "com/example/many_to_leader/manytoleader/bully/Timeouts"), (0, u "<init>"), (0, u "(JJJJJ)V"), (9, .methodref 17 18), (0, .class_ 19), (0, .nameAndType 5 20), (0, u "java/lang/Object"), (0, u "()V"), (0, .fieldref 2 22), (0, .nameAndType 23 24), (0, u "answerMillis"), (0, u "J"), (0, .fieldref 2 26), (0, .nameAndType 27 24), (0, u "coordinatorMillis"), (0, .fieldref 2 29), (0, .nameAndType 30 24), (0, u "heartbeatIntervalMillis"), (0, .fieldref 2 32), (0, .nameAndType 33 24), (0, u "heartbeatTimeoutMillis"), (0, .fieldref 2 35), (0, .nameAndType 36 24), (0, u "invitationPeriodMillis"), (20, u "(JJ)V"), (3, u "withHeartbeats"), (0, u "(JJ)Lcom/example/many_to_leader/manytoleader/bully/Timeouts;"), (2, u "()J")] 31

def k2c0 : Code := { maxStack := 11, maxLocals := 5, code := prog_19_method_1_code, exceptionTable := #[], attributes := #[] }
def k2m0 : Method := { name := "<init>", desc := "(JJ)V", sig := { parameters := [.long, .long], returnType := none }, accessFlags := 1, code := some k2c0 }
def k2c1 : Code := { maxStack := 3, maxLocals := 11, code := prog_19_method_2_code, exceptionTable := #[], attributes := #[] }
def k2m1 : Method := { name := "<init>", desc := "(JJJJJ)V", sig := { parameters := [.long, .long, .long, .long, .long], returnType := none }, accessFlags := 2, code := some k2c1 }
def k2c2 : Code := { maxStack := 12, maxLocals := 5, code := prog_19_method_3_code, exceptionTable := #[], attributes := #[] }
def k2m2 : Method := { name := "withHeartbeats", desc := "(JJ)Lcom/example/many_to_leader/manytoleader/bully/Timeouts;", sig := { parameters := [.long, .long], returnType := some (.object "com/example/many_to_leader/manytoleader/bully/Timeouts") }, accessFlags := 1, code := some k2c2 }
def k2c3 : Code := { maxStack := 2, maxLocals := 1, code := prog_19_method_8_code, exceptionTable := #[], attributes := #[] }
def k2m3 : Method := { name := "heartbeatIntervalMillis", desc := "()J", sig := { parameters := [], returnType := some .long }, accessFlags := 1, code := some k2c3 }
def k2c4 : Code := { maxStack := 2, maxLocals := 1, code := prog_19_method_9_code, exceptionTable := #[], attributes := #[] }
def k2m4 : Method := { name := "heartbeatTimeoutMillis", desc := "()J", sig := { parameters := [], returnType := some .long }, accessFlags := 1, code := some k2c4 }
/-- com/example/many_to_leader/manytoleader/bully/Timeouts -/
def k2 : Class := { plain "com/example/many_to_leader/manytoleader/bully/Timeouts" (some 0) with
  accessFlags := 33
  interfaces := #[]
  cf := some (fileOf pool2 2 #[] #[{ accessFlags := 1, nameIndex := 5, descriptorIndex := 57, attributes := #[] }, { accessFlags := 2, nameIndex := 5, descriptorIndex := 6, attributes := #[] }, { accessFlags := 1, nameIndex := 61, descriptorIndex := 62, attributes := #[] }, { accessFlags := 1, nameIndex := 30, descriptorIndex := 65, attributes := #[] }, { accessFlags := 1, nameIndex := 33, descriptorIndex := 65, attributes := #[] }] 33 17 #[] #[{ accessFlags := 18, nameIndex := 23, descriptorIndex := 24, attributes := #[] }, { accessFlags := 18, nameIndex := 27, descriptorIndex := 24, attributes := #[] }, { accessFlags := 18, nameIndex := 30, descriptorIndex := 24, attributes := #[] }, { accessFlags := 18, nameIndex := 33, descriptorIndex := 24, attributes := #[] }, { accessFlags := 18, nameIndex := 36, descriptorIndex := 24, attributes := #[] }])
  fields := #[{ name := "answerMillis", type := .long, accessFlags := 18, slot := 0, constantValue := 0 }, { name := "coordinatorMillis", type := .long, accessFlags := 18, slot := 1, constantValue := 0 }, { name := "heartbeatIntervalMillis", type := .long, accessFlags := 18, slot := 2, constantValue := 0 }, { name := "heartbeatTimeoutMillis", type := .long, accessFlags := 18, slot := 3, constantValue := 0 }, { name := "invitationPeriodMillis", type := .long, accessFlags := 18, slot := 4, constantValue := 0 }]
  methods := #[k2m0, k2m1, k2m2, k2m3, k2m4]
  instanceTypes := #[.long, .long, .long, .long, .long]
  staticTypes := #[]
  resolved := Array.replicate 97 none
  statics := none }

def pool3 : Array CpInfo := pool [(3, .methodref 4 5), (0, .class_ 6), (0, .nameAndType 7 8), (0, u "java/lang/Object"), (0, u "<init>"), (0, u "()V"), (0, .class_ 10), (0, u "java/util/TreeMap"), (0, .methodref 9 5), (0, .fieldref 13 14), (0, .class_ 15), (0, .nameAndType 16 17), (0, u "com/example/many_to_leader/manytoleader/bully/CandidatePool"), (0, u "known"), (0, u "Ljava/util/TreeMap;"), (0, .long 9223372036854775807), (1, .fieldref 13 21), (0, .nameAndType 22 23), (0, u "heartbeatDeadline"), (0, u "J"), (0, .fieldref 13 25), (0, .nameAndType 26 23), (0, u "outOfBoundsSince"), (0, .fieldref 13 28), (0, .nameAndType 29 23), (0, u "checkDeadline"), (0, .fieldref 13 31), (0, .nameAndType 32 33), (0, u "id"), (0, u "I"), (0, .fieldref 13 35), (0, .nameAndType 36 33), (0, u "membersAbove"), (0, .fieldref 13 38), (0, .nameAndType 39 40), (0, u "size"), (0, u "Lcom/example/many_to_leader/manytoleader/bully/PoolSize;"), (0, .methodref 42 43), (0, .class_ 44), (0, .nameAndType 45 46), (0, u "com/example/many_to_leader/manytoleader/bully/Timeouts"), (0, u "heartbeatIntervalMillis"), (0, u "()J"), (0, .fieldref 13 48), (0, .nameAndType 49 23), (0, u "intervalMillis"), (0, .methodref 42 51), (0, .nameAndType 52 46), (0, u "heartbeatTimeoutMillis"), (0, .fieldref 13 54), (0, .nameAndType 55 23), (0, u "timeoutMillis"), (0, .interfaceMethodref 57 58), (0, .class_ 59), (0, .nameAndType 60 61), (0, u "java/util/Collection"), (0, u "iterator"), (0, u "()Ljava/util/Iterator;"), (0, .interfaceMethodref 63 64), (0, .class_ 65), (0, .nameAndType 66 67), (0, u "java/util/Iterator"), (0, u "hasNext"), (0, u "()Z"), (0, .interfaceMethodref 63 69), (0, .nameAndType 70 71), (0, u "next"), (0, u "()Ljava/lang/Object;"), (0, .class_ 73), (0, u "java/lang/Integer"), (0, .methodref 72 75), (0, .nameAndType 76 77), (0, u "intValue"), (0, u "()I"), (0, .fieldref 13 79), (0, .nameAndType 80 81), (0, u "candidate"), (0, u "Z"), (0, .methodref 72 83), (0, .nameAndType 84 85), (0, u "valueOf"), (0, u "(I)Ljava/lang/Integer;"), (9, .methodref 96 97), (0, .class_ 98), (0, .nameAndType 99 100), (0, u "java/lang/Math"), (0, u "min"), (0, u "(JJ)J"), (28, u "leading"), (35, u "NEVER"), (3, u "(IILcom/example/many_to_leader/manytoleader/bully/PoolSize;Lcom/example/many_to_leader/manytoleader/bully/Timeouts;)V"), (2, u "assume"), (0, u "(JLjava/util/Collection;)V"), (2, u "isCandidate"), (0, u "deadline"), (8, u "heartbeatDue"), (0, u "(J)Z")] 26

def k3c0 : Code := { maxStack := 3, maxLocals := 5, code := prog_12_method_1_code, exceptionTable := #[], attributes := #[] }
def k3m0 : Method := { name := "<init>", desc := "(IILcom/example/many_to_leader/manytoleader/bully/PoolSize;Lcom/example/many_to_leader/manytoleader/bully/Timeouts;)V", sig := { parameters := [.int, .int, (.object "com/example/many_to_leader/manytoleader/bully/PoolSize"), (.object "com/example/many_to_leader/manytoleader/bully/Timeouts")], returnType := none }, accessFlags := 0, code := some k3c0 }
def k3c1 : Code := { maxStack := 5, maxLocals := 6, code := prog_12_method_2_code, exceptionTable := #[], attributes := #[] }
def k3m1 : Method := { name := "assume", desc := "(JLjava/util/Collection;)V", sig := { parameters := [.long, (.object "java/util/Collection")], returnType := none }, accessFlags := 0, code := some k3c1 }
def k3c2 : Code := { maxStack := 1, maxLocals := 1, code := prog_12_method_3_code, exceptionTable := #[], attributes := #[] }
def k3m2 : Method := { name := "isCandidate", desc := "()Z", sig := { parameters := [], returnType := some .boolean }, accessFlags := 0, code := some k3c2 }
def k3c3 : Code := { maxStack := 4, maxLocals := 1, code := prog_12_method_4_code, exceptionTable := #[], attributes := #[] }
def k3m3 : Method := { name := "deadline", desc := "()J", sig := { parameters := [], returnType := some .long }, accessFlags := 0, code := some k3c3 }
def k3c4 : Code := { maxStack := 5, maxLocals := 4, code := prog_12_method_9_code, exceptionTable := #[], attributes := #[] }
def k3m4 : Method := { name := "heartbeatDue", desc := "(J)Z", sig := { parameters := [.long], returnType := some .boolean }, accessFlags := 0, code := some k3c4 }
/-- com/example/many_to_leader/manytoleader/bully/CandidatePool -/
def k3 : Class := { plain "com/example/many_to_leader/manytoleader/bully/CandidatePool" (some 0) with
  accessFlags := 32
  interfaces := #[]
  cf := some (fileOf pool3 13 #[] #[{ accessFlags := 0, nameIndex := 7, descriptorIndex := 169, attributes := #[] }, { accessFlags := 0, nameIndex := 172, descriptorIndex := 173, attributes := #[] }, { accessFlags := 0, nameIndex := 176, descriptorIndex := 67, attributes := #[] }, { accessFlags := 0, nameIndex := 177, descriptorIndex := 46, attributes := #[] }, { accessFlags := 0, nameIndex := 186, descriptorIndex := 187, attributes := #[] }] 32 4 #[] #[{ accessFlags := 26, nameIndex := 165, descriptorIndex := 23, attributes := #[] }, { accessFlags := 18, nameIndex := 32, descriptorIndex := 33, attributes := #[] }, { accessFlags := 18, nameIndex := 36, descriptorIndex := 33, attributes := #[] }, { accessFlags := 18, nameIndex := 39, descriptorIndex := 40, attributes := #[] }, { accessFlags := 18, nameIndex := 49, descriptorIndex := 23, attributes := #[] }, { accessFlags := 18, nameIndex := 55, descriptorIndex := 23, attributes := #[] }, { accessFlags := 18, nameIndex := 16, descriptorIndex := 17, attributes := #[] }, { accessFlags := 2, nameIndex := 80, descriptorIndex := 81, attributes := #[] }, { accessFlags := 2, nameIndex := 129, descriptorIndex := 81, attributes := #[] }, { accessFlags := 2, nameIndex := 22, descriptorIndex := 23, attributes := #[] }, { accessFlags := 2, nameIndex := 26, descriptorIndex := 23, attributes := #[] }, { accessFlags := 2, nameIndex := 29, descriptorIndex := 23, attributes := #[] }])
  fields := #[{ name := "NEVER", type := .long, accessFlags := 26, slot := 0, constantValue := 0 }, { name := "id", type := .int, accessFlags := 18, slot := 0, constantValue := 0 }, { name := "membersAbove", type := .int, accessFlags := 18, slot := 1, constantValue := 0 }, { name := "size", type := (.object "com/example/many_to_leader/manytoleader/bully/PoolSize"), accessFlags := 18, slot := 2, constantValue := 0 }, { name := "intervalMillis", type := .long, accessFlags := 18, slot := 3, constantValue := 0 }, { name := "timeoutMillis", type := .long, accessFlags := 18, slot := 4, constantValue := 0 }, { name := "known", type := (.object "java/util/TreeMap"), accessFlags := 18, slot := 5, constantValue := 0 }, { name := "candidate", type := .boolean, accessFlags := 2, slot := 6, constantValue := 0 }, { name := "leading", type := .boolean, accessFlags := 2, slot := 7, constantValue := 0 }, { name := "heartbeatDeadline", type := .long, accessFlags := 2, slot := 8, constantValue := 0 }, { name := "outOfBoundsSince", type := .long, accessFlags := 2, slot := 9, constantValue := 0 }, { name := "checkDeadline", type := .long, accessFlags := 2, slot := 10, constantValue := 0 }]
  methods := #[k3m0, k3m1, k3m2, k3m3, k3m4]
  instanceTypes := #[.int, .int, (.object "com/example/many_to_leader/manytoleader/bully/PoolSize"), .long, .long, (.object "java/util/TreeMap"), .boolean, .boolean, .long, .long, .long]
  staticTypes := #[.long]
  resolved := Array.replicate 214 none
  statics := none }

def pool4 : Array CpInfo := pool [(1, .methodref 2 3), (0, .class_ 4), (0, .nameAndType 5 6), (0, u "java/lang/Object"), (0, u "<init>"), (0, u "()V"), (9, .fieldref 17 18), (0, .class_ 19), (0, .nameAndType 20 21), (0, u "com/example/many_to_leader/manytoleader/bully/PoolSize"), (0, u "min"), (0, u "I"), (0, .fieldref 17 23), (0, .nameAndType 24 21), (0, u "max"), (1, u "(II)V")] 25

def k4c0 : Code := { maxStack := 4, maxLocals := 3, code := prog_18_method_1_code, exceptionTable := #[], attributes := #[] }
def k4m0 : Method := { name := "<init>", desc := "(II)V", sig := { parameters := [.int, .int], returnType := none }, accessFlags := 1, code := some k4c0 }
/-- com/example/many_to_leader/manytoleader/bully/PoolSize -/
def k4 : Class := { plain "com/example/many_to_leader/manytoleader/bully/PoolSize" (some 0) with
  accessFlags := 33
  interfaces := #[]
  cf := some (fileOf pool4 17 #[] #[{ accessFlags := 1, nameIndex := 5, descriptorIndex := 26, attributes := #[] }] 33 2 #[] #[{ accessFlags := 18, nameIndex := 20, descriptorIndex := 21, attributes := #[] }, { accessFlags := 18, nameIndex := 24, descriptorIndex := 21, attributes := #[] }])
  fields := #[{ name := "min", type := .int, accessFlags := 18, slot := 0, constantValue := 0 }, { name := "max", type := .int, accessFlags := 18, slot := 1, constantValue := 0 }]
  methods := #[k4m0]
  instanceTypes := #[.int, .int]
  staticTypes := #[]
  resolved := Array.replicate 52 none
  statics := none }

def pool5 : Array CpInfo := pool [(2, .class_ 4), (1, u "java/util/Map"), (31, .class_ 37), (0, u "java/util/Map$Entry"), (55, .class_ 94), (0, u "java/lang/Object")] 168

/-- java/util/Map -/
def k5 : Class := { plain "java/util/Map" (some 0) with
  accessFlags := 1537
  interfaces := #[]
  cf := some (fileOf pool5 2 #[.nestMembers #[36]] #[] 1537 93 #[] #[])
  fields := #[]
  methods := #[]
  instanceTypes := #[]
  staticTypes := #[]
  resolved := Array.replicate 263 none
  statics := none }

def pool6 : Array CpInfo := pool [(1, .methodref 2 3), (0, .class_ 4), (0, .nameAndType 5 6), (0, u "java/lang/Object"), (0, u "<init>"), (0, u "()V"), (1, .class_ 10), (1, u "java/util/AbstractMap"), (42, .class_ 54), (0, u "java/util/Map"), (9, u "keySet"), (0, u "Ljava/util/Set;"), (0, .class_ 67), (0, u "java/util/AbstractMap$1"), (5, u "values"), (0, u "Ljava/util/Collection;"), (0, .class_ 76), (0, u "java/util/AbstractMap$2"), (104, .class_ 182), (0, u "java/util/AbstractMap$ViewCollection"), (0, .class_ 184), (0, u "java/util/AbstractMap$SimpleImmutableEntry"), (0, .class_ 186), (0, u "java/util/AbstractMap$SimpleEntry"), (0, .class_ 188), (0, u "java/util/AbstractMap$2$1"), (0, .class_ 190), (0, u "java/util/AbstractMap$1$1")] 5

def k6c0 : Code := { maxStack := 1, maxLocals := 1, code := jdk_71_method_1_code, exceptionTable := #[], attributes := #[] }
def k6m0 : Method := { name := "<init>", desc := "()V", sig := { parameters := [], returnType := none }, accessFlags := 4, code := some k6c0 }
/-- java/util/AbstractMap -/
def k6 : Class := { plain "java/util/AbstractMap" (some 0) with
  accessFlags := 1057
  interfaces := #[5]
  cf := some (fileOf pool6 8 #[.nestMembers #[181, 183, 185, 75, 187, 66, 189]] #[{ accessFlags := 4, nameIndex := 5, descriptorIndex := 6, attributes := #[] }] 1057 2 #[53] #[{ accessFlags := 128, nameIndex := 64, descriptorIndex := 65, attributes := #[] }, { accessFlags := 128, nameIndex := 73, descriptorIndex := 74, attributes := #[] }])
  fields := #[{ name := "keySet", type := (.object "java/util/Set"), accessFlags := 128, slot := 0, constantValue := 0 }, { name := "values", type := (.object "java/util/Collection"), accessFlags := 128, slot := 1, constantValue := 0 }]
  methods := #[k6m0]
  instanceTypes := #[(.object "java/util/Set"), (.object "java/util/Collection")]
  staticTypes := #[]
  resolved := Array.replicate 196 none
  statics := none }

def pool7 : Array CpInfo := pool [(2, .class_ 4), (1, u "java/util/SequencedMap"), (38, .class_ 44), (0, u "java/util/SequencedMap$1SeqKeySet"), (3, .class_ 49), (0, u "java/util/SequencedMap$1SeqValues"), (1, .class_ 52), (0, u "java/util/SequencedMap$1SeqEntrySet"), (1, .class_ 55), (0, u "java/lang/Object"), (0, .class_ 57), (0, u "java/util/Map")] 48

/-- java/util/SequencedMap -/
def k7 : Class := { plain "java/util/SequencedMap" (some 0) with
  accessFlags := 1537
  interfaces := #[5]
  cf := some (fileOf pool7 2 #[.nestMembers #[51, 48, 43]] #[] 1537 54 #[56] #[])
  fields := #[]
  methods := #[]
  instanceTypes := #[]
  staticTypes := #[]
  resolved := Array.replicate 106 none
  statics := none }

def pool8 : Array CpInfo := pool [(14, .class_ 16), (1, u "java/util/SortedMap"), (2, .class_ 20), (0, u "java/lang/Object"), (0, .class_ 22), (0, u "java/util/SequencedMap")] 50

/-- java/util/SortedMap -/
def k8 : Class := { plain "java/util/SortedMap" (some 0) with
  accessFlags := 1537
  interfaces := #[7]
  cf := some (fileOf pool8 14 #[] #[] 1537 19 #[21] #[])
  fields := #[]
  methods := #[]
  instanceTypes := #[]
  staticTypes := #[]
  resolved := Array.replicate 73 none
  statics := none }

def pool9 : Array CpInfo := pool [(2, .class_ 4), (1, u "java/util/NavigableMap"), (5, .class_ 11), (0, u "java/lang/Object"), (0, .class_ 13), (0, u "java/util/SortedMap")] 53

/-- java/util/NavigableMap -/
def k9 : Class := { plain "java/util/NavigableMap" (some 0) with
  accessFlags := 1537
  interfaces := #[8]
  cf := some (fileOf pool9 2 #[] #[] 1537 10 #[12] #[])
  fields := #[]
  methods := #[]
  instanceTypes := #[]
  staticTypes := #[]
  resolved := Array.replicate 67 none
  statics := none }

def pool10 : Array CpInfo := pool [(1, .class_ 2), (0, u "java/lang/Cloneable"), (0, .class_ 4), (0, u "java/lang/Object")] 2

/-- java/lang/Cloneable -/
def k10 : Class := { plain "java/lang/Cloneable" (some 0) with
  accessFlags := 1537
  interfaces := #[]
  cf := some (fileOf pool10 1 #[] #[] 1537 3 #[] #[])
  fields := #[]
  methods := #[]
  instanceTypes := #[]
  staticTypes := #[]
  resolved := Array.replicate 7 none
  statics := none }

def pool11 : Array CpInfo := pool [(1, .class_ 2), (0, u "java/io/Serializable"), (0, .class_ 4), (0, u "java/lang/Object")] 2

/-- java/io/Serializable -/
def k11 : Class := { plain "java/io/Serializable" (some 0) with
  accessFlags := 1537
  interfaces := #[]
  cf := some (fileOf pool11 1 #[] #[] 1537 3 #[] #[])
  fields := #[]
  methods := #[]
  instanceTypes := #[]
  staticTypes := #[]
  resolved := Array.replicate 7 none
  statics := none }

def pool12 : Array CpInfo := pool [(1, .methodref 2 3), (0, .class_ 4), (0, .nameAndType 5 6), (0, u "java/util/AbstractMap"), (0, u "<init>"), (0, u "()V"), (0, .fieldref 8 9), (0, .class_ 10), (0, .nameAndType 11 12), (0, u "java/util/TreeMap"), (0, u "size"), (0, u "I"), (0, .fieldref 8 14), (0, .nameAndType 15 12), (0, u "modCount"), (0, .fieldref 8 17), (0, .nameAndType 18 19), (0, u "comparator"), (0, u "Ljava/util/Comparator;"), (14, u "entrySet"), (24, .class_ 61), (1, u "java/util/TreeMap$Entry"), (1, u "Ljava/lang/Object;"), (39, u "root"), (0, u "Ljava/util/TreeMap$Entry;"), (85, u "Ljava/util/TreeMap$EntrySet;"), (2, u "navigableKeySet"), (0, u "Ljava/util/TreeMap$KeySet;"), (2, u "descendingMap"), (0, u "Ljava/util/NavigableMap;"), (23, .class_ 223), (0, u "java/util/TreeMap$KeySet"), (7, .class_ 232), (0, u "java/util/NavigableMap"), (4, .class_ 238), (0, u "java/util/TreeMap$Values"), (3, .class_ 243), (0, u "java/util/TreeMap$EntrySet"), (1, .class_ 246), (0, u "java/util/TreeMap$DescendingSubMap"), (3, .class_ 251), (0, u "java/util/TreeMap$AscendingSubMap"), (17, .class_ 270), (0, u "java/util/TreeMap$KeyIterator"), (3, .class_ 275), (0, u "java/util/TreeMap$DescendingKeyIterator"), (17, u "Z"), (94, .class_ 389), (0, u "java/util/TreeMap$NavigableSubMap"), (1, .class_ 392), (0, u "java/util/TreeMap$KeySpliterator"), (3, .class_ 397), (0, u "java/util/TreeMap$DescendingKeySpliterator"), (4, u "UNBOUNDED"), (0, .class_ 404), (0, u "java/lang/Cloneable"), (0, .class_ 406), (0, u "java/io/Serializable"), (6, u "RED"), (2, u "BLACK"), (1, u "serialVersionUID"), (0, u "J"), (214, .class_ 635), (0, u "java/util/TreeMap$EntrySpliterator"), (0, .class_ 637), (0, u "java/util/TreeMap$ValueSpliterator"), (0, .class_ 639), (0, u "java/util/TreeMap$TreeMapSpliterator"), (0, .class_ 641), (0, u "java/util/TreeMap$SubMap"), (0, .class_ 643), (0, u "java/util/TreeMap$DescendingSubMap$DescendingEntrySetView"), (0, .class_ 645), (0, u "java/util/TreeMap$AscendingSubMap$AscendingEntrySetView"), (0, .class_ 647), (0, u "java/util/TreeMap$NavigableSubMap$DescendingSubMapKeyIterator"), (0, .class_ 649), (0, u "java/util/TreeMap$NavigableSubMap$SubMapKeyIterator"), (0, .class_ 651), (0, u "java/util/TreeMap$NavigableSubMap$DescendingSubMapEntryIterator"), (0, .class_ 653), (0, u "java/util/TreeMap$NavigableSubMap$SubMapEntryIterator"), (0, .class_ 655), (0, u "java/util/TreeMap$NavigableSubMap$SubMapIterator"), (0, .class_ 657), (0, u "java/util/TreeMap$NavigableSubMap$EntrySetView"), (0, .class_ 659), (0, u "java/util/TreeMap$ValueIterator"), (0, .class_ 661), (0, u "java/util/TreeMap$EntryIterator"), (0, .class_ 663), (0, u "java/util/TreeMap$PrivateEntryIterator")] 28

def k12c0 : Code := { maxStack := 2, maxLocals := 1, code := jdk_2729_method_1_code, exceptionTable := #[], attributes := #[] }
def k12m0 : Method := { name := "<init>", desc := "()V", sig := { parameters := [], returnType := none }, accessFlags := 1, code := some k12c0 }
/-- java/util/TreeMap -/
def k12 : Class := { plain "java/util/TreeMap" (some 6) with
  accessFlags := 33
  interfaces := #[9, 10, 11]
  cf := some (fileOf pool12 8 #[.nestMembers #[634, 636, 396, 391, 638, 59, 640, 245, 642, 250, 644, 388, 646, 648, 650, 652, 654, 656, 274, 269, 658, 660, 662, 222, 242, 237]] #[{ accessFlags := 1, nameIndex := 5, descriptorIndex := 6, attributes := #[] }] 33 2 #[231, 403, 405] #[{ accessFlags := 18, nameIndex := 18, descriptorIndex := 19, attributes := #[] }, { accessFlags := 130, nameIndex := 103, descriptorIndex := 104, attributes := #[] }, { accessFlags := 130, nameIndex := 11, descriptorIndex := 12, attributes := #[] }, { accessFlags := 130, nameIndex := 15, descriptorIndex := 12, attributes := #[] }, { accessFlags := 130, nameIndex := 34, descriptorIndex := 190, attributes := #[] }, { accessFlags := 130, nameIndex := 193, descriptorIndex := 194, attributes := #[] }, { accessFlags := 130, nameIndex := 197, descriptorIndex := 198, attributes := #[] }, { accessFlags := 26, nameIndex := 402, descriptorIndex := 63, attributes := #[] }, { accessFlags := 26, nameIndex := 413, descriptorIndex := 293, attributes := #[] }, { accessFlags := 26, nameIndex := 416, descriptorIndex := 293, attributes := #[] }, { accessFlags := 26, nameIndex := 418, descriptorIndex := 419, attributes := #[] }])
  fields := #[{ name := "comparator", type := (.object "java/util/Comparator"), accessFlags := 18, slot := 2, constantValue := 0 }, { name := "root", type := (.object "java/util/TreeMap$Entry"), accessFlags := 130, slot := 3, constantValue := 0 }, { name := "size", type := .int, accessFlags := 130, slot := 4, constantValue := 0 }, { name := "modCount", type := .int, accessFlags := 130, slot := 5, constantValue := 0 }, { name := "entrySet", type := (.object "java/util/TreeMap$EntrySet"), accessFlags := 130, slot := 6, constantValue := 0 }, { name := "navigableKeySet", type := (.object "java/util/TreeMap$KeySet"), accessFlags := 130, slot := 7, constantValue := 0 }, { name := "descendingMap", type := (.object "java/util/NavigableMap"), accessFlags := 130, slot := 8, constantValue := 0 }, { name := "UNBOUNDED", type := (.object "java/lang/Object"), accessFlags := 26, slot := 0, constantValue := 0 }, { name := "RED", type := .boolean, accessFlags := 26, slot := 1, constantValue := 0 }, { name := "BLACK", type := .boolean, accessFlags := 26, slot := 2, constantValue := 0 }, { name := "serialVersionUID", type := .long, accessFlags := 26, slot := 3, constantValue := 0 }]
  methods := #[k12m0]
  instanceTypes := #[(.object "java/util/Set"), (.object "java/util/Collection"), (.object "java/util/Comparator"), (.object "java/util/TreeMap$Entry"), .int, .int, (.object "java/util/TreeMap$EntrySet"), (.object "java/util/TreeMap$KeySet"), (.object "java/util/NavigableMap")]
  staticTypes := #[(.object "java/lang/Object"), .boolean, .boolean, .long]
  resolved := Array.replicate 692 none
  statics := none }

def pool13 : Array CpInfo := pool [(8, .class_ 10), (1, u "java/lang/Iterable"), (24, .class_ 36), (0, u "java/lang/Object")] 25

/-- java/lang/Iterable -/
def k13 : Class := { plain "java/lang/Iterable" (some 0) with
  accessFlags := 1537
  interfaces := #[]
  cf := some (fileOf pool13 8 #[] #[] 1537 35 #[] #[])
  fields := #[]
  methods := #[]
  instanceTypes := #[]
  staticTypes := #[]
  resolved := Array.replicate 62 none
  statics := none }

def pool14 : Array CpInfo := pool [(10, .class_ 12), (1, u "java/util/Collection"), (10, u "iterator"), (0, u "()Ljava/util/Iterator;"), (35, .class_ 61), (0, u "java/lang/Object"), (0, .class_ 63), (0, u "java/lang/Iterable")] 51

def k14m0 : Method := { name := "iterator", desc := "()Ljava/util/Iterator;", sig := { parameters := [], returnType := some (.object "java/util/Iterator") }, accessFlags := 1025, code := none }
/-- java/util/Collection -/
def k14 : Class := { plain "java/util/Collection" (some 0) with
  accessFlags := 1537
  interfaces := #[13]
  cf := some (fileOf pool14 10 #[] #[{ accessFlags := 1025, nameIndex := 23, descriptorIndex := 24, attributes := #[] }] 1537 60 #[62] #[])
  fields := #[]
  methods := #[k14m0]
  instanceTypes := #[]
  staticTypes := #[]
  resolved := Array.replicate 115 none
  statics := none }

def pool15 : Array CpInfo := pool [(1, .methodref 2 3), (0, .class_ 4), (0, .nameAndType 5 6), (0, u "java/lang/Object"), (0, u "<init>"), (0, u "()V"), (1, .class_ 10), (1, u "java/util/AbstractCollection"), (66, .class_ 78), (0, u "java/util/Collection")] 81

def k15c0 : Code := { maxStack := 1, maxLocals := 1, code := jdk_22_method_1_code, exceptionTable := #[], attributes := #[] }
def k15m0 : Method := { name := "<init>", desc := "()V", sig := { parameters := [], returnType := none }, accessFlags := 4, code := some k15c0 }
/-- java/util/AbstractCollection -/
def k15 : Class := { plain "java/util/AbstractCollection" (some 0) with
  accessFlags := 1057
  interfaces := #[14]
  cf := some (fileOf pool15 8 #[] #[{ accessFlags := 4, nameIndex := 5, descriptorIndex := 6, attributes := #[] }] 1057 2 #[77] #[])
  fields := #[]
  methods := #[k15m0]
  instanceTypes := #[]
  staticTypes := #[]
  resolved := Array.replicate 160 none
  statics := none }

def pool16 : Array CpInfo := pool [(8, .class_ 10), (1, u "java/util/SequencedCollection"), (15, .class_ 27), (0, u "java/lang/Object"), (0, .class_ 29), (0, u "java/util/Collection")] 27

/-- java/util/SequencedCollection -/
def k16 : Class := { plain "java/util/SequencedCollection" (some 0) with
  accessFlags := 1537
  interfaces := #[14]
  cf := some (fileOf pool16 8 #[] #[] 1537 26 #[28] #[])
  fields := #[]
  methods := #[]
  instanceTypes := #[]
  staticTypes := #[]
  resolved := Array.replicate 57 none
  statics := none }

def pool17 : Array CpInfo := pool [(8, .class_ 10), (1, u "java/util/List"), (92, .class_ 104), (0, u "java/lang/Object"), (15, .class_ 121), (0, u "java/util/SequencedCollection")] 129

/-- java/util/List -/
def k17 : Class := { plain "java/util/List" (some 0) with
  accessFlags := 1537
  interfaces := #[16]
  cf := some (fileOf pool17 8 #[] #[] 1537 103 #[120] #[])
  fields := #[]
  methods := #[]
  instanceTypes := #[]
  staticTypes := #[]
  resolved := Array.replicate 251 none
  statics := none }

def pool18 : Array CpInfo := pool [(1, .methodref 2 3), (0, .class_ 4), (0, .nameAndType 5 6), (0, u "java/util/AbstractCollection"), (0, u "<init>"), (0, u "()V"), (0, .fieldref 8 9), (0, .class_ 10), (0, .nameAndType 11 12), (0, u "java/util/AbstractList"), (0, u "modCount"), (0, u "I"), (64, .class_ 78), (0, u "java/util/AbstractList$Itr"), (3, .class_ 83), (0, u "java/util/AbstractList$ListItr"), (9, .class_ 94), (0, u "java/util/AbstractList$RandomAccessSubList"), (3, .class_ 99), (0, u "java/util/AbstractList$SubList"), (33, .class_ 134), (0, u "java/util/List"), (73, .class_ 209), (0, u "java/util/AbstractList$SubList$1"), (0, .class_ 211), (0, u "java/util/AbstractList$RandomAccessSpliterator")] 6

def k18c0 : Code := { maxStack := 2, maxLocals := 1, code := jdk_39_method_1_code, exceptionTable := #[], attributes := #[] }
def k18m0 : Method := { name := "<init>", desc := "()V", sig := { parameters := [], returnType := none }, accessFlags := 4, code := some k18c0 }
/-- java/util/AbstractList -/
def k18 : Class := { plain "java/util/AbstractList" (some 15) with
  accessFlags := 1057
  interfaces := #[17]
  cf := some (fileOf pool18 8 #[.nestMembers #[93, 98, 208, 210, 82, 77]] #[{ accessFlags := 4, nameIndex := 5, descriptorIndex := 6, attributes := #[] }] 1057 2 #[133] #[{ accessFlags := 132, nameIndex := 11, descriptorIndex := 12, attributes := #[] }])
  fields := #[{ name := "modCount", type := .int, accessFlags := 132, slot := 0, constantValue := 0 }]
  methods := #[k18m0]
  instanceTypes := #[.int]
  staticTypes := #[]
  resolved := Array.replicate 218 none
  statics := none }

def pool19 : Array CpInfo := pool [(1, .class_ 2), (0, u "java/util/RandomAccess"), (0, .class_ 4), (0, u "java/lang/Object")] 2

/-- java/util/RandomAccess -/
def k19 : Class := { plain "java/util/RandomAccess" (some 0) with
  accessFlags := 1537
  interfaces := #[]
  cf := some (fileOf pool19 1 #[] #[] 1537 3 #[] #[])
  fields := #[]
  methods := #[]
  instanceTypes := #[]
  staticTypes := #[]
  resolved := Array.replicate 7 none
  statics := none }

def pool20 : Array CpInfo := pool [(1, .methodref 2 3), (0, .class_ 4), (0, .nameAndType 5 6), (0, u "java/util/AbstractList"), (0, u "<init>"), (0, u "()V"), (0, .class_ 8), (0, u "java/lang/Object"), (0, .fieldref 10 11), (0, .class_ 12), (0, .nameAndType 13 14), (0, u "java/util/ArrayList"), (0, u "elementData"), (0, u "[Ljava/lang/Object;"), (2, u "EMPTY_ELEMENTDATA"), (21, .fieldref 10 40), (0, .nameAndType 41 14), (0, u "DEFAULTCAPACITY_EMPTY_ELEMENTDATA"), (5, u "()[Ljava/lang/Object;"), (0, .fieldref 10 49), (0, .nameAndType 50 51), (0, u "size"), (0, u "I"), (11, .fieldref 10 64), (0, .nameAndType 65 51), (0, u "modCount"), (3, .methodref 10 70), (0, .nameAndType 71 72), (0, u "grow"), (0, u "(I)[Ljava/lang/Object;"), (6, .methodref 80 81), (0, .class_ 82), (0, .nameAndType 83 84), (0, u "java/lang/Math"), (0, u "max"), (0, u "(II)I"), (11, u "(Ljava/lang/Object;)Z"), (32, .methodref 10 130), (0, .nameAndType 71 47), (0, .methodref 10 132), (0, .nameAndType 133 134), (0, u "add"), (0, u "(Ljava/lang/Object;[Ljava/lang/Object;I)V"), (13, .class_ 149), (0, u "java/util/List"), (16, u "iterator"), (0, u "()Ljava/util/Iterator;"), (94, .class_ 263), (0, u "java/util/ArrayList$ListItr"), (3, .class_ 268), (0, u "java/util/ArrayList$Itr"), (0, .methodref 267 270), (0, .nameAndType 5 271), (0, u "(Ljava/util/ArrayList;)V"), (4, .class_ 277), (0, u "java/util/ArrayList$SubList"), (12, .class_ 291), (0, u "java/util/ArrayList$ArrayListSpliterator"), (37, .class_ 330), (0, u "java/util/RandomAccess"), (0, .class_ 332), (0, u "java/lang/Cloneable"), (0, .class_ 334), (0, u "java/io/Serializable"), (0, u "serialVersionUID"), (0, u "J"), (3, u "DEFAULT_CAPACITY"), (159, .class_ 501), (0, u "java/util/ArrayList$SubList$2"), (0, .class_ 503), (0, u "java/util/ArrayList$SubList$1")] 5

def k20c0 : Code := { maxStack := 2, maxLocals := 1, code := jdk_38_method_2_code, exceptionTable := #[], attributes := #[] }
def k20m0 : Method := { name := "<init>", desc := "()V", sig := { parameters := [], returnType := none }, accessFlags := 1, code := some k20c0 }
def k20c1 : Code := { maxStack := 4, maxLocals := 4, code := jdk_38_method_6_code, exceptionTable := #[], attributes := #[] }
def k20m1 : Method := { name := "grow", desc := "(I)[Ljava/lang/Object;", sig := { parameters := [.int], returnType := some (.array (.object "java/lang/Object")) }, accessFlags := 2, code := some k20c1 }
def k20c2 : Code := { maxStack := 3, maxLocals := 1, code := jdk_38_method_7_code, exceptionTable := #[], attributes := #[] }
def k20m2 : Method := { name := "grow", desc := "()[Ljava/lang/Object;", sig := { parameters := [], returnType := some (.array (.object "java/lang/Object")) }, accessFlags := 2, code := some k20c2 }
def k20c3 : Code := { maxStack := 3, maxLocals := 4, code := jdk_38_method_24_code, exceptionTable := #[], attributes := #[] }
def k20m3 : Method := { name := "add", desc := "(Ljava/lang/Object;[Ljava/lang/Object;I)V", sig := { parameters := [(.object "java/lang/Object"), (.array (.object "java/lang/Object")), .int], returnType := none }, accessFlags := 2, code := some k20c3 }
def k20c4 : Code := { maxStack := 4, maxLocals := 2, code := jdk_38_method_25_code, exceptionTable := #[], attributes := #[] }
def k20m4 : Method := { name := "add", desc := "(Ljava/lang/Object;)Z", sig := { parameters := [(.object "java/lang/Object")], returnType := some .boolean }, accessFlags := 1, code := some k20c4 }
def k20c5 : Code := { maxStack := 3, maxLocals := 1, code := jdk_38_method_55_code, exceptionTable := #[], attributes := #[] }
def k20m5 : Method := { name := "iterator", desc := "()Ljava/util/Iterator;", sig := { parameters := [], returnType := some (.object "java/util/Iterator") }, accessFlags := 1, code := some k20c5 }
/-- java/util/ArrayList -/
def k20 : Class := { plain "java/util/ArrayList" (some 18) with
  accessFlags := 33
  interfaces := #[17, 19, 10, 11]
  cf := some (fileOf pool20 10 #[.nestMembers #[290, 276, 500, 502, 262, 267]] #[{ accessFlags := 1, nameIndex := 5, descriptorIndex := 6, attributes := #[] }, { accessFlags := 2, nameIndex := 71, descriptorIndex := 72, attributes := #[] }, { accessFlags := 2, nameIndex := 71, descriptorIndex := 47, attributes := #[] }, { accessFlags := 2, nameIndex := 133, descriptorIndex := 134, attributes := #[] }, { accessFlags := 1, nameIndex := 133, descriptorIndex := 96, attributes := #[] }, { accessFlags := 1, nameIndex := 166, descriptorIndex := 167, attributes := #[] }] 33 2 #[148, 329, 331, 333] #[{ accessFlags := 26, nameIndex := 335, descriptorIndex := 336, attributes := #[] }, { accessFlags := 26, nameIndex := 340, descriptorIndex := 51, attributes := #[] }, { accessFlags := 26, nameIndex := 17, descriptorIndex := 14, attributes := #[] }, { accessFlags := 26, nameIndex := 41, descriptorIndex := 14, attributes := #[] }, { accessFlags := 128, nameIndex := 13, descriptorIndex := 14, attributes := #[] }, { accessFlags := 2, nameIndex := 50, descriptorIndex := 51, attributes := #[] }])
  fields := #[{ name := "serialVersionUID", type := .long, accessFlags := 26, slot := 0, constantValue := 0 }, { name := "DEFAULT_CAPACITY", type := .int, accessFlags := 26, slot := 1, constantValue := 0 }, { name := "EMPTY_ELEMENTDATA", type := (.array (.object "java/lang/Object")), accessFlags := 26, slot := 2, constantValue := 0 }, { name := "DEFAULTCAPACITY_EMPTY_ELEMENTDATA", type := (.array (.object "java/lang/Object")), accessFlags := 26, slot := 3, constantValue := 0 }, { name := "elementData", type := (.array (.object "java/lang/Object")), accessFlags := 128, slot := 1, constantValue := 0 }, { name := "size", type := .int, accessFlags := 2, slot := 2, constantValue := 0 }]
  methods := #[k20m0, k20m1, k20m2, k20m3, k20m4, k20m5]
  instanceTypes := #[.int, (.array (.object "java/lang/Object")), .int]
  staticTypes := #[.long, .int, (.array (.object "java/lang/Object")), (.array (.object "java/lang/Object"))]
  resolved := Array.replicate 509 none
  statics := some 0 }

def pool21 : Array CpInfo := pool [(1, .class_ 2), (0, u "java/lang/Math"), (1, .class_ 6), (1, u "java/lang/Object"), (0, u "<init>"), (0, u "()V"), (89, .class_ 100), (1, u "java/lang/Math$RandomNumberGeneratorHolder"), (20, u "(JJ)J"), (50, u "negativeZeroFloatBits"), (0, u "J"), (2, u "negativeZeroDoubleBits"), (21, u "max"), (2, u "min"), (43, u "$assertionsDisabled"), (0, u "Z"), (88, u "(II)I"), (2, u "twoToTheDoubleScaleDown"), (0, u "D"), (4, u "twoToTheDoubleScaleUp"), (9, u "E"), (3, u "PI"), (2, u "TAU"), (2, u "DEGREES_TO_RADIANS"), (0, u "RADIANS_TO_DEGREES")] 94

def k21m0 : Method := { name := "<init>", desc := "()V", sig := { parameters := [], returnType := none }, accessFlags := 2, code := none }
def k21c1 : Code := { maxStack := 2, maxLocals := 2, code := jdk_29_method_65_code, exceptionTable := #[], attributes := #[] }
def k21m1 : Method := { name := "max", desc := "(II)I", sig := { parameters := [.int, .int], returnType := some .int }, accessFlags := 9, code := some k21c1 }
def k21c2 : Code := { maxStack := 4, maxLocals := 4, code := jdk_29_method_70_code, exceptionTable := #[], attributes := #[] }
def k21m2 : Method := { name := "min", desc := "(JJ)J", sig := { parameters := [.long, .long], returnType := some .long }, accessFlags := 9, code := some k21c2 }
/-- java/lang/Math -/
def k21 : Class := { plain "java/lang/Math" (some 0) with
  accessFlags := 49
  interfaces := #[]
  cf := some (fileOf pool21 1 #[.nestMembers #[98]] #[{ accessFlags := 2, nameIndex := 7, descriptorIndex := 8, attributes := #[] }, { accessFlags := 9, nameIndex := 198, descriptorIndex := 335, attributes := #[] }, { accessFlags := 9, nameIndex := 201, descriptorIndex := 121, attributes := #[] }] 49 4 #[] #[{ accessFlags := 25, nameIndex := 354, descriptorIndex := 339, attributes := #[] }, { accessFlags := 25, nameIndex := 358, descriptorIndex := 339, attributes := #[] }, { accessFlags := 25, nameIndex := 361, descriptorIndex := 339, attributes := #[] }, { accessFlags := 26, nameIndex := 364, descriptorIndex := 339, attributes := #[] }, { accessFlags := 26, nameIndex := 365, descriptorIndex := 339, attributes := #[] }, { accessFlags := 26, nameIndex := 172, descriptorIndex := 173, attributes := #[] }, { accessFlags := 26, nameIndex := 176, descriptorIndex := 173, attributes := #[] }, { accessFlags := 8, nameIndex := 344, descriptorIndex := 339, attributes := #[] }, { accessFlags := 8, nameIndex := 338, descriptorIndex := 339, attributes := #[] }, { accessFlags := 4120, nameIndex := 245, descriptorIndex := 246, attributes := #[] }])
  fields := #[{ name := "E", type := .double, accessFlags := 25, slot := 0, constantValue := 0 }, { name := "PI", type := .double, accessFlags := 25, slot := 1, constantValue := 0 }, { name := "TAU", type := .double, accessFlags := 25, slot := 2, constantValue := 0 }, { name := "DEGREES_TO_RADIANS", type := .double, accessFlags := 26, slot := 3, constantValue := 0 }, { name := "RADIANS_TO_DEGREES", type := .double, accessFlags := 26, slot := 4, constantValue := 0 }, { name := "negativeZeroFloatBits", type := .long, accessFlags := 26, slot := 5, constantValue := 0 }, { name := "negativeZeroDoubleBits", type := .long, accessFlags := 26, slot := 6, constantValue := 0 }, { name := "twoToTheDoubleScaleUp", type := .double, accessFlags := 8, slot := 7, constantValue := 0 }, { name := "twoToTheDoubleScaleDown", type := .double, accessFlags := 8, slot := 8, constantValue := 0 }, { name := "$assertionsDisabled", type := .boolean, accessFlags := 4120, slot := 9, constantValue := 0 }]
  methods := #[k21m0, k21m1, k21m2]
  instanceTypes := #[]
  staticTypes := #[.double, .double, .double, .double, .double, .long, .long, .double, .double, .boolean]
  resolved := Array.replicate 460 none
  statics := none }

def pool22 : Array CpInfo := pool [(1, .methodref 2 3), (0, .class_ 4), (0, .nameAndType 5 6), (0, u "java/lang/Object"), (0, u "<init>"), (0, u "()V"), (1, .class_ 10), (1, u "java/lang/Number"), (2, .class_ 14), (0, u "java/io/Serializable"), (0, u "serialVersionUID"), (0, u "J")] 20

def k22c0 : Code := { maxStack := 1, maxLocals := 1, code := jdk_18_method_1_code, exceptionTable := #[], attributes := #[] }
def k22m0 : Method := { name := "<init>", desc := "()V", sig := { parameters := [], returnType := none }, accessFlags := 1, code := some k22c0 }
/-- java/lang/Number -/
def k22 : Class := { plain "java/lang/Number" (some 0) with
  accessFlags := 1057
  interfaces := #[11]
  cf := some (fileOf pool22 8 #[] #[{ accessFlags := 1, nameIndex := 5, descriptorIndex := 6, attributes := #[] }] 1057 2 #[13] #[{ accessFlags := 26, nameIndex := 15, descriptorIndex := 16, attributes := #[] }])
  fields := #[{ name := "serialVersionUID", type := .long, accessFlags := 26, slot := 0, constantValue := 0 }]
  methods := #[k22m0]
  instanceTypes := #[]
  staticTypes := #[.long]
  resolved := Array.replicate 37 none
  statics := none }

def pool23 : Array CpInfo := pool [(1, .class_ 2), (0, u "java/lang/Comparable"), (0, .class_ 4), (0, u "java/lang/Object")] 7

/-- java/lang/Comparable -/
def k23 : Class := { plain "java/lang/Comparable" (some 0) with
  accessFlags := 1537
  interfaces := #[]
  cf := some (fileOf pool23 1 #[] #[] 1537 3 #[] #[])
  fields := #[]
  methods := #[]
  instanceTypes := #[]
  staticTypes := #[]
  resolved := Array.replicate 12 none
  statics := none }

def pool24 : Array CpInfo := pool [(1, .class_ 2), (0, u "java/lang/constant/Constable"), (0, .class_ 4), (0, u "java/lang/Object")] 6

/-- java/lang/constant/Constable -/
def k24 : Class := { plain "java/lang/constant/Constable" (some 0) with
  accessFlags := 1537
  interfaces := #[]
  cf := some (fileOf pool24 1 #[] #[] 1537 3 #[] #[])
  fields := #[]
  methods := #[]
  instanceTypes := #[]
  staticTypes := #[]
  resolved := Array.replicate 11 none
  statics := none }

def pool25 : Array CpInfo := pool [(1, .class_ 2), (0, u "java/lang/constant/ConstantDesc"), (0, .class_ 4), (0, u "java/lang/Object")] 32

/-- java/lang/constant/ConstantDesc -/
def k25 : Class := { plain "java/lang/constant/ConstantDesc" (some 0) with
  accessFlags := 1537
  interfaces := #[]
  cf := some (fileOf pool25 1 #[] #[] 1537 3 #[] #[])
  fields := #[]
  methods := #[]
  instanceTypes := #[]
  staticTypes := #[]
  resolved := Array.replicate 37 none
  statics := none }

def pool26 : Array CpInfo := pool [(1, .class_ 2), (0, u "java/lang/Integer"), (16, u "digits"), (0, u "[C"), (46, u "<init>"), (17, u "DigitOnes"), (0, u "[B"), (2, u "DigitTens"), (10, .nameAndType 67 101), (0, u "()V"), (19, u "()I"), (65, u "valueOf"), (0, u "(I)Ljava/lang/Integer;"), (0, .class_ 190), (0, u "java/lang/Integer$IntegerCache"), (0, .fieldref 189 192), (0, .nameAndType 193 194), (0, u "high"), (0, u "I"), (0, .fieldref 189 196), (0, .nameAndType 197 198), (0, u "cache"), (0, u "[Ljava/lang/Integer;"), (0, .methodref 1 200), (0, .nameAndType 67 201), (0, u "(I)V"), (0, .methodref 203 100), (0, .class_ 204), (0, u "java/lang/Number"), (0, .fieldref 1 206), (0, .nameAndType 207 194), (0, u "value"), (5, u "intValue"), (88, u "TYPE"), (0, u "Ljava/lang/Class;"), (0, .class_ 305), (0, u "java/lang/Comparable"), (0, .class_ 307), (0, u "java/lang/constant/Constable"), (0, .class_ 309), (0, u "java/lang/constant/ConstantDesc"), (0, u "MIN_VALUE"), (1, u "MAX_VALUE"), (3, u "SIZE"), (1, u "BYTES"), (1, u "serialVersionUID"), (0, u "J")] 131

def k26c0 : Code := { maxStack := 3, maxLocals := 1, code := jdk_33_method_22_code, exceptionTable := #[], attributes := #[] }
def k26m0 : Method := { name := "valueOf", desc := "(I)Ljava/lang/Integer;", sig := { parameters := [.int], returnType := some (.object "java/lang/Integer") }, accessFlags := 9, code := some k26c0 }
def k26c1 : Code := { maxStack := 2, maxLocals := 2, code := jdk_33_method_23_code, exceptionTable := #[], attributes := #[] }
def k26m1 : Method := { name := "<init>", desc := "(I)V", sig := { parameters := [.int], returnType := none }, accessFlags := 1, code := some k26c1 }
def k26c2 : Code := { maxStack := 1, maxLocals := 1, code := jdk_33_method_27_code, exceptionTable := #[], attributes := #[] }
def k26m2 : Method := { name := "intValue", desc := "()I", sig := { parameters := [], returnType := some .int }, accessFlags := 1, code := some k26c2 }
/-- java/lang/Integer -/
def k26 : Class := { plain "java/lang/Integer" (some 22) with
  accessFlags := 49
  interfaces := #[23, 24, 25]
  cf := some (fileOf pool26 1 #[.nestMembers #[189]] #[{ accessFlags := 9, nameIndex := 187, descriptorIndex := 188, attributes := #[] }, { accessFlags := 1, nameIndex := 67, descriptorIndex := 201, attributes := #[] }, { accessFlags := 1, nameIndex := 213, descriptorIndex := 121, attributes := #[] }] 49 203 #[304, 306, 308] #[{ accessFlags := 25, nameIndex := 310, descriptorIndex := 194, attributes := #[] }, { accessFlags := 25, nameIndex := 312, descriptorIndex := 194, attributes := #[] }, { accessFlags := 25, nameIndex := 302, descriptorIndex := 303, attributes := #[] }, { accessFlags := 24, nameIndex := 19, descriptorIndex := 20, attributes := #[] }, { accessFlags := 24, nameIndex := 89, descriptorIndex := 86, attributes := #[] }, { accessFlags := 24, nameIndex := 85, descriptorIndex := 86, attributes := #[] }, { accessFlags := 18, nameIndex := 207, descriptorIndex := 194, attributes := #[] }, { accessFlags := 25, nameIndex := 316, descriptorIndex := 194, attributes := #[] }, { accessFlags := 25, nameIndex := 318, descriptorIndex := 194, attributes := #[] }, { accessFlags := 26, nameIndex := 320, descriptorIndex := 321, attributes := #[] }])
  fields := #[{ name := "MIN_VALUE", type := .int, accessFlags := 25, slot := 0, constantValue := 0 }, { name := "MAX_VALUE", type := .int, accessFlags := 25, slot := 1, constantValue := 0 }, { name := "TYPE", type := (.object "java/lang/Class"), accessFlags := 25, slot := 2, constantValue := 0 }, { name := "digits", type := (.array .char), accessFlags := 24, slot := 3, constantValue := 0 }, { name := "DigitTens", type := (.array .byte), accessFlags := 24, slot := 4, constantValue := 0 }, { name := "DigitOnes", type := (.array .byte), accessFlags := 24, slot := 5, constantValue := 0 }, { name := "value", type := .int, accessFlags := 18, slot := 0, constantValue := 0 }, { name := "SIZE", type := .int, accessFlags := 25, slot := 6, constantValue := 0 }, { name := "BYTES", type := .int, accessFlags := 25, slot := 7, constantValue := 0 }, { name := "serialVersionUID", type := .long, accessFlags := 26, slot := 8, constantValue := 0 }]
  methods := #[k26m0, k26m1, k26m2]
  instanceTypes := #[.int]
  staticTypes := #[.int, .int, (.object "java/lang/Class"), (.array .char), (.array .byte), (.array .byte), .int, .int, .long]
  resolved := Array.replicate 453 none
  statics := none }

def pool27 : Array CpInfo := pool [(2, .class_ 4), (1, u "java/lang/Object"), (0, u "<init>"), (0, u "()V"), (0, .class_ 8), (0, u "java/lang/Integer"), (7, .class_ 18), (1, u "java/lang/Integer$IntegerCache"), (0, u "$assertionsDisabled"), (0, u "Z"), (26, u "high"), (0, u "I"), (8, u "archivedCache"), (0, u "[Ljava/lang/Integer;"), (12, u "cache"), (0, u "low")] 27

def k27m0 : Method := { name := "<init>", desc := "()V", sig := { parameters := [], returnType := none }, accessFlags := 2, code := none }
/-- java/lang/Integer$IntegerCache -/
def k27 : Class := { plain "java/lang/Integer$IntegerCache" (some 0) with
  accessFlags := 48
  interfaces := #[]
  cf := some (fileOf pool27 16 #[.nestHost 7] #[{ accessFlags := 2, nameIndex := 5, descriptorIndex := 6, attributes := #[] }] 48 2 #[] #[{ accessFlags := 24, nameIndex := 72, descriptorIndex := 48, attributes := #[] }, { accessFlags := 24, nameIndex := 47, descriptorIndex := 48, attributes := #[] }, { accessFlags := 24, nameIndex := 71, descriptorIndex := 58, attributes := #[] }, { accessFlags := 8, nameIndex := 57, descriptorIndex := 58, attributes := #[] }, { accessFlags := 4120, nameIndex := 19, descriptorIndex := 20, attributes := #[] }])
  fields := #[{ name := "low", type := .int, accessFlags := 24, slot := 0, constantValue := 0 }, { name := "high", type := .int, accessFlags := 24, slot := 1, constantValue := 0 }, { name := "cache", type := (.array (.object "java/lang/Integer")), accessFlags := 24, slot := 2, constantValue := 0 }, { name := "archivedCache", type := (.array (.object "java/lang/Integer")), accessFlags := 8, slot := 3, constantValue := 0 }, { name := "$assertionsDisabled", type := .boolean, accessFlags := 4120, slot := 4, constantValue := 0 }]
  methods := #[k27m0]
  instanceTypes := #[]
  staticTypes := #[.int, .int, (.array (.object "java/lang/Integer")), (.array (.object "java/lang/Integer")), .boolean]
  resolved := Array.replicate 100 none
  statics := some 1 }

def pool28 : Array CpInfo := pool [(16, .class_ 18), (1, u "java/util/Iterator"), (0, u "hasNext"), (0, u "()Z"), (2, u "next"), (0, u "()Ljava/lang/Object;"), (6, .class_ 32), (0, u "java/lang/Object")] 20

def k28m0 : Method := { name := "hasNext", desc := "()Z", sig := { parameters := [], returnType := some .boolean }, accessFlags := 1025, code := none }
def k28m1 : Method := { name := "next", desc := "()Ljava/lang/Object;", sig := { parameters := [], returnType := some (.object "java/lang/Object") }, accessFlags := 1025, code := none }
/-- java/util/Iterator -/
def k28 : Class := { plain "java/util/Iterator" (some 0) with
  accessFlags := 1537
  interfaces := #[]
  cf := some (fileOf pool28 16 #[] #[{ accessFlags := 1025, nameIndex := 19, descriptorIndex := 20, attributes := #[] }, { accessFlags := 1025, nameIndex := 23, descriptorIndex := 24, attributes := #[] }] 1537 31 #[] #[])
  fields := #[]
  methods := #[k28m0, k28m1]
  instanceTypes := #[]
  staticTypes := #[]
  resolved := Array.replicate 53 none
  statics := none }

def pool29 : Array CpInfo := pool [(1, .fieldref 2 3), (0, .class_ 4), (0, .nameAndType 5 6), (0, u "java/util/ArrayList$Itr"), (0, u "this$0"), (0, u "Ljava/util/ArrayList;"), (0, .methodref 8 9), (0, .class_ 10), (0, .nameAndType 11 12), (0, u "java/lang/Object"), (0, u "<init>"), (0, u "()V"), (0, .fieldref 2 14), (0, .nameAndType 15 16), (0, u "lastRet"), (0, u "I"), (0, .fieldref 18 19), (0, .class_ 20), (0, .nameAndType 21 16), (0, u "java/util/ArrayList"), (0, u "modCount"), (0, .fieldref 2 23), (0, .nameAndType 24 16), (0, u "expectedModCount"), (0, .fieldref 2 26), (0, .nameAndType 27 16), (0, u "cursor"), (0, .fieldref 18 29), (0, .nameAndType 30 16), (0, u "size"), (0, .methodref 2 32), (0, .nameAndType 33 12), (0, u "checkForComodification"), (3, .fieldref 18 38), (0, .nameAndType 39 40), (0, u "elementData"), (0, u "[Ljava/lang/Object;"), (28, .class_ 70), (0, u "java/util/Iterator"), (0, u "(Ljava/util/ArrayList;)V"), (8, u "hasNext"), (0, u "()Z"), (1, u "next"), (0, u "()Ljava/lang/Object;")] 19

def k29c0 : Code := { maxStack := 2, maxLocals := 2, code := jdk_49_method_1_code, exceptionTable := #[], attributes := #[] }
def k29m0 : Method := { name := "<init>", desc := "(Ljava/util/ArrayList;)V", sig := { parameters := [(.object "java/util/ArrayList")], returnType := none }, accessFlags := 0, code := some k29c0 }
def k29c1 : Code := { maxStack := 2, maxLocals := 1, code := jdk_49_method_2_code, exceptionTable := #[], attributes := #[] }
def k29m1 : Method := { name := "hasNext", desc := "()Z", sig := { parameters := [], returnType := some .boolean }, accessFlags := 1, code := some k29c1 }
def k29c2 : Code := { maxStack := 4, maxLocals := 3, code := jdk_49_method_3_code, exceptionTable := #[], attributes := #[] }
def k29m2 : Method := { name := "next", desc := "()Ljava/lang/Object;", sig := { parameters := [], returnType := some (.object "java/lang/Object") }, accessFlags := 1, code := some k29c2 }
def k29c3 : Code := { maxStack := 2, maxLocals := 1, code := jdk_49_method_6_code, exceptionTable := #[], attributes := #[] }
def k29m3 : Method := { name := "checkForComodification", desc := "()V", sig := { parameters := [], returnType := none }, accessFlags := 16, code := some k29c3 }
/-- java/util/ArrayList$Itr -/
def k29 : Class := { plain "java/util/ArrayList$Itr" (some 0) with
  accessFlags := 32
  interfaces := #[28]
  cf := some (fileOf pool29 2 #[.nestHost 18] #[{ accessFlags := 0, nameIndex := 11, descriptorIndex := 71, attributes := #[] }, { accessFlags := 1, nameIndex := 80, descriptorIndex := 81, attributes := #[] }, { accessFlags := 1, nameIndex := 83, descriptorIndex := 84, attributes := #[] }, { accessFlags := 16, nameIndex := 33, descriptorIndex := 12, attributes := #[] }] 32 8 #[69] #[{ accessFlags := 0, nameIndex := 27, descriptorIndex := 16, attributes := #[] }, { accessFlags := 0, nameIndex := 15, descriptorIndex := 16, attributes := #[] }, { accessFlags := 0, nameIndex := 24, descriptorIndex := 16, attributes := #[] }, { accessFlags := 4112, nameIndex := 5, descriptorIndex := 6, attributes := #[] }])
  fields := #[{ name := "cursor", type := .int, accessFlags := 0, slot := 0, constantValue := 0 }, { name := "lastRet", type := .int, accessFlags := 0, slot := 1, constantValue := 0 }, { name := "expectedModCount", type := .int, accessFlags := 0, slot := 2, constantValue := 0 }, { name := "this$0", type := (.object "java/util/ArrayList"), accessFlags := 4112, slot := 3, constantValue := 0 }]
  methods := #[k29m0, k29m1, k29m2, k29m3]
  instanceTypes := #[.int, .int, .int, (.object "java/util/ArrayList")]
  staticTypes := #[]
  resolved := Array.replicate 104 none
  statics := none }

/-- the primitive byte -/
def k30 : Class := { plain "byte" none with kind := .primitive 'B', accessFlags := 0x411 }
/-- [B -/
def k31 : Class := { plain "[B" (some 0) with kind := .array 30 .byte, interfaces := #[10, 11], accessFlags := 1041 }

/-- the primitive int -/
def k32 : Class := { plain "int" none with kind := .primitive 'I', accessFlags := 0x411 }
/-- [I -/
def k33 : Class := { plain "[I" (some 0) with kind := .array 32 .int, interfaces := #[10, 11], accessFlags := 1041 }

/-- [Ljava/lang/Integer; -/
def k34 : Class := { plain "[Ljava/lang/Integer;" (some 0) with kind := .array 26 (.object "java/lang/Integer"), interfaces := #[10, 11], accessFlags := 1041 }

/-- [Ljava/lang/Object; -/
def k35 : Class := { plain "[Ljava/lang/Object;" (some 0) with kind := .array 0 (.object "java/lang/Object"), interfaces := #[10, 11], accessFlags := 1041 }

def heap : Heap := #[{ cls := 20, slots := #[.long 0, .int 0, .ref 2, .ref 2], vm := .statics 20 },
  { cls := 27, slots := #[.int 0, .int 127, .ref 3, .null, .int 0], vm := .statics 27 },
  { cls := 35, slots := #[], vm := .none },
  { cls := 34, slots := #[.ref 4, .ref 5, .ref 6, .ref 7, .ref 8, .ref 9, .ref 10, .ref 11, .ref 12, .ref 13, .ref 14, .ref 15, .ref 16, .ref 17, .ref 18, .ref 19, .ref 20, .ref 21, .ref 22, .ref 23, .ref 24, .ref 25, .ref 26, .ref 27, .ref 28, .ref 29, .ref 30, .ref 31, .ref 32, .ref 33, .ref 34, .ref 35, .ref 36, .ref 37, .ref 38, .ref 39, .ref 40, .ref 41, .ref 42, .ref 43, .ref 44, .ref 45, .ref 46, .ref 47, .ref 48, .ref 49, .ref 50, .ref 51, .ref 52, .ref 53, .ref 54, .ref 55, .ref 56, .ref 57, .ref 58, .ref 59, .ref 60, .ref 61, .ref 62, .ref 63, .ref 64, .ref 65, .ref 66, .ref 67, .ref 68, .ref 69, .ref 70, .ref 71, .ref 72, .ref 73, .ref 74, .ref 75, .ref 76, .ref 77, .ref 78, .ref 79, .ref 80, .ref 81, .ref 82, .ref 83, .ref 84, .ref 85, .ref 86, .ref 87, .ref 88, .ref 89, .ref 90, .ref 91, .ref 92, .ref 93, .ref 94, .ref 95, .ref 96, .ref 97, .ref 98, .ref 99, .ref 100, .ref 101, .ref 102, .ref 103, .ref 104, .ref 105, .ref 106, .ref 107, .ref 108, .ref 109, .ref 110, .ref 111, .ref 112, .ref 113, .ref 114, .ref 115, .ref 116, .ref 117, .ref 118, .ref 119, .ref 120, .ref 121, .ref 122, .ref 123, .ref 124, .ref 125, .ref 126, .ref 127, .ref 128, .ref 129, .ref 130, .ref 131, .ref 132, .ref 133, .ref 134, .ref 135, .ref 136, .ref 137, .ref 138, .ref 139, .ref 140, .ref 141, .ref 142, .ref 143, .ref 144, .ref 145, .ref 146, .ref 147, .ref 148, .ref 149, .ref 150, .ref 151, .ref 152, .ref 153, .ref 154, .ref 155, .ref 156, .ref 157, .ref 158, .ref 159, .ref 160, .ref 161, .ref 162, .ref 163, .ref 164, .ref 165, .ref 166, .ref 167, .ref 168, .ref 169, .ref 170, .ref 171, .ref 172, .ref 173, .ref 174, .ref 175, .ref 176, .ref 177, .ref 178, .ref 179, .ref 180, .ref 181, .ref 182, .ref 183, .ref 184, .ref 185, .ref 186, .ref 187, .ref 188, .ref 189, .ref 190, .ref 191, .ref 192, .ref 193, .ref 194, .ref 195, .ref 196, .ref 197, .ref 198, .ref 199, .ref 200, .ref 201, .ref 202, .ref 203, .ref 204, .ref 205, .ref 206, .ref 207, .ref 208, .ref 209, .ref 210, .ref 211, .ref 212, .ref 213, .ref 214, .ref 215, .ref 216, .ref 217, .ref 218, .ref 219, .ref 220, .ref 221, .ref 222, .ref 223, .ref 224, .ref 225, .ref 226, .ref 227, .ref 228, .ref 229, .ref 230, .ref 231, .ref 232, .ref 233, .ref 234, .ref 235, .ref 236, .ref 237, .ref 238, .ref 239, .ref 240, .ref 241, .ref 242, .ref 243, .ref 244, .ref 245, .ref 246, .ref 247, .ref 248, .ref 249, .ref 250, .ref 251, .ref 252, .ref 253, .ref 254, .ref 255, .ref 256, .ref 257, .ref 258, .ref 259], vm := .none },
  { cls := 26, slots := #[.int (-128)], vm := .none },
  { cls := 26, slots := #[.int (-127)], vm := .none },
  { cls := 26, slots := #[.int (-126)], vm := .none },
  { cls := 26, slots := #[.int (-125)], vm := .none },
  { cls := 26, slots := #[.int (-124)], vm := .none },
  { cls := 26, slots := #[.int (-123)], vm := .none },
  { cls := 26, slots := #[.int (-122)], vm := .none },
  { cls := 26, slots := #[.int (-121)], vm := .none },
  { cls := 26, slots := #[.int (-120)], vm := .none },
  { cls := 26, slots := #[.int (-119)], vm := .none },
  { cls := 26, slots := #[.int (-118)], vm := .none },
  { cls := 26, slots := #[.int (-117)], vm := .none },
  { cls := 26, slots := #[.int (-116)], vm := .none },
  { cls := 26, slots := #[.int (-115)], vm := .none },
  { cls := 26, slots := #[.int (-114)], vm := .none },
  { cls := 26, slots := #[.int (-113)], vm := .none },
  { cls := 26, slots := #[.int (-112)], vm := .none },
  { cls := 26, slots := #[.int (-111)], vm := .none },
  { cls := 26, slots := #[.int (-110)], vm := .none },
  { cls := 26, slots := #[.int (-109)], vm := .none },
  { cls := 26, slots := #[.int (-108)], vm := .none },
  { cls := 26, slots := #[.int (-107)], vm := .none },
  { cls := 26, slots := #[.int (-106)], vm := .none },
  { cls := 26, slots := #[.int (-105)], vm := .none },
  { cls := 26, slots := #[.int (-104)], vm := .none },
  { cls := 26, slots := #[.int (-103)], vm := .none },
  { cls := 26, slots := #[.int (-102)], vm := .none },
  { cls := 26, slots := #[.int (-101)], vm := .none },
  { cls := 26, slots := #[.int (-100)], vm := .none },
  { cls := 26, slots := #[.int (-99)], vm := .none },
  { cls := 26, slots := #[.int (-98)], vm := .none },
  { cls := 26, slots := #[.int (-97)], vm := .none },
  { cls := 26, slots := #[.int (-96)], vm := .none },
  { cls := 26, slots := #[.int (-95)], vm := .none },
  { cls := 26, slots := #[.int (-94)], vm := .none },
  { cls := 26, slots := #[.int (-93)], vm := .none },
  { cls := 26, slots := #[.int (-92)], vm := .none },
  { cls := 26, slots := #[.int (-91)], vm := .none },
  { cls := 26, slots := #[.int (-90)], vm := .none },
  { cls := 26, slots := #[.int (-89)], vm := .none },
  { cls := 26, slots := #[.int (-88)], vm := .none },
  { cls := 26, slots := #[.int (-87)], vm := .none },
  { cls := 26, slots := #[.int (-86)], vm := .none },
  { cls := 26, slots := #[.int (-85)], vm := .none },
  { cls := 26, slots := #[.int (-84)], vm := .none },
  { cls := 26, slots := #[.int (-83)], vm := .none },
  { cls := 26, slots := #[.int (-82)], vm := .none },
  { cls := 26, slots := #[.int (-81)], vm := .none },
  { cls := 26, slots := #[.int (-80)], vm := .none },
  { cls := 26, slots := #[.int (-79)], vm := .none },
  { cls := 26, slots := #[.int (-78)], vm := .none },
  { cls := 26, slots := #[.int (-77)], vm := .none },
  { cls := 26, slots := #[.int (-76)], vm := .none },
  { cls := 26, slots := #[.int (-75)], vm := .none },
  { cls := 26, slots := #[.int (-74)], vm := .none },
  { cls := 26, slots := #[.int (-73)], vm := .none },
  { cls := 26, slots := #[.int (-72)], vm := .none },
  { cls := 26, slots := #[.int (-71)], vm := .none },
  { cls := 26, slots := #[.int (-70)], vm := .none },
  { cls := 26, slots := #[.int (-69)], vm := .none },
  { cls := 26, slots := #[.int (-68)], vm := .none },
  { cls := 26, slots := #[.int (-67)], vm := .none },
  { cls := 26, slots := #[.int (-66)], vm := .none },
  { cls := 26, slots := #[.int (-65)], vm := .none },
  { cls := 26, slots := #[.int (-64)], vm := .none },
  { cls := 26, slots := #[.int (-63)], vm := .none },
  { cls := 26, slots := #[.int (-62)], vm := .none },
  { cls := 26, slots := #[.int (-61)], vm := .none },
  { cls := 26, slots := #[.int (-60)], vm := .none },
  { cls := 26, slots := #[.int (-59)], vm := .none },
  { cls := 26, slots := #[.int (-58)], vm := .none },
  { cls := 26, slots := #[.int (-57)], vm := .none },
  { cls := 26, slots := #[.int (-56)], vm := .none },
  { cls := 26, slots := #[.int (-55)], vm := .none },
  { cls := 26, slots := #[.int (-54)], vm := .none },
  { cls := 26, slots := #[.int (-53)], vm := .none },
  { cls := 26, slots := #[.int (-52)], vm := .none },
  { cls := 26, slots := #[.int (-51)], vm := .none },
  { cls := 26, slots := #[.int (-50)], vm := .none },
  { cls := 26, slots := #[.int (-49)], vm := .none },
  { cls := 26, slots := #[.int (-48)], vm := .none },
  { cls := 26, slots := #[.int (-47)], vm := .none },
  { cls := 26, slots := #[.int (-46)], vm := .none },
  { cls := 26, slots := #[.int (-45)], vm := .none },
  { cls := 26, slots := #[.int (-44)], vm := .none },
  { cls := 26, slots := #[.int (-43)], vm := .none },
  { cls := 26, slots := #[.int (-42)], vm := .none },
  { cls := 26, slots := #[.int (-41)], vm := .none },
  { cls := 26, slots := #[.int (-40)], vm := .none },
  { cls := 26, slots := #[.int (-39)], vm := .none },
  { cls := 26, slots := #[.int (-38)], vm := .none },
  { cls := 26, slots := #[.int (-37)], vm := .none },
  { cls := 26, slots := #[.int (-36)], vm := .none },
  { cls := 26, slots := #[.int (-35)], vm := .none },
  { cls := 26, slots := #[.int (-34)], vm := .none },
  { cls := 26, slots := #[.int (-33)], vm := .none },
  { cls := 26, slots := #[.int (-32)], vm := .none },
  { cls := 26, slots := #[.int (-31)], vm := .none },
  { cls := 26, slots := #[.int (-30)], vm := .none },
  { cls := 26, slots := #[.int (-29)], vm := .none },
  { cls := 26, slots := #[.int (-28)], vm := .none },
  { cls := 26, slots := #[.int (-27)], vm := .none },
  { cls := 26, slots := #[.int (-26)], vm := .none },
  { cls := 26, slots := #[.int (-25)], vm := .none },
  { cls := 26, slots := #[.int (-24)], vm := .none },
  { cls := 26, slots := #[.int (-23)], vm := .none },
  { cls := 26, slots := #[.int (-22)], vm := .none },
  { cls := 26, slots := #[.int (-21)], vm := .none },
  { cls := 26, slots := #[.int (-20)], vm := .none },
  { cls := 26, slots := #[.int (-19)], vm := .none },
  { cls := 26, slots := #[.int (-18)], vm := .none },
  { cls := 26, slots := #[.int (-17)], vm := .none },
  { cls := 26, slots := #[.int (-16)], vm := .none },
  { cls := 26, slots := #[.int (-15)], vm := .none },
  { cls := 26, slots := #[.int (-14)], vm := .none },
  { cls := 26, slots := #[.int (-13)], vm := .none },
  { cls := 26, slots := #[.int (-12)], vm := .none },
  { cls := 26, slots := #[.int (-11)], vm := .none },
  { cls := 26, slots := #[.int (-10)], vm := .none },
  { cls := 26, slots := #[.int (-9)], vm := .none },
  { cls := 26, slots := #[.int (-8)], vm := .none },
  { cls := 26, slots := #[.int (-7)], vm := .none },
  { cls := 26, slots := #[.int (-6)], vm := .none },
  { cls := 26, slots := #[.int (-5)], vm := .none },
  { cls := 26, slots := #[.int (-4)], vm := .none },
  { cls := 26, slots := #[.int (-3)], vm := .none },
  { cls := 26, slots := #[.int (-2)], vm := .none },
  { cls := 26, slots := #[.int (-1)], vm := .none },
  { cls := 26, slots := #[.int 0], vm := .none },
  { cls := 26, slots := #[.int 1], vm := .none },
  { cls := 26, slots := #[.int 2], vm := .none },
  { cls := 26, slots := #[.int 3], vm := .none },
  { cls := 26, slots := #[.int 4], vm := .none },
  { cls := 26, slots := #[.int 5], vm := .none },
  { cls := 26, slots := #[.int 6], vm := .none },
  { cls := 26, slots := #[.int 7], vm := .none },
  { cls := 26, slots := #[.int 8], vm := .none },
  { cls := 26, slots := #[.int 9], vm := .none },
  { cls := 26, slots := #[.int 10], vm := .none },
  { cls := 26, slots := #[.int 11], vm := .none },
  { cls := 26, slots := #[.int 12], vm := .none },
  { cls := 26, slots := #[.int 13], vm := .none },
  { cls := 26, slots := #[.int 14], vm := .none },
  { cls := 26, slots := #[.int 15], vm := .none },
  { cls := 26, slots := #[.int 16], vm := .none },
  { cls := 26, slots := #[.int 17], vm := .none },
  { cls := 26, slots := #[.int 18], vm := .none },
  { cls := 26, slots := #[.int 19], vm := .none },
  { cls := 26, slots := #[.int 20], vm := .none },
  { cls := 26, slots := #[.int 21], vm := .none },
  { cls := 26, slots := #[.int 22], vm := .none },
  { cls := 26, slots := #[.int 23], vm := .none },
  { cls := 26, slots := #[.int 24], vm := .none },
  { cls := 26, slots := #[.int 25], vm := .none },
  { cls := 26, slots := #[.int 26], vm := .none },
  { cls := 26, slots := #[.int 27], vm := .none },
  { cls := 26, slots := #[.int 28], vm := .none },
  { cls := 26, slots := #[.int 29], vm := .none },
  { cls := 26, slots := #[.int 30], vm := .none },
  { cls := 26, slots := #[.int 31], vm := .none },
  { cls := 26, slots := #[.int 32], vm := .none },
  { cls := 26, slots := #[.int 33], vm := .none },
  { cls := 26, slots := #[.int 34], vm := .none },
  { cls := 26, slots := #[.int 35], vm := .none },
  { cls := 26, slots := #[.int 36], vm := .none },
  { cls := 26, slots := #[.int 37], vm := .none },
  { cls := 26, slots := #[.int 38], vm := .none },
  { cls := 26, slots := #[.int 39], vm := .none },
  { cls := 26, slots := #[.int 40], vm := .none },
  { cls := 26, slots := #[.int 41], vm := .none },
  { cls := 26, slots := #[.int 42], vm := .none },
  { cls := 26, slots := #[.int 43], vm := .none },
  { cls := 26, slots := #[.int 44], vm := .none },
  { cls := 26, slots := #[.int 45], vm := .none },
  { cls := 26, slots := #[.int 46], vm := .none },
  { cls := 26, slots := #[.int 47], vm := .none },
  { cls := 26, slots := #[.int 48], vm := .none },
  { cls := 26, slots := #[.int 49], vm := .none },
  { cls := 26, slots := #[.int 50], vm := .none },
  { cls := 26, slots := #[.int 51], vm := .none },
  { cls := 26, slots := #[.int 52], vm := .none },
  { cls := 26, slots := #[.int 53], vm := .none },
  { cls := 26, slots := #[.int 54], vm := .none },
  { cls := 26, slots := #[.int 55], vm := .none },
  { cls := 26, slots := #[.int 56], vm := .none },
  { cls := 26, slots := #[.int 57], vm := .none },
  { cls := 26, slots := #[.int 58], vm := .none },
  { cls := 26, slots := #[.int 59], vm := .none },
  { cls := 26, slots := #[.int 60], vm := .none },
  { cls := 26, slots := #[.int 61], vm := .none },
  { cls := 26, slots := #[.int 62], vm := .none },
  { cls := 26, slots := #[.int 63], vm := .none },
  { cls := 26, slots := #[.int 64], vm := .none },
  { cls := 26, slots := #[.int 65], vm := .none },
  { cls := 26, slots := #[.int 66], vm := .none },
  { cls := 26, slots := #[.int 67], vm := .none },
  { cls := 26, slots := #[.int 68], vm := .none },
  { cls := 26, slots := #[.int 69], vm := .none },
  { cls := 26, slots := #[.int 70], vm := .none },
  { cls := 26, slots := #[.int 71], vm := .none },
  { cls := 26, slots := #[.int 72], vm := .none },
  { cls := 26, slots := #[.int 73], vm := .none },
  { cls := 26, slots := #[.int 74], vm := .none },
  { cls := 26, slots := #[.int 75], vm := .none },
  { cls := 26, slots := #[.int 76], vm := .none },
  { cls := 26, slots := #[.int 77], vm := .none },
  { cls := 26, slots := #[.int 78], vm := .none },
  { cls := 26, slots := #[.int 79], vm := .none },
  { cls := 26, slots := #[.int 80], vm := .none },
  { cls := 26, slots := #[.int 81], vm := .none },
  { cls := 26, slots := #[.int 82], vm := .none },
  { cls := 26, slots := #[.int 83], vm := .none },
  { cls := 26, slots := #[.int 84], vm := .none },
  { cls := 26, slots := #[.int 85], vm := .none },
  { cls := 26, slots := #[.int 86], vm := .none },
  { cls := 26, slots := #[.int 87], vm := .none },
  { cls := 26, slots := #[.int 88], vm := .none },
  { cls := 26, slots := #[.int 89], vm := .none },
  { cls := 26, slots := #[.int 90], vm := .none },
  { cls := 26, slots := #[.int 91], vm := .none },
  { cls := 26, slots := #[.int 92], vm := .none },
  { cls := 26, slots := #[.int 93], vm := .none },
  { cls := 26, slots := #[.int 94], vm := .none },
  { cls := 26, slots := #[.int 95], vm := .none },
  { cls := 26, slots := #[.int 96], vm := .none },
  { cls := 26, slots := #[.int 97], vm := .none },
  { cls := 26, slots := #[.int 98], vm := .none },
  { cls := 26, slots := #[.int 99], vm := .none },
  { cls := 26, slots := #[.int 100], vm := .none },
  { cls := 26, slots := #[.int 101], vm := .none },
  { cls := 26, slots := #[.int 102], vm := .none },
  { cls := 26, slots := #[.int 103], vm := .none },
  { cls := 26, slots := #[.int 104], vm := .none },
  { cls := 26, slots := #[.int 105], vm := .none },
  { cls := 26, slots := #[.int 106], vm := .none },
  { cls := 26, slots := #[.int 107], vm := .none },
  { cls := 26, slots := #[.int 108], vm := .none },
  { cls := 26, slots := #[.int 109], vm := .none },
  { cls := 26, slots := #[.int 110], vm := .none },
  { cls := 26, slots := #[.int 111], vm := .none },
  { cls := 26, slots := #[.int 112], vm := .none },
  { cls := 26, slots := #[.int 113], vm := .none },
  { cls := 26, slots := #[.int 114], vm := .none },
  { cls := 26, slots := #[.int 115], vm := .none },
  { cls := 26, slots := #[.int 116], vm := .none },
  { cls := 26, slots := #[.int 117], vm := .none },
  { cls := 26, slots := #[.int 118], vm := .none },
  { cls := 26, slots := #[.int 119], vm := .none },
  { cls := 26, slots := #[.int 120], vm := .none },
  { cls := 26, slots := #[.int 121], vm := .none },
  { cls := 26, slots := #[.int 122], vm := .none },
  { cls := 26, slots := #[.int 123], vm := .none },
  { cls := 26, slots := #[.int 124], vm := .none },
  { cls := 26, slots := #[.int 125], vm := .none },
  { cls := 26, slots := #[.int 126], vm := .none },
  { cls := 26, slots := #[.int 127], vm := .none }]
def classes : Array Class := #[k0, k1, k2, k3, k4, k5, k6, k7, k8, k9, k10, k11, k12, k13, k14, k15, k16, k17, k18, k19, k20, k21, k22, k23, k24, k25, k26, k27, k28, k29, k30, k31, k32, k33, k34, k35]
def interned : List (Array UInt16 × Addr) := []
def slotsUsed : Nat := 521
def theMethod : MethodId := ⟨1, 1⟩
def args0 : Array Value := #[.int 1, .long 5, .long 7, .long 8, .long 9]
def aboutOver (below : List Frame) : State where
  vm := { classes := classes, interned := interned.toArray }
  heap := heap
  slotsUsed := slotsUsed
  threads := #[{ frames := .invoking theMethod args0 :: below }]
def below0 : List Frame := [.native { method := ⟨0, 0⟩, args := #[] }]
def about1 : State := aboutOver below0
def p0 : Program := .bare "" "" ""
def e0 : Env := launch0.env 0 0 0
theorem w_frames : about1.frames = Frame.invoking theMethod args0 :: below0 := rfl
set_option maxRecDepth 65536 in
theorem w_args : argsFit about1.vm theMethod args0 = true := by decide +kernel
set_option maxRecDepth 65536 in
theorem w_heap : heapFits about1 = true := by decide +kernel
set_option maxRecDepth 65536 in
theorem w_runnable : about1.curStatus? = some .runnable := by decide +kernel
set_option maxRecDepth 65536 in
theorem w_alone : about1.alone = true := by decide +kernel
set_option maxRecDepth 65536 in
theorem w_named : about1.methodNamed? x = some theMethod := by decide +kernel
set_option maxRecDepth 65536 in
theorem w_hears : about1.hears theMethod below0 = true := by decide +kernel
set_option maxRecDepth 65536 in
theorem w_ripe : about1.ripe theMethod args0 below0 = true := by decide +kernel
theorem w_running : about1.status = .running := rfl
set_option maxRecDepth 65536 in
theorem w_room : about1.hasRoom e0.platform room_1 = true :=
  launch0.hasRoom_least _ room_1 (by decide +kernel) (by decide +kernel) (by decide +kernel) (by decide +kernel) (by decide +kernel) (by decide +kernel)
theorem allAtoms_all (ts : List Jvm.Cond) (a : Array Jvm.Value) (st : Jvm.State) : (allAtoms ts).before a st = ts.all (fun c => c.before a st) := by
  induction ts with
  | nil => rfl
  | cons c t ih =>
    show (Jvm.Cond.and c (allAtoms t)).before a st = _
    rw [Jvm.Cond.before_and, ih, List.all_cons]
def words1 : List Jvm.Cond := Jvm.Cond.code x code maxLocals ret :: tables_1
/-- a 'code' word, met by the world's own term for the bytes: nothing is compared byte by byte -/
theorem code_word {y : MethodName} {bytes : ByteArray} {mx : Nat} {rt : Option FieldType} {a : Array Value} {s : State} {m : MethodId} {meth : Method} {c : Code} (h1 : s.methodNamed? y = some m) (h2 : s.vm.method? m = some meth) (h3 : meth.code = some c) (h4 : c.code = bytes)
    (h5 : (c.maxLocals == mx && c.exceptionTable.isEmpty && decide (c.maxStack ≤ mostOperands) && decide (meth.sig.returnType = rt) && !meth.locks && decide (parseMethodDescriptor y.desc = some meth.sig)) = true) : (Jvm.Cond.code y bytes mx rt).before a s = true := by
  simp only [Bool.and_eq_true, beq_iff_eq, Bool.not_eq_true', decide_eq_true_eq] at h5
  obtain ⟨⟨⟨⟨⟨g1, g2⟩, g3⟩, g4⟩, g5⟩, g6⟩ := h5
  simp [Cond.before, Cond.holds, Cond.value, h1, h2, h3, h4, g1, g2, g3, g4, g5, g6]
def isCode : Jvm.Cond → Bool
  | .code _ _ _ _ => true
  | _ => false
theorem all_split {L : List Jvm.Cond} {P : Jvm.Cond → Bool} (h1 : L.all (fun c => isCode c || P c) = true) (h2 : ∀ c ∈ L.filter isCode, P c = true) : L.all P = true := by
  refine List.all_eq_true.mpr fun c hc => ?_
  have h := List.all_eq_true.mp h1 c hc
  rcases Bool.eq_false_or_eq_true (isCode c) with hi | hi
  · exact h2 c (List.mem_filter.mpr ⟨hc, hi⟩)
  · simpa [hi] using h
set_option maxRecDepth 65536 in
theorem w_c0 : (Jvm.Cond.code x code maxLocals ret).before args0 about1 = true := code_word (m := ⟨1, 1⟩) (meth := k1m1) (c := k1c1) (by decide +kernel) rfl rfl rfl (by decide +kernel)
set_option maxRecDepth 65536 in
theorem w_c1 : (Jvm.Cond.code ({ cls := "com/example/many_to_leader/manytoleader/bully/Timeouts", name := "<init>", desc := "(JJ)V" } : Jvm.MethodName) prog_19_method_1_code (5 : Nat) (Option.none : Option Jvm.ClassFile.FieldType)).before args0 about1 = true := code_word (m := ⟨2, 0⟩) (meth := k2m0) (c := k2c0) (by decide +kernel) rfl rfl rfl (by decide +kernel)
set_option maxRecDepth 65536 in
theorem w_c2 : (Jvm.Cond.code ({ cls := "com/example/many_to_leader/manytoleader/bully/Timeouts", name := "<init>", desc := "(JJJJJ)V" } : Jvm.MethodName) prog_19_method_2_code (11 : Nat) (Option.none : Option Jvm.ClassFile.FieldType)).before args0 about1 = true := code_word (m := ⟨2, 1⟩) (meth := k2m1) (c := k2c1) (by decide +kernel) rfl rfl rfl (by decide +kernel)
set_option maxRecDepth 65536 in
theorem w_c3 : (Jvm.Cond.code ({ cls := "java/lang/Object", name := "<init>", desc := "()V" } : Jvm.MethodName) object_method_1_code (1 : Nat) (Option.none : Option Jvm.ClassFile.FieldType)).before args0 about1 = true := code_word (m := ⟨0, 0⟩) (meth := k0m0) (c := k0c0) (by decide +kernel) rfl rfl rfl (by decide +kernel)
set_option maxRecDepth 65536 in
theorem w_c4 : (Jvm.Cond.code ({ cls := "com/example/many_to_leader/manytoleader/bully/Timeouts", name := "withHeartbeats", desc := "(JJ)Lcom/example/many_to_leader/manytoleader/bully/Timeouts;" } : Jvm.MethodName) prog_19_method_3_code (5 : Nat) (Option.some (Jvm.ClassFile.FieldType.object "com/example/many_to_leader/manytoleader/bully/Timeouts"))).before args0 about1 = true := code_word (m := ⟨2, 2⟩) (meth := k2m2) (c := k2c2) (by decide +kernel) rfl rfl rfl (by decide +kernel)
set_option maxRecDepth 65536 in
theorem w_c5 : (Jvm.Cond.code ({ cls := "com/example/many_to_leader/manytoleader/bully/PoolSize", name := "<init>", desc := "(II)V" } : Jvm.MethodName) prog_18_method_1_code (3 : Nat) (Option.none : Option Jvm.ClassFile.FieldType)).before args0 about1 = true := code_word (m := ⟨4, 0⟩) (meth := k4m0) (c := k4c0) (by decide +kernel) rfl rfl rfl (by decide +kernel)
set_option maxRecDepth 65536 in
theorem w_c6 : (Jvm.Cond.code ({ cls := "com/example/many_to_leader/manytoleader/bully/CandidatePool", name := "<init>", desc := "(IILcom/example/many_to_leader/manytoleader/bully/PoolSize;Lcom/example/many_to_leader/manytoleader/bully/Timeouts;)V" } : Jvm.MethodName) prog_12_method_1_code (5 : Nat) (Option.none : Option Jvm.ClassFile.FieldType)).before args0 about1 = true := code_word (m := ⟨3, 0⟩) (meth := k3m0) (c := k3c0) (by decide +kernel) rfl rfl rfl (by decide +kernel)
set_option maxRecDepth 65536 in
theorem w_c7 : (Jvm.Cond.code ({ cls := "java/util/TreeMap", name := "<init>", desc := "()V" } : Jvm.MethodName) jdk_2729_method_1_code (1 : Nat) (Option.none : Option Jvm.ClassFile.FieldType)).before args0 about1 = true := code_word (m := ⟨12, 0⟩) (meth := k12m0) (c := k12c0) (by decide +kernel) rfl rfl rfl (by decide +kernel)
set_option maxRecDepth 65536 in
theorem w_c8 : (Jvm.Cond.code ({ cls := "java/util/AbstractMap", name := "<init>", desc := "()V" } : Jvm.MethodName) jdk_71_method_1_code (1 : Nat) (Option.none : Option Jvm.ClassFile.FieldType)).before args0 about1 = true := code_word (m := ⟨6, 0⟩) (meth := k6m0) (c := k6c0) (by decide +kernel) rfl rfl rfl (by decide +kernel)
set_option maxRecDepth 65536 in
theorem w_c9 : (Jvm.Cond.code ({ cls := "com/example/many_to_leader/manytoleader/bully/Timeouts", name := "heartbeatIntervalMillis", desc := "()J" } : Jvm.MethodName) prog_19_method_8_code (1 : Nat) (Option.some Jvm.ClassFile.FieldType.long)).before args0 about1 = true := code_word (m := ⟨2, 3⟩) (meth := k2m3) (c := k2c3) (by decide +kernel) rfl rfl rfl (by decide +kernel)
set_option maxRecDepth 65536 in
theorem w_c10 : (Jvm.Cond.code ({ cls := "com/example/many_to_leader/manytoleader/bully/Timeouts", name := "heartbeatTimeoutMillis", desc := "()J" } : Jvm.MethodName) prog_19_method_9_code (1 : Nat) (Option.some Jvm.ClassFile.FieldType.long)).before args0 about1 = true := code_word (m := ⟨2, 4⟩) (meth := k2m4) (c := k2c4) (by decide +kernel) rfl rfl rfl (by decide +kernel)
set_option maxRecDepth 65536 in
theorem w_c11 : (Jvm.Cond.code ({ cls := "java/util/ArrayList", name := "<init>", desc := "()V" } : Jvm.MethodName) jdk_38_method_2_code (1 : Nat) (Option.none : Option Jvm.ClassFile.FieldType)).before args0 about1 = true := code_word (m := ⟨20, 0⟩) (meth := k20m0) (c := k20c0) (by decide +kernel) rfl rfl rfl (by decide +kernel)
set_option maxRecDepth 65536 in
theorem w_c12 : (Jvm.Cond.code ({ cls := "java/util/AbstractList", name := "<init>", desc := "()V" } : Jvm.MethodName) jdk_39_method_1_code (1 : Nat) (Option.none : Option Jvm.ClassFile.FieldType)).before args0 about1 = true := code_word (m := ⟨18, 0⟩) (meth := k18m0) (c := k18c0) (by decide +kernel) rfl rfl rfl (by decide +kernel)
set_option maxRecDepth 65536 in
theorem w_c13 : (Jvm.Cond.code ({ cls := "java/util/AbstractCollection", name := "<init>", desc := "()V" } : Jvm.MethodName) jdk_22_method_1_code (1 : Nat) (Option.none : Option Jvm.ClassFile.FieldType)).before args0 about1 = true := code_word (m := ⟨15, 0⟩) (meth := k15m0) (c := k15c0) (by decide +kernel) rfl rfl rfl (by decide +kernel)
set_option maxRecDepth 65536 in
theorem w_c14 : (Jvm.Cond.code ({ cls := "com/example/many_to_leader/manytoleader/bully/CandidatePool", name := "heartbeatDue", desc := "(J)Z" } : Jvm.MethodName) prog_12_method_9_code (4 : Nat) (Option.some Jvm.ClassFile.FieldType.boolean)).before args0 about1 = true := code_word (m := ⟨3, 4⟩) (meth := k3m4) (c := k3c4) (by decide +kernel) rfl rfl rfl (by decide +kernel)
set_option maxRecDepth 65536 in
theorem w_c15 : (Jvm.Cond.code ({ cls := "com/example/many_to_leader/manytoleader/bully/CandidatePool", name := "deadline", desc := "()J" } : Jvm.MethodName) prog_12_method_4_code (1 : Nat) (Option.some Jvm.ClassFile.FieldType.long)).before args0 about1 = true := code_word (m := ⟨3, 3⟩) (meth := k3m3) (c := k3c3) (by decide +kernel) rfl rfl rfl (by decide +kernel)
set_option maxRecDepth 65536 in
theorem w_c16 : (Jvm.Cond.code ({ cls := "java/lang/Math", name := "min", desc := "(JJ)J" } : Jvm.MethodName) jdk_29_method_70_code (4 : Nat) (Option.some Jvm.ClassFile.FieldType.long)).before args0 about1 = true := code_word (m := ⟨21, 2⟩) (meth := k21m2) (c := k21c2) (by decide +kernel) rfl rfl rfl (by decide +kernel)
set_option maxRecDepth 65536 in
theorem w_c17 : (Jvm.Cond.code ({ cls := "com/example/many_to_leader/manytoleader/bully/CandidatePool", name := "isCandidate", desc := "()Z" } : Jvm.MethodName) prog_12_method_3_code (1 : Nat) (Option.some Jvm.ClassFile.FieldType.boolean)).before args0 about1 = true := code_word (m := ⟨3, 2⟩) (meth := k3m2) (c := k3c2) (by decide +kernel) rfl rfl rfl (by decide +kernel)
set_option maxRecDepth 65536 in
theorem w_c18 : (Jvm.Cond.code ({ cls := "java/lang/Integer", name := "valueOf", desc := "(I)Ljava/lang/Integer;" } : Jvm.MethodName) jdk_33_method_22_code (1 : Nat) (Option.some (Jvm.ClassFile.FieldType.object "java/lang/Integer"))).before args0 about1 = true := code_word (m := ⟨26, 0⟩) (meth := k26m0) (c := k26c0) (by decide +kernel) rfl rfl rfl (by decide +kernel)
set_option maxRecDepth 65536 in
theorem w_c19 : (Jvm.Cond.code ({ cls := "java/util/ArrayList", name := "add", desc := "(Ljava/lang/Object;)Z" } : Jvm.MethodName) jdk_38_method_25_code (2 : Nat) (Option.some Jvm.ClassFile.FieldType.boolean)).before args0 about1 = true := code_word (m := ⟨20, 4⟩) (meth := k20m4) (c := k20c4) (by decide +kernel) rfl rfl rfl (by decide +kernel)
set_option maxRecDepth 65536 in
theorem w_c20 : (Jvm.Cond.code ({ cls := "java/util/ArrayList", name := "add", desc := "(Ljava/lang/Object;[Ljava/lang/Object;I)V" } : Jvm.MethodName) jdk_38_method_24_code (4 : Nat) (Option.none : Option Jvm.ClassFile.FieldType)).before args0 about1 = true := code_word (m := ⟨20, 3⟩) (meth := k20m3) (c := k20c3) (by decide +kernel) rfl rfl rfl (by decide +kernel)
set_option maxRecDepth 65536 in
theorem w_c21 : (Jvm.Cond.code ({ cls := "java/util/ArrayList", name := "grow", desc := "()[Ljava/lang/Object;" } : Jvm.MethodName) jdk_38_method_7_code (1 : Nat) (Option.some (Jvm.ClassFile.FieldType.array (Jvm.ClassFile.FieldType.object "java/lang/Object")))).before args0 about1 = true := code_word (m := ⟨20, 2⟩) (meth := k20m2) (c := k20c2) (by decide +kernel) rfl rfl rfl (by decide +kernel)
set_option maxRecDepth 65536 in
theorem w_c22 : (Jvm.Cond.code ({ cls := "java/util/ArrayList", name := "grow", desc := "(I)[Ljava/lang/Object;" } : Jvm.MethodName) jdk_38_method_6_code (4 : Nat) (Option.some (Jvm.ClassFile.FieldType.array (Jvm.ClassFile.FieldType.object "java/lang/Object")))).before args0 about1 = true := code_word (m := ⟨20, 1⟩) (meth := k20m1) (c := k20c1) (by decide +kernel) rfl rfl rfl (by decide +kernel)
set_option maxRecDepth 65536 in
theorem w_c23 : (Jvm.Cond.code ({ cls := "java/lang/Math", name := "max", desc := "(II)I" } : Jvm.MethodName) jdk_29_method_65_code (2 : Nat) (Option.some Jvm.ClassFile.FieldType.int)).before args0 about1 = true := code_word (m := ⟨21, 1⟩) (meth := k21m1) (c := k21c1) (by decide +kernel) rfl rfl rfl (by decide +kernel)
set_option maxRecDepth 65536 in
theorem w_c24 : (Jvm.Cond.code ({ cls := "com/example/many_to_leader/manytoleader/bully/CandidatePool", name := "assume", desc := "(JLjava/util/Collection;)V" } : Jvm.MethodName) prog_12_method_2_code (6 : Nat) (Option.none : Option Jvm.ClassFile.FieldType)).before args0 about1 = true := code_word (m := ⟨3, 1⟩) (meth := k3m1) (c := k3c1) (by decide +kernel) rfl rfl rfl (by decide +kernel)
set_option maxRecDepth 65536 in
theorem w_c25 : (Jvm.Cond.code ({ cls := "java/util/ArrayList", name := "iterator", desc := "()Ljava/util/Iterator;" } : Jvm.MethodName) jdk_38_method_55_code (1 : Nat) (Option.some (Jvm.ClassFile.FieldType.object "java/util/Iterator"))).before args0 about1 = true := code_word (m := ⟨20, 5⟩) (meth := k20m5) (c := k20c5) (by decide +kernel) rfl rfl rfl (by decide +kernel)
set_option maxRecDepth 65536 in
theorem w_c26 : (Jvm.Cond.code ({ cls := "java/util/ArrayList$Itr", name := "<init>", desc := "(Ljava/util/ArrayList;)V" } : Jvm.MethodName) jdk_49_method_1_code (2 : Nat) (Option.none : Option Jvm.ClassFile.FieldType)).before args0 about1 = true := code_word (m := ⟨29, 0⟩) (meth := k29m0) (c := k29c0) (by decide +kernel) rfl rfl rfl (by decide +kernel)
set_option maxRecDepth 65536 in
theorem w_c27 : (Jvm.Cond.code ({ cls := "java/util/ArrayList$Itr", name := "hasNext", desc := "()Z" } : Jvm.MethodName) jdk_49_method_2_code (1 : Nat) (Option.some Jvm.ClassFile.FieldType.boolean)).before args0 about1 = true := code_word (m := ⟨29, 1⟩) (meth := k29m1) (c := k29c1) (by decide +kernel) rfl rfl rfl (by decide +kernel)
set_option maxRecDepth 65536 in
theorem w_c28 : (Jvm.Cond.code ({ cls := "java/util/ArrayList$Itr", name := "next", desc := "()Ljava/lang/Object;" } : Jvm.MethodName) jdk_49_method_3_code (3 : Nat) (Option.some (Jvm.ClassFile.FieldType.object "java/lang/Object"))).before args0 about1 = true := code_word (m := ⟨29, 2⟩) (meth := k29m2) (c := k29c2) (by decide +kernel) rfl rfl rfl (by decide +kernel)
set_option maxRecDepth 65536 in
theorem w_c29 : (Jvm.Cond.code ({ cls := "java/util/ArrayList$Itr", name := "checkForComodification", desc := "()V" } : Jvm.MethodName) jdk_49_method_6_code (1 : Nat) (Option.none : Option Jvm.ClassFile.FieldType)).before args0 about1 = true := code_word (m := ⟨29, 3⟩) (meth := k29m3) (c := k29c3) (by decide +kernel) rfl rfl rfl (by decide +kernel)
set_option maxRecDepth 65536 in
theorem w_c30 : (Jvm.Cond.code ({ cls := "java/lang/Integer", name := "intValue", desc := "()I" } : Jvm.MethodName) jdk_33_method_27_code (1 : Nat) (Option.some Jvm.ClassFile.FieldType.int)).before args0 about1 = true := code_word (m := ⟨26, 2⟩) (meth := k26m2) (c := k26c2) (by decide +kernel) rfl rfl rfl (by decide +kernel)
set_option maxRecDepth 65536 in
theorem w_c31 : (Jvm.Cond.code ({ cls := "java/lang/Integer", name := "<init>", desc := "(I)V" } : Jvm.MethodName) jdk_33_method_23_code (2 : Nat) (Option.none : Option Jvm.ClassFile.FieldType)).before args0 about1 = true := code_word (m := ⟨26, 1⟩) (meth := k26m1) (c := k26c1) (by decide +kernel) rfl rfl rfl (by decide +kernel)
set_option maxRecDepth 65536 in
theorem w_c32 : (Jvm.Cond.code ({ cls := "java/lang/Number", name := "<init>", desc := "()V" } : Jvm.MethodName) jdk_18_method_1_code (1 : Nat) (Option.none : Option Jvm.ClassFile.FieldType)).before args0 about1 = true := code_word (m := ⟨22, 0⟩) (meth := k22m0) (c := k22c0) (by decide +kernel) rfl rfl rfl (by decide +kernel)
def codes1 : List Jvm.Cond := [Jvm.Cond.code x code maxLocals ret, Jvm.Cond.code ({ cls := "com/example/many_to_leader/manytoleader/bully/Timeouts", name := "<init>", desc := "(JJ)V" } : Jvm.MethodName) prog_19_method_1_code (5 : Nat) (Option.none : Option Jvm.ClassFile.FieldType), Jvm.Cond.code ({ cls := "com/example/many_to_leader/manytoleader/bully/Timeouts", name := "<init>", desc := "(JJJJJ)V" } : Jvm.MethodName) prog_19_method_2_code (11 : Nat) (Option.none : Option Jvm.ClassFile.FieldType), Jvm.Cond.code ({ cls := "java/lang/Object", name := "<init>", desc := "()V" } : Jvm.MethodName) object_method_1_code (1 : Nat) (Option.none : Option Jvm.ClassFile.FieldType), Jvm.Cond.code ({ cls := "com/example/many_to_leader/manytoleader/bully/Timeouts", name := "withHeartbeats", desc := "(JJ)Lcom/example/many_to_leader/manytoleader/bully/Timeouts;" } : Jvm.MethodName) prog_19_method_3_code (5 : Nat) (Option.some (Jvm.ClassFile.FieldType.object "com/example/many_to_leader/manytoleader/bully/Timeouts")), Jvm.Cond.code ({ cls := "com/example/many_to_leader/manytoleader/bully/PoolSize", name := "<init>", desc := "(II)V" } : Jvm.MethodName) prog_18_method_1_code (3 : Nat) (Option.none : Option Jvm.ClassFile.FieldType), Jvm.Cond.code ({ cls := "com/example/many_to_leader/manytoleader/bully/CandidatePool", name := "<init>", desc := "(IILcom/example/many_to_leader/manytoleader/bully/PoolSize;Lcom/example/many_to_leader/manytoleader/bully/Timeouts;)V" } : Jvm.MethodName) prog_12_method_1_code (5 : Nat) (Option.none : Option Jvm.ClassFile.FieldType), Jvm.Cond.code ({ cls := "java/util/TreeMap", name := "<init>", desc := "()V" } : Jvm.MethodName) jdk_2729_method_1_code (1 : Nat) (Option.none : Option Jvm.ClassFile.FieldType), Jvm.Cond.code ({ cls := "java/util/AbstractMap", name := "<init>", desc := "()V" } : Jvm.MethodName) jdk_71_method_1_code (1 : Nat) (Option.none : Option Jvm.ClassFile.FieldType), Jvm.Cond.code ({ cls := "com/example/many_to_leader/manytoleader/bully/Timeouts", name := "heartbeatIntervalMillis", desc := "()J" } : Jvm.MethodName) prog_19_method_8_code (1 : Nat) (Option.some Jvm.ClassFile.FieldType.long), Jvm.Cond.code ({ cls := "com/example/many_to_leader/manytoleader/bully/Timeouts", name := "heartbeatTimeoutMillis", desc := "()J" } : Jvm.MethodName) prog_19_method_9_code (1 : Nat) (Option.some Jvm.ClassFile.FieldType.long), Jvm.Cond.code ({ cls := "java/util/ArrayList", name := "<init>", desc := "()V" } : Jvm.MethodName) jdk_38_method_2_code (1 : Nat) (Option.none : Option Jvm.ClassFile.FieldType), Jvm.Cond.code ({ cls := "java/util/AbstractList", name := "<init>", desc := "()V" } : Jvm.MethodName) jdk_39_method_1_code (1 : Nat) (Option.none : Option Jvm.ClassFile.FieldType), Jvm.Cond.code ({ cls := "java/util/AbstractCollection", name := "<init>", desc := "()V" } : Jvm.MethodName) jdk_22_method_1_code (1 : Nat) (Option.none : Option Jvm.ClassFile.FieldType), Jvm.Cond.code ({ cls := "com/example/many_to_leader/manytoleader/bully/CandidatePool", name := "heartbeatDue", desc := "(J)Z" } : Jvm.MethodName) prog_12_method_9_code (4 : Nat) (Option.some Jvm.ClassFile.FieldType.boolean), Jvm.Cond.code ({ cls := "com/example/many_to_leader/manytoleader/bully/CandidatePool", name := "deadline", desc := "()J" } : Jvm.MethodName) prog_12_method_4_code (1 : Nat) (Option.some Jvm.ClassFile.FieldType.long), Jvm.Cond.code ({ cls := "java/lang/Math", name := "min", desc := "(JJ)J" } : Jvm.MethodName) jdk_29_method_70_code (4 : Nat) (Option.some Jvm.ClassFile.FieldType.long), Jvm.Cond.code ({ cls := "com/example/many_to_leader/manytoleader/bully/CandidatePool", name := "isCandidate", desc := "()Z" } : Jvm.MethodName) prog_12_method_3_code (1 : Nat) (Option.some Jvm.ClassFile.FieldType.boolean), Jvm.Cond.code ({ cls := "java/lang/Integer", name := "valueOf", desc := "(I)Ljava/lang/Integer;" } : Jvm.MethodName) jdk_33_method_22_code (1 : Nat) (Option.some (Jvm.ClassFile.FieldType.object "java/lang/Integer")), Jvm.Cond.code ({ cls := "java/util/ArrayList", name := "add", desc := "(Ljava/lang/Object;)Z" } : Jvm.MethodName) jdk_38_method_25_code (2 : Nat) (Option.some Jvm.ClassFile.FieldType.boolean), Jvm.Cond.code ({ cls := "java/util/ArrayList", name := "add", desc := "(Ljava/lang/Object;[Ljava/lang/Object;I)V" } : Jvm.MethodName) jdk_38_method_24_code (4 : Nat) (Option.none : Option Jvm.ClassFile.FieldType), Jvm.Cond.code ({ cls := "java/util/ArrayList", name := "grow", desc := "()[Ljava/lang/Object;" } : Jvm.MethodName) jdk_38_method_7_code (1 : Nat) (Option.some (Jvm.ClassFile.FieldType.array (Jvm.ClassFile.FieldType.object "java/lang/Object"))), Jvm.Cond.code ({ cls := "java/util/ArrayList", name := "grow", desc := "(I)[Ljava/lang/Object;" } : Jvm.MethodName) jdk_38_method_6_code (4 : Nat) (Option.some (Jvm.ClassFile.FieldType.array (Jvm.ClassFile.FieldType.object "java/lang/Object"))), Jvm.Cond.code ({ cls := "java/lang/Math", name := "max", desc := "(II)I" } : Jvm.MethodName) jdk_29_method_65_code (2 : Nat) (Option.some Jvm.ClassFile.FieldType.int), Jvm.Cond.code ({ cls := "com/example/many_to_leader/manytoleader/bully/CandidatePool", name := "assume", desc := "(JLjava/util/Collection;)V" } : Jvm.MethodName) prog_12_method_2_code (6 : Nat) (Option.none : Option Jvm.ClassFile.FieldType), Jvm.Cond.code ({ cls := "java/util/ArrayList", name := "iterator", desc := "()Ljava/util/Iterator;" } : Jvm.MethodName) jdk_38_method_55_code (1 : Nat) (Option.some (Jvm.ClassFile.FieldType.object "java/util/Iterator")), Jvm.Cond.code ({ cls := "java/util/ArrayList$Itr", name := "<init>", desc := "(Ljava/util/ArrayList;)V" } : Jvm.MethodName) jdk_49_method_1_code (2 : Nat) (Option.none : Option Jvm.ClassFile.FieldType), Jvm.Cond.code ({ cls := "java/util/ArrayList$Itr", name := "hasNext", desc := "()Z" } : Jvm.MethodName) jdk_49_method_2_code (1 : Nat) (Option.some Jvm.ClassFile.FieldType.boolean), Jvm.Cond.code ({ cls := "java/util/ArrayList$Itr", name := "next", desc := "()Ljava/lang/Object;" } : Jvm.MethodName) jdk_49_method_3_code (3 : Nat) (Option.some (Jvm.ClassFile.FieldType.object "java/lang/Object")), Jvm.Cond.code ({ cls := "java/util/ArrayList$Itr", name := "checkForComodification", desc := "()V" } : Jvm.MethodName) jdk_49_method_6_code (1 : Nat) (Option.none : Option Jvm.ClassFile.FieldType), Jvm.Cond.code ({ cls := "java/lang/Integer", name := "intValue", desc := "()I" } : Jvm.MethodName) jdk_33_method_27_code (1 : Nat) (Option.some Jvm.ClassFile.FieldType.int), Jvm.Cond.code ({ cls := "java/lang/Integer", name := "<init>", desc := "(I)V" } : Jvm.MethodName) jdk_33_method_23_code (2 : Nat) (Option.none : Option Jvm.ClassFile.FieldType), Jvm.Cond.code ({ cls := "java/lang/Number", name := "<init>", desc := "()V" } : Jvm.MethodName) jdk_18_method_1_code (1 : Nat) (Option.none : Option Jvm.ClassFile.FieldType)]
set_option maxRecDepth 65536 in
theorem codes_eq : words1.filter isCode = codes1 := rfl
theorem w_codes : ∀ c ∈ words1.filter isCode, c.before args0 about1 = true := by
  rw [codes_eq]
  intro c hc
  simp only [codes1, List.mem_cons, List.not_mem_nil, or_false] at hc
  rcases hc with rfl | rfl | rfl | rfl | rfl | rfl | rfl | rfl | rfl | rfl | rfl | rfl | rfl | rfl | rfl | rfl | rfl | rfl | rfl | rfl | rfl | rfl | rfl | rfl | rfl | rfl | rfl | rfl | rfl | rfl | rfl | rfl | rfl
  · exact w_c0
  · exact w_c1
  · exact w_c2
  · exact w_c3
  · exact w_c4
  · exact w_c5
  · exact w_c6
  · exact w_c7
  · exact w_c8
  · exact w_c9
  · exact w_c10
  · exact w_c11
  · exact w_c12
  · exact w_c13
  · exact w_c14
  · exact w_c15
  · exact w_c16
  · exact w_c17
  · exact w_c18
  · exact w_c19
  · exact w_c20
  · exact w_c21
  · exact w_c22
  · exact w_c23
  · exact w_c24
  · exact w_c25
  · exact w_c26
  · exact w_c27
  · exact w_c28
  · exact w_c29
  · exact w_c30
  · exact w_c31
  · exact w_c32
set_option maxRecDepth 65536 in
theorem w_t1 : (words1.take 24).all (fun c => isCode c || c.before args0 about1) = true := by decide +kernel
set_option maxRecDepth 65536 in
theorem w_t2 : ((words1.drop 24).take 24).all (fun c => isCode c || c.before args0 about1) = true := by decide +kernel
set_option maxRecDepth 65536 in
theorem w_t3 : (((words1.drop 24).drop 24).take 24).all (fun c => isCode c || c.before args0 about1) = true := by decide +kernel
set_option maxRecDepth 65536 in
theorem w_t4 : ((((words1.drop 24).drop 24).drop 24).take 24).all (fun c => isCode c || c.before args0 about1) = true := by decide +kernel
set_option maxRecDepth 65536 in
theorem w_t5 : (((((words1.drop 24).drop 24).drop 24).drop 24).take 24).all (fun c => isCode c || c.before args0 about1) = true := by decide +kernel
set_option maxRecDepth 65536 in
theorem w_t6 : ((((((words1.drop 24).drop 24).drop 24).drop 24).drop 24).take 24).all (fun c => isCode c || c.before args0 about1) = true := by decide +kernel
set_option maxRecDepth 65536 in
theorem w_t7 : (((((((words1.drop 24).drop 24).drop 24).drop 24).drop 24).drop 24).take 24).all (fun c => isCode c || c.before args0 about1) = true := by decide +kernel
set_option maxRecDepth 65536 in
theorem w_t8 : ((((((((words1.drop 24).drop 24).drop 24).drop 24).drop 24).drop 24).drop 24).take 24).all (fun c => isCode c || c.before args0 about1) = true := by decide +kernel
set_option maxRecDepth 65536 in
theorem w_t9 : (((((((((words1.drop 24).drop 24).drop 24).drop 24).drop 24).drop 24).drop 24).drop 24).take 24).all (fun c => isCode c || c.before args0 about1) = true := by decide +kernel
set_option maxRecDepth 65536 in
theorem w_t10 : ((((((((((words1.drop 24).drop 24).drop 24).drop 24).drop 24).drop 24).drop 24).drop 24).drop 24).take 24).all (fun c => isCode c || c.before args0 about1) = true := by decide +kernel
set_option maxRecDepth 65536 in
theorem w_t11 : ((((((((((words1.drop 24).drop 24).drop 24).drop 24).drop 24).drop 24).drop 24).drop 24).drop 24).drop 24).all (fun c => isCode c || c.before args0 about1) = true := by decide +kernel
theorem w_tables : (allAtoms (Jvm.Cond.code x code maxLocals ret :: tables_1)).before args0 about1 = true := by
  rw [allAtoms_all]
  show words1.all (fun c => c.before args0 about1) = true
  refine all_split ?_ w_codes
  rw [← List.take_append_drop 24 words1, List.all_append, w_t1, ← List.take_append_drop 24 (words1.drop 24), List.all_append, w_t2, ← List.take_append_drop 24 ((words1.drop 24).drop 24), List.all_append, w_t3, ← List.take_append_drop 24 (((words1.drop 24).drop 24).drop 24), List.all_append, w_t4, ← List.take_append_drop 24 ((((words1.drop 24).drop 24).drop 24).drop 24), List.all_append, w_t5, ← List.take_append_drop 24 (((((words1.drop 24).drop 24).drop 24).drop 24).drop 24), List.all_append, w_t6, ← List.take_append_drop 24 ((((((words1.drop 24).drop 24).drop 24).drop 24).drop 24).drop 24), List.all_append, w_t7, ← List.take_append_drop 24 (((((((words1.drop 24).drop 24).drop 24).drop 24).drop 24).drop 24).drop 24), List.all_append, w_t8, ← List.take_append_drop 24 ((((((((words1.drop 24).drop 24).drop 24).drop 24).drop 24).drop 24).drop 24).drop 24), List.all_append, w_t9, ← List.take_append_drop 24 (((((((((words1.drop 24).drop 24).drop 24).drop 24).drop 24).drop 24).drop 24).drop 24).drop 24), List.all_append, w_t10, w_t11]
  rfl
set_option maxRecDepth 65536 in
theorem w_rest : rest_1_c.before args0 about1 = true := by decide +kernel
set_option maxRecDepth 65536 in
theorem w_case : (Jvm.Cond.and given_1 narrow_1).before args0 about1 = true := by decide +kernel
theorem w_applies : (headSpec (Jvm.Cond.code x code maxLocals ret :: tables_1) room_1).applies x e0.platform about1 = true :=
  (Spec.applies_iff w_frames).mpr ⟨w_running, w_runnable, w_alone, w_named, w_hears, w_ripe, w_room, w_tables⟩
theorem atStart : AtStart classFile x code maxLocals ret World_1 tables_1 room_1 Calls_1 rest_1 Pre_1 launch0 p0 e0 about1 theMethod args0 below0 :=
  ⟨lists_1, trivial, launch0.admits_env _ _ _, launch0.least_env, fairChoices_fair.cas, fairChoices_fair.clock, w_frames, w_args, w_heap, w_applies, trivial, w_rest, w_case⟩
end start1
theorem witness_1 : WitnessClaimed_1 := ⟨start1.p0, start1.e0, start1.about1, start1.theMethod, start1.args0, start1.below0, start1.atStart⟩
end Jvm.Pilot.@@N@@
