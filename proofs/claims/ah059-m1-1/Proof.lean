import JvmDerived
import JvmDerived.Pilot.@@N@@Statement
import JvmDerived.Pilot.@@N@@Code
set_option linter.unusedVariables false
set_option linter.unusedSimpArgs false

namespace Jvm.RoadKit
open Sem ClassFile Op Lib Jvm.Stand Jvm.Free Jvm.LawKit
section New
variable {p : Program} {l : Launch} {e : Env} {R : Room} {s : State} {m : MethodId} {args : Array Value} {below : List Frame} {meth : Method} {c : Code} {T : State} {locs : List Loc} {cells slots : Nat}
theorem retI (X : Stand p l e R s m args below meth c T locs cells slots) (hx : p.tables.exec = Jvm.exec) {pc : Nat} {Ls : Array Slot} {z : Int32} {rest : List Value} (hret : meth.sig.returnType = some .int) (hd : decode c.code pc = .ok (.ireturn, 1)) {fs : List Frame}
    (hl : ∀ (f : JFrame) (acts : List Action), f.method = m → f.locked = none → f.entered = [] → (doReturn e (T.setTop f) acts (some (.int z))).1 = T.setFrames fs) : Steps p.tables e below (T.setTop (mkF m pc Ls (.int z :: rest))) (T.setFrames fs) :=
  retOut X hx hret rfl (Or.inl ⟨rfl, Or.inl rfl, z, rfl⟩) hd hl
theorem own_retL (X : Stand p l e R s m args below meth c T locs cells slots) (hx : p.tables.exec = Jvm.exec) {pc : Nat} {Ls : Array Slot} {z : Int64} {rest : List Value} (hret : meth.sig.returnType = some .long) (hd : decode c.code pc = .ok (.lreturn, 1)) {fs : List Frame}
    (hl : ∀ (f : JFrame) (acts : List Action), f.method = m → f.locked = none → f.entered = [] → (doReturn e (T.setTop f) acts (some (.long z))).1 = T.setFrames fs) : Steps p.tables e below (T.setTop (mkF m pc Ls (.long z :: rest))) (T.setFrames fs) :=
  retOut X hx hret rfl (Or.inr (Or.inl ⟨rfl, rfl, z, rfl⟩)) hd hl
theorem own_retA (X : Stand p l e R s m args below meth c T locs cells slots) (hx : p.tables.exec = Jvm.exec) {pc : Nat} {Ls : Array Slot} {w : Value} {t : FieldType} {rest : List Value} (hret : meth.sig.returnType = some t) (ht : t.isReference = true) (hw : w.isRef = true) (hd : decode c.code pc = .ok (.areturn, 1)) {fs : List Frame}
    (hl : ∀ (f : JFrame) (acts : List Action), f.method = m → f.locked = none → f.entered = [] → (doReturn e (T.setTop f) acts (some w)).1 = T.setFrames fs) : Steps p.tables e below (T.setTop (mkF m pc Ls (w :: rest))) (T.setFrames fs) :=
  retOut X hx hret (by cases t <;> first | (cases ht; done) | (cases w <;> first | rfl | cases hw)) (Or.inr (Or.inr (Or.inr (Or.inr ⟨rfl, ht, hw⟩)))) hd hl
theorem own_back {tb : Tables} {e : Env} {below : List Frame} {a b : State} {P : State → Outcome → Prop} (h : ∀ t, Steps tb e below b t → Steps tb e below a t) (k : ∃ t o, Steps tb e below b t ∧ P t o) : ∃ t o, Steps tb e below a t ∧ P t o := by
  obtain ⟨t, o, k1, k2⟩ := k
  exact ⟨t, o, h t k1, k2⟩
theorem own_sta_keep {Z : State} {h h' : Heap} {C n d : String} {v : Value} (F : Sta Z h C n d v) (K : Keep h h' []) : Sta Z h' C n d v := by
  obtain ⟨cf, i, k, f, st, cell, h1, h2, h3, h4, h5, r⟩ := F
  exact ⟨cf, i, k, f, st, cell, h1, h2, h3, h4, K.2.1 _ _ h5 nin0, r⟩
def ElA (Z : State) (h : Heap) (a : Addr) (ty : FieldType) (j : Int32) (v : Value) : Prop := ∃ c : Cell, Arr Z h a c ty ∧ ¬ (j < 0 ∨ c.slots.size ≤ j.toNatClampNeg) ∧ c.slots[j.toNatClampNeg]? = some v
theorem ElA.lt {Z : State} {h : Heap} {a : Addr} {ty : FieldType} {j : Int32} {v : Value} (F : ElA Z h a ty j v) : a < h.size := by obtain ⟨c, A, -⟩ := F; exact A.lt
theorem ElA.ext {Z : State} {h h' : Heap} {a : Addr} {ty : FieldType} {j : Int32} {v : Value} (F : ElA Z h a ty j v) (E : Ext h h') : ElA Z h' a ty j v := by obtain ⟨c, A, r⟩ := F; exact ⟨c, A.ext E, r⟩
theorem ElA.other {Z : State} {h h' : Heap} {a b : Addr} {ty : FieldType} {j : Int32} {v w : Value} {sl : Nat} (F : ElA Z h b ty j v) (W : Wr h h' a sl w) (q : b ≠ a) : ElA Z h' b ty j v := by obtain ⟨c, A, r⟩ := F; exact ⟨c, A.other W q, r⟩
theorem ElA.keep {Z : State} {h h' : Heap} {a : Addr} {ty : FieldType} {j : Int32} {v : Value} {ws : List Addr} (F : ElA Z h a ty j v) (K : Keep h h' ws) (q : a ∉ ws) : ElA Z h' a ty j v := by obtain ⟨c, A, r⟩ := F; exact ⟨c, ⟨K.2.1 a c A.1 q, A.2⟩, r⟩
theorem ElA.store {Z : State} {h h' : Heap} {a : Addr} {ty : FieldType} {j : Int32} {v : Value} {c : Cell} (A : Arr Z h a c ty) (hj : ¬ (j < 0 ∨ c.slots.size ≤ j.toNatClampNeg)) (W : Wr h h' a j.toNatClampNeg v) : ElA Z h' a ty j v :=
  ⟨_, A.same W, by rw [sz_set]; exact hj, get_hit hj rfl⟩
theorem own_same {P : Prop} (h : P) : P := h
theorem own_irr (x : Int32) : ¬ x < x := by rw [Int32.lt_iff_toInt_lt]; omega
theorem own_irrL (x : Int64) : ¬ x < x := by rw [Int64.lt_iff_toInt_lt]; omega
end New
end Jvm.RoadKit
namespace Jvm.Pilot.@@N@@
open Jvm Jvm.ClassFile Sem Op Lib Jvm.Free Jvm.Stand Jvm.LawKit Jvm.RoadKit Bundle Jvm.Pilot.@@N@@.Jvm.D

theorem own_inst {Z : State} {aw : Array Value} {C : String} {n : Nat} (w : (Jvm.Cond.instantiable C n).before aw Z = true) : ∃ c k, Z.vm.findClass C = some c ∧ Z.vm.classes[c]? = some k ∧ k.kind = .ordinary ∧ k.isInterface = false := by
  cases hc : Z.vm.findClass C with
  | none => simp [Cond.before, Cond.holds, Cond.value, hc] at w
  | some c =>
    cases hk : Z.vm.classes[c]? with
    | none => simp [Cond.before, Cond.holds, Cond.value, hc, hk] at w
    | some k =>
      simp [Cond.before, Cond.holds, Cond.value, hc, hk] at w
      exact ⟨c, k, rfl, hk, w.1.1.1, w.1.1.2.1⟩
theorem own_root {Z : State} {aw : Array Value} {O K : String} {n : Nat} (w : (Jvm.Cond.noSuperclass O).before aw Z = true) (wk : (Jvm.Cond.instantiable K n).before aw Z = true) (hn : O ≠ K) : NS Z O K := by
  obtain ⟨c, k, h1, h2, h3, -, -⟩ := Cond.noSuperclass_spec w
  obtain ⟨t, -, g1, -⟩ := own_inst wk
  have ne := ids_ne h1 g1 hn
  refine ⟨c, t, h1, g1, fun fuel => ?_⟩
  cases fuel with
  | zero => rfl
  | succ f => simp [Vm.isSubclassAux, ne, h2, h3]
theorem own_no {Z : State} {aw : Array Value} {C S K : String} {n : Nat} (w : (Jvm.Cond.superclass C S).before aw Z = true) (wk : (Jvm.Cond.instantiable K n).before aw Z = true) (ns : NS Z C K) (hn : C ≠ K) : ∃ c t, Z.vm.findClass C = some c ∧ Z.vm.findClass K = some t ∧ Z.vm.assignable c t = false := by
  obtain ⟨c, t, h0, g0, n3⟩ := ns
  obtain ⟨p, k, kp, h1, h2, h3, h4, h5, -, h7⟩ := Cond.superclass_spec h0 w
  obtain ⟨t', k', g1, g2, g5, g7⟩ := own_inst wk
  cases g0.symm.trans g1
  have ne := ids_ne h0 g0 hn
  refine ⟨c, t, h0, g0, ?_⟩
  show Z.vm.assignableAux (255 + 1) c t = false
  simp [Vm.assignableAux, ne, h2, g2, h5, g5, g7, Vm.isSubclass, n3]
def LCache (Z : State) (h : Heap) (wc : Addr) : Prop := ∃ c : Cell, Arr Z h wc c (.object "java/lang/Long") ∧ c.slots.size = 256 ∧ ∀ i : Nat, i < 256 → ∃ b : Addr, c.slots[i]? = some (.ref b) ∧ Exa Z h b "java/lang/Long"
theorem LCache.keep {Z : State} {h h' : Heap} {wc : Addr} (F : LCache Z h wc) (K : Keep h h' []) : LCache Z h' wc := by
  obtain ⟨c, A, S, H⟩ := F
  refine ⟨c, ⟨K.2.1 _ _ A.1 nin0, A.2⟩, S, fun i hi => ?_⟩
  obtain ⟨b, h1, h2⟩ := H i hi
  exact ⟨b, h1, h2.keep K⟩
theorem own_ci (q : Int64) (h1 : ¬ (q < (-128 : Int64))) (h2 : ¬ ((127 : Int64) < q)) : ¬ ((q.toInt32) + (128 : Int32)) < 0 ∧ ((q.toInt32) + (128 : Int32)).toNatClampNeg < 256 := by
  have k1 : (-128 : Int64).toInt = -128 := rfl
  have k2 : (127 : Int64).toInt = 127 := rfl
  have k3 : (128 : Int32).toInt = 128 := rfl
  have k0 : (0 : Int32).toInt = 0 := rfl
  rw [Int64.lt_iff_toInt_lt, k1] at h1
  rw [Int64.lt_iff_toInt_lt, k2] at h2
  have h3 := c_l2i q
  have h4 := c_iadd q.toInt32 128
  have r1 := rng32 q.toInt32
  have r2 := rng32 (q.toInt32 + 128)
  have n0 : ¬ ((q.toInt32) + (128 : Int32)) < 0 := by rw [Int32.lt_iff_toInt_lt, k0]; omega
  refine ⟨n0, ?_⟩
  have := nat_of n0
  omega
theorem d2_0 : decode jdk_29_method_70_code 0 = .ok (.lload_n 0, 1) := by decide +kernel
theorem d2_1 : decode jdk_29_method_70_code 1 = .ok (.lload_n 2, 1) := by decide +kernel
theorem d2_2 : decode jdk_29_method_70_code 2 = .ok (.lcmp, 1) := by decide +kernel
theorem d2_3 : decode jdk_29_method_70_code 3 = .ok (.ifCond .gt 7, 3) := by decide +kernel
theorem d2_6 : decode jdk_29_method_70_code 6 = .ok (.lload_n 0, 1) := by decide +kernel
theorem d2_7 : decode jdk_29_method_70_code 7 = .ok (.goto 4, 3) := by decide +kernel
theorem d2_10 : decode jdk_29_method_70_code 10 = .ok (.lload_n 2, 1) := by decide +kernel
theorem d2_11 : decode jdk_29_method_70_code 11 = .ok (.lreturn, 1) := by decide +kernel
theorem ef_2 (m : MethodId) (x0 : Int64) (x1 : Int64) : entryFrame m #[(.long x0), (.long x1)] 4 = mkF m 0 #[.val (.long x0), .second, .val (.long x1), .second] [] := by first | (simp [entryFrame, mkF, argsToLocals, Value.category]; done) | rfl
def f2 (q0 : Int64) (q1 : Int64) : Int64 := (if q1 < q0 then q1 else q0)
def Q2 (Z : State) (q0 : Int64) (q1 : Int64) (h0 : Heap) (n0 : Nat) (v : Option Value) (h : Heap) (L : List Loc) : Prop := v = some (.long (f2 q0 q1)) ∧ Fr n0 L ∧ h = h0
set_option maxRecDepth 65536 in
set_option maxHeartbeats 40000000 in
theorem rm2 (l : Launch) (Z : State) (aw : Array Value) (hw : ∀ d ∈ tables_1, d.before aw Z = true) (ws : List Jvm.Cond) (q0 : Int64) (q1 : Int64) (h0 : Heap) (n0 : Nat) (Z0 : n0 ≤ h0.size) :
    MetFree l (⟨"java/lang/Math", "min", "(JJ)J"⟩ : MethodName) (head1 (Jvm.Cond.code (⟨"java/lang/Math", "min", "(JJ)J"⟩ : MethodName) jdk_29_method_70_code 4 (some .long) :: ws) ({ frames := 0, cells := 0, slots := 0, locals := 0 } : Room)) (fun a U => a = #[(.long q0), (.long q1)] ∧ Z.Warmed39 U.vm ∧ U.heap = h0) (fun _ _ _ _ _ => True) (fun _ U o U' => ∃ v L, o = .returned v ∧ Q2 Z q0 q1 h0 n0 v U'.heap L ∧ FrameEnd U o U' L ({ frames := 0, cells := 0, slots := 0, locals := 0 } : Room).cells ({ frames := 0, cells := 0, slots := 0, locals := 0 } : Room).slots) := by
  refine MetFree.of_bodySF (Jvm.Free.JP.mathPlain rfl (by decide +kernel)) hisR ?_
  intro p e s m args below meth c s₁ Bd hml0 hP hK
  obtain ⟨rfl, hZ, hh⟩ := hP
  have hx := Bd.exec
  have hby := Bd.bytes
  have hml : c.maxLocals = 4 := hml0
  have hown : s.vm.findClass "java/lang/Math" = some m.cls := findClass_of_methodNamed Bd.named
  have hnm := (name_of_methodNamed Bd.named Bd.method).1
  have X0 : Stand p l e ({ frames := 0, cells := 0, slots := 0, locals := 0 } : Room) s m #[(.long q0), (.long q1)] below meth c s₁ [] 0 0 := Stand.of_body Bd
  have e0 : s₁.heap = h0 := by rw [← hh, Bd.state]; rfl
  have N0 := Fr.nil n0
  refine own_back (b := s₁.setTop (mkF m 0 #[.val (.long q0), .second, .val (.long q1), .second] [])) (fun t kt => castTop (ef_2 m q0 q1) kt) ?_
  refine own_back (b := s₁.setTop (mkF m 3 #[.val (.long q0), .second, .val (.long q1), .second] [(.int (lcmpW q0 q1))])) (fun t kt => ?_) ?_
  · show Steps p.tables e below (s₁.setTop (mkF m 0 #[.val (.long q0), .second, .val (.long q1), .second] [])) _
    refine XS.lloadN X0.here hx rfl (hb hby d2_0) rfl ?_
    show Steps p.tables e below (s₁.setTop (mkF m 1 #[.val (.long q0), .second, .val (.long q1), .second] [(.long q0)])) _
    refine XS.lloadN X0.here hx rfl (hb hby d2_1) rfl ?_
    show Steps p.tables e below (s₁.setTop (mkF m 2 #[.val (.long q0), .second, .val (.long q1), .second] [(.long q1), (.long q0)])) _
    refine XS.lcmp X0.here hx rfl (hb hby d2_2) rfl ?_
    exact kt
  by_cases hc3_1 : q1 < q0
  · refine own_back (b := s₁.setTop (mkF m 11 #[.val (.long q0), .second, .val (.long q1), .second] [(.long q1)])) (fun t kt => ?_) ?_
    · show Steps p.tables e below (s₁.setTop (mkF m 3 #[.val (.long q0), .second, .val (.long q1), .second] [(.int (lcmpW q0 q1))])) _
      refine XS.ifYes X0.here hx rfl (pc0 := 3) (pc' := 10) rfl (hb hby d2_3) rfl ((if0 _ _).trans (tlt ((lw_gt _ _).mpr hc3_1)).2.2.1) (by decide) (by decide) ?_
      show Steps p.tables e below (s₁.setTop (mkF m 10 #[.val (.long q0), .second, .val (.long q1), .second] [])) _
      refine XS.lloadN X0.here hx rfl (hb hby d2_10) rfl ?_
      exact kt
    obtain ⟨fs, hr, hrun, hended, hW, hsame⟩ := X0.leave (v := some (.long q1)) (fun h => by rw [Bd.returns] at h; cases h) (BodyLoose.notSynchronized Bd)
    refine ⟨_, _, ?_, hrun, hended, _, _, rfl, ?_, ⟨_, rfl⟩, hW, hsame.mono (by decide) (by decide)⟩
    · show Steps p.tables e below (s₁.setTop (mkF m 11 #[.val (.long q0), .second, .val (.long q1), .second] [(.long q1)])) _
      exact own_retL X0 hx Bd.returns (hb hby d2_11) hr
    · show Q2 Z q0 q1 h0 n0 _ s₁.heap _
      rw [e0]
      exact ⟨by rw [show f2 q0 q1 = q1 from by unfold f2; rw [if_pos hc3_1]], N0, rfl⟩
  · refine own_back (b := s₁.setTop (mkF m 11 #[.val (.long q0), .second, .val (.long q1), .second] [(.long q0)])) (fun t kt => ?_) ?_
    · show Steps p.tables e below (s₁.setTop (mkF m 3 #[.val (.long q0), .second, .val (.long q1), .second] [(.int (lcmpW q0 q1))])) _
      refine XS.ifNo X0.here hx rfl (hb hby d2_3) rfl ((if0 _ _).trans (flt (fun q => hc3_1 ((lw_gt _ _).mp q))).2.2.1) ?_
      show Steps p.tables e below (s₁.setTop (mkF m 6 #[.val (.long q0), .second, .val (.long q1), .second] [])) _
      refine XS.lloadN X0.here hx rfl (hb hby d2_6) rfl ?_
      show Steps p.tables e below (s₁.setTop (mkF m 7 #[.val (.long q0), .second, .val (.long q1), .second] [(.long q0)])) _
      refine XS.goto X0.here hx rfl (pc0 := 7) (pc' := 11) rfl (hb hby d2_7) (by decide) (by decide) ?_
      exact kt
    obtain ⟨fs, hr, hrun, hended, hW, hsame⟩ := X0.leave (v := some (.long q0)) (fun h => by rw [Bd.returns] at h; cases h) (BodyLoose.notSynchronized Bd)
    refine ⟨_, _, ?_, hrun, hended, _, _, rfl, ?_, ⟨_, rfl⟩, hW, hsame.mono (by decide) (by decide)⟩
    · show Steps p.tables e below (s₁.setTop (mkF m 11 #[.val (.long q0), .second, .val (.long q1), .second] [(.long q0)])) _
      exact own_retL X0 hx Bd.returns (hb hby d2_11) hr
    · show Q2 Z q0 q1 h0 n0 _ s₁.heap _
      rw [e0]
      exact ⟨by rw [show f2 q0 q1 = q0 from by unfold f2; rw [if_neg hc3_1]], N0, rfl⟩
theorem d3_0 : decode jdk_29_method_66_code 0 = .ok (.lload_n 0, 1) := by decide +kernel
theorem d3_1 : decode jdk_29_method_66_code 1 = .ok (.lload_n 2, 1) := by decide +kernel
theorem d3_2 : decode jdk_29_method_66_code 2 = .ok (.lcmp, 1) := by decide +kernel
theorem d3_3 : decode jdk_29_method_66_code 3 = .ok (.ifCond .lt 7, 3) := by decide +kernel
theorem d3_6 : decode jdk_29_method_66_code 6 = .ok (.lload_n 0, 1) := by decide +kernel
theorem d3_7 : decode jdk_29_method_66_code 7 = .ok (.goto 4, 3) := by decide +kernel
theorem d3_10 : decode jdk_29_method_66_code 10 = .ok (.lload_n 2, 1) := by decide +kernel
theorem d3_11 : decode jdk_29_method_66_code 11 = .ok (.lreturn, 1) := by decide +kernel
theorem ef_3 (m : MethodId) (x0 : Int64) (x1 : Int64) : entryFrame m #[(.long x0), (.long x1)] 4 = mkF m 0 #[.val (.long x0), .second, .val (.long x1), .second] [] := by first | (simp [entryFrame, mkF, argsToLocals, Value.category]; done) | rfl
def f3 (q0 : Int64) (q1 : Int64) : Int64 := (if q0 < q1 then q1 else q0)
def Q3 (Z : State) (q0 : Int64) (q1 : Int64) (h0 : Heap) (n0 : Nat) (v : Option Value) (h : Heap) (L : List Loc) : Prop := v = some (.long (f3 q0 q1)) ∧ Fr n0 L ∧ h = h0
set_option maxRecDepth 65536 in
set_option maxHeartbeats 40000000 in
theorem rm3 (l : Launch) (Z : State) (aw : Array Value) (hw : ∀ d ∈ tables_1, d.before aw Z = true) (ws : List Jvm.Cond) (q0 : Int64) (q1 : Int64) (h0 : Heap) (n0 : Nat) (Z0 : n0 ≤ h0.size) :
    MetFree l (⟨"java/lang/Math", "max", "(JJ)J"⟩ : MethodName) (head1 (Jvm.Cond.code (⟨"java/lang/Math", "max", "(JJ)J"⟩ : MethodName) jdk_29_method_66_code 4 (some .long) :: ws) ({ frames := 0, cells := 0, slots := 0, locals := 0 } : Room)) (fun a U => a = #[(.long q0), (.long q1)] ∧ Z.Warmed39 U.vm ∧ U.heap = h0) (fun _ _ _ _ _ => True) (fun _ U o U' => ∃ v L, o = .returned v ∧ Q3 Z q0 q1 h0 n0 v U'.heap L ∧ FrameEnd U o U' L ({ frames := 0, cells := 0, slots := 0, locals := 0 } : Room).cells ({ frames := 0, cells := 0, slots := 0, locals := 0 } : Room).slots) := by
  refine MetFree.of_bodySF (Jvm.Free.JP.mathPlain rfl (by decide +kernel)) hisR ?_
  intro p e s m args below meth c s₁ Bd hml0 hP hK
  obtain ⟨rfl, hZ, hh⟩ := hP
  have hx := Bd.exec
  have hby := Bd.bytes
  have hml : c.maxLocals = 4 := hml0
  have hown : s.vm.findClass "java/lang/Math" = some m.cls := findClass_of_methodNamed Bd.named
  have hnm := (name_of_methodNamed Bd.named Bd.method).1
  have X0 : Stand p l e ({ frames := 0, cells := 0, slots := 0, locals := 0 } : Room) s m #[(.long q0), (.long q1)] below meth c s₁ [] 0 0 := Stand.of_body Bd
  have e0 : s₁.heap = h0 := by rw [← hh, Bd.state]; rfl
  have N0 := Fr.nil n0
  refine own_back (b := s₁.setTop (mkF m 0 #[.val (.long q0), .second, .val (.long q1), .second] [])) (fun t kt => castTop (ef_3 m q0 q1) kt) ?_
  refine own_back (b := s₁.setTop (mkF m 3 #[.val (.long q0), .second, .val (.long q1), .second] [(.int (lcmpW q0 q1))])) (fun t kt => ?_) ?_
  · show Steps p.tables e below (s₁.setTop (mkF m 0 #[.val (.long q0), .second, .val (.long q1), .second] [])) _
    refine XS.lloadN X0.here hx rfl (hb hby d3_0) rfl ?_
    show Steps p.tables e below (s₁.setTop (mkF m 1 #[.val (.long q0), .second, .val (.long q1), .second] [(.long q0)])) _
    refine XS.lloadN X0.here hx rfl (hb hby d3_1) rfl ?_
    show Steps p.tables e below (s₁.setTop (mkF m 2 #[.val (.long q0), .second, .val (.long q1), .second] [(.long q1), (.long q0)])) _
    refine XS.lcmp X0.here hx rfl (hb hby d3_2) rfl ?_
    exact kt
  by_cases hc3_1 : q0 < q1
  · refine own_back (b := s₁.setTop (mkF m 11 #[.val (.long q0), .second, .val (.long q1), .second] [(.long q1)])) (fun t kt => ?_) ?_
    · show Steps p.tables e below (s₁.setTop (mkF m 3 #[.val (.long q0), .second, .val (.long q1), .second] [(.int (lcmpW q0 q1))])) _
      refine XS.ifYes X0.here hx rfl (pc0 := 3) (pc' := 10) rfl (hb hby d3_3) rfl ((if0 _ _).trans (tlt ((lw_lt _ _).mpr hc3_1)).1) (by decide) (by decide) ?_
      show Steps p.tables e below (s₁.setTop (mkF m 10 #[.val (.long q0), .second, .val (.long q1), .second] [])) _
      refine XS.lloadN X0.here hx rfl (hb hby d3_10) rfl ?_
      exact kt
    obtain ⟨fs, hr, hrun, hended, hW, hsame⟩ := X0.leave (v := some (.long q1)) (fun h => by rw [Bd.returns] at h; cases h) (BodyLoose.notSynchronized Bd)
    refine ⟨_, _, ?_, hrun, hended, _, _, rfl, ?_, ⟨_, rfl⟩, hW, hsame.mono (by decide) (by decide)⟩
    · show Steps p.tables e below (s₁.setTop (mkF m 11 #[.val (.long q0), .second, .val (.long q1), .second] [(.long q1)])) _
      exact own_retL X0 hx Bd.returns (hb hby d3_11) hr
    · show Q3 Z q0 q1 h0 n0 _ s₁.heap _
      rw [e0]
      exact ⟨by rw [show f3 q0 q1 = q1 from by unfold f3; rw [if_pos hc3_1]], N0, rfl⟩
  · refine own_back (b := s₁.setTop (mkF m 11 #[.val (.long q0), .second, .val (.long q1), .second] [(.long q0)])) (fun t kt => ?_) ?_
    · show Steps p.tables e below (s₁.setTop (mkF m 3 #[.val (.long q0), .second, .val (.long q1), .second] [(.int (lcmpW q0 q1))])) _
      refine XS.ifNo X0.here hx rfl (hb hby d3_3) rfl ((if0 _ _).trans (flt (fun q => hc3_1 ((lw_lt _ _).mp q))).1) ?_
      show Steps p.tables e below (s₁.setTop (mkF m 6 #[.val (.long q0), .second, .val (.long q1), .second] [])) _
      refine XS.lloadN X0.here hx rfl (hb hby d3_6) rfl ?_
      show Steps p.tables e below (s₁.setTop (mkF m 7 #[.val (.long q0), .second, .val (.long q1), .second] [(.long q0)])) _
      refine XS.goto X0.here hx rfl (pc0 := 7) (pc' := 11) rfl (hb hby d3_7) (by decide) (by decide) ?_
      exact kt
    obtain ⟨fs, hr, hrun, hended, hW, hsame⟩ := X0.leave (v := some (.long q0)) (fun h => by rw [Bd.returns] at h; cases h) (BodyLoose.notSynchronized Bd)
    refine ⟨_, _, ?_, hrun, hended, _, _, rfl, ?_, ⟨_, rfl⟩, hW, hsame.mono (by decide) (by decide)⟩
    · show Steps p.tables e below (s₁.setTop (mkF m 11 #[.val (.long q0), .second, .val (.long q1), .second] [(.long q0)])) _
      exact own_retL X0 hx Bd.returns (hb hby d3_11) hr
    · show Q3 Z q0 q1 h0 n0 _ s₁.heap _
      rw [e0]
      exact ⟨by rw [show f3 q0 q1 = q0 from by unfold f3; rw [if_neg hc3_1]], N0, rfl⟩
theorem d1_0 : decode method_2_code 0 = .ok (.lload_n 0, 1) := by decide +kernel
theorem d1_1 : decode method_2_code 1 = .ok (.ldc2_w 9, 3) := by decide +kernel
theorem d1_4 : decode method_2_code 4 = .ok (.land, 1) := by decide +kernel
theorem d1_5 : decode method_2_code 5 = .ok (.lstore 4, 2) := by decide +kernel
theorem d1_7 : decode method_2_code 7 = .ok (.lload_n 2, 1) := by decide +kernel
theorem d1_8 : decode method_2_code 8 = .ok (.ldc2_w 9, 3) := by decide +kernel
theorem d1_11 : decode method_2_code 11 = .ok (.land, 1) := by decide +kernel
theorem d1_12 : decode method_2_code 12 = .ok (.lstore 6, 2) := by decide +kernel
theorem d1_14 : decode method_2_code 14 = .ok (.lload 4, 2) := by decide +kernel
theorem d1_16 : decode method_2_code 16 = .ok (.lload 6, 2) := by decide +kernel
theorem d1_18 : decode method_2_code 18 = .ok (.invokestatic 11, 3) := by decide +kernel
theorem d1_21 : decode method_2_code 21 = .ok (.lstore 8, 2) := by decide +kernel
theorem d1_23 : decode method_2_code 23 = .ok (.lload 4, 2) := by decide +kernel
theorem d1_25 : decode method_2_code 25 = .ok (.lload 6, 2) := by decide +kernel
theorem d1_27 : decode method_2_code 27 = .ok (.invokestatic 17, 3) := by decide +kernel
theorem d1_30 : decode method_2_code 30 = .ok (.lstore 10, 2) := by decide +kernel
theorem d1_32 : decode method_2_code 32 = .ok (.lload 8, 2) := by decide +kernel
theorem d1_34 : decode method_2_code 34 = .ok (.lload 10, 2) := by decide +kernel
theorem d1_36 : decode method_2_code 36 = .ok (.lcmp, 1) := by decide +kernel
theorem d1_37 : decode method_2_code 37 = .ok (.ifCond .ne 17, 3) := by decide +kernel
theorem d1_40 : decode method_2_code 40 = .ok (.lload 10, 2) := by decide +kernel
theorem d1_42 : decode method_2_code 42 = .ok (.ldc2_w 9, 3) := by decide +kernel
theorem d1_45 : decode method_2_code 45 = .ok (.lcmp, 1) := by decide +kernel
theorem d1_46 : decode method_2_code 46 = .ok (.ifCond .ne 8, 3) := by decide +kernel
theorem d1_49 : decode method_2_code 49 = .ok (.lload 8, 2) := by decide +kernel
theorem d1_51 : decode method_2_code 51 = .ok (.lconst 1, 1) := by decide +kernel
theorem d1_52 : decode method_2_code 52 = .ok (.lsub, 1) := by decide +kernel
theorem d1_53 : decode method_2_code 53 = .ok (.lreturn, 1) := by decide +kernel
theorem d1_54 : decode method_2_code 54 = .ok (.lload 8, 2) := by decide +kernel
theorem d1_56 : decode method_2_code 56 = .ok (.lreturn, 1) := by decide +kernel
theorem pn_1 : plainName "com/example/byteloom/byteloom/ByteRangeEqualsPinLaw" = true := by first | (simp [plainName, overriddenIn]; done) | decide +kernel
theorem pd_1_0 : parseMethodDescriptor "(JJ)J" = some ⟨[.long, .long], some .long⟩ := by decide +kernel
theorem ef_1 (m : MethodId) (x0 : Int64) (x1 : Int64) : entryFrame m #[(.long x0), (.long x1)] 12 = mkF m 0 #[.val (.long x0), .second, .val (.long x1), .second, .unset, .unset, .unset, .unset, .unset, .unset, .unset, .unset] [] := by first | (simp [entryFrame, mkF, argsToLocals, Value.category]; done) | rfl
def f1 (q0 : Int64) (q1 : Int64) : Int64 := (if (f2 (q0 &&& (9223372036854775807 : Int64)) (q1 &&& (9223372036854775807 : Int64))) = (f3 (q0 &&& (9223372036854775807 : Int64)) (q1 &&& (9223372036854775807 : Int64))) then (if (f3 (q0 &&& (9223372036854775807 : Int64)) (q1 &&& (9223372036854775807 : Int64))) = (9223372036854775807 : Int64) then ((f2 (q0 &&& (9223372036854775807 : Int64)) (q1 &&& (9223372036854775807 : Int64))) - (1 : Int64)) else (f2 (q0 &&& (9223372036854775807 : Int64)) (q1 &&& (9223372036854775807 : Int64)))) else (f2 (q0 &&& (9223372036854775807 : Int64)) (q1 &&& (9223372036854775807 : Int64))))
def Q1 (Z : State) (q0 : Int64) (q1 : Int64) (h0 : Heap) (n0 : Nat) (v : Option Value) (h : Heap) (L : List Loc) : Prop := v = some (.long (f1 q0 q1)) ∧ Fr n0 L ∧ h = h0
set_option maxRecDepth 65536 in
set_option maxHeartbeats 40000000 in
theorem rm1 (l : Launch) (Z : State) (aw : Array Value) (hw : ∀ d ∈ tables_1, d.before aw Z = true) (ws : List Jvm.Cond) (q0 : Int64) (q1 : Int64) (h0 : Heap) (n0 : Nat) (Z0 : n0 ≤ h0.size) :
    MetFree l (⟨"com/example/byteloom/byteloom/ByteRangeEqualsPinLaw", "lo", "(JJ)J"⟩ : MethodName) (head1 (Jvm.Cond.code (⟨"com/example/byteloom/byteloom/ByteRangeEqualsPinLaw", "lo", "(JJ)J"⟩ : MethodName) method_2_code 12 (some .long) :: ws) ({ frames := 1, cells := 0, slots := 0, locals := 15 } : Room)) (fun a U => a = #[(.long q0), (.long q1)] ∧ Z.Warmed39 U.vm ∧ U.heap = h0) (fun _ _ _ _ _ => True) (fun _ U o U' => ∃ v L, o = .returned v ∧ Q1 Z q0 q1 h0 n0 v U'.heap L ∧ FrameEnd U o U' L ({ frames := 1, cells := 0, slots := 0, locals := 15 } : Room).cells ({ frames := 1, cells := 0, slots := 0, locals := 15 } : Room).slots) := by
  refine MetFree.of_bodySF (plainFor_of_name pn_1) hisR ?_
  intro p e s m args below meth c s₁ Bd hml0 hP hK
  obtain ⟨rfl, hZ, hh⟩ := hP
  have hx := Bd.exec
  have hby := Bd.bytes
  have hml : c.maxLocals = 12 := hml0
  have hown : s.vm.findClass "com/example/byteloom/byteloom/ByteRangeEqualsPinLaw" = some m.cls := findClass_of_methodNamed Bd.named
  have hnm := (name_of_methodNamed Bd.named Bd.method).1
  have X0 : Stand p l e ({ frames := 1, cells := 0, slots := 0, locals := 15 } : Room) s m #[(.long q0), (.long q1)] below meth c s₁ [] 0 0 := Stand.of_body Bd
  have e0 : s₁.heap = h0 := by rw [← hh, Bd.state]; rfl
  have N0 := Fr.nil n0
  refine own_back (b := s₁.setTop (mkF m 0 #[.val (.long q0), .second, .val (.long q1), .second, .unset, .unset, .unset, .unset, .unset, .unset, .unset, .unset] [])) (fun t kt => castTop (ef_1 m q0 q1) kt) ?_
  obtain ⟨_, _, ⟨T1, L1, k1, n1⟩, -, X1, ⟨Lc1, hQ1, l1, y1, z1⟩, st1⟩ := Jvm.LawKit.callS X0 hx (y := (⟨"java/lang/Math", "min", "(JJ)J"⟩ : MethodName)) hown (mvT hZ (hw _ (List.mem_of_getElem? (i := 5) rfl))) (mvT hZ (hw _ (List.mem_of_getElem? (i := 6) rfl))) (mvT hZ (hw _ (List.mem_of_getElem? (i := 7) rfl))) (mvT hZ (hw _ (List.mem_of_getElem? (i := 8) rfl))) (by decide) (backOf (W := 0) (rm2 l Z aw hw [] (q0 &&& (9223372036854775807 : Int64)) (q1 &&& (9223372036854775807 : Int64)) h0 n0 Z0 ) hZ (hw _ (List.mem_of_getElem? (i := 8) rfl)) (hw _ (List.mem_of_getElem? (i := 7) rfl)) (by decide) (by decide)) (g := (mkF m 18 #[.val (.long q0), .second, .val (.long q1), .second, .val (.long (q0 &&& (9223372036854775807 : Int64))), .second, .val (.long (q1 &&& (9223372036854775807 : Int64))), .second, .unset, .unset, .unset, .unset] [(.long (q1 &&& (9223372036854775807 : Int64))), (.long (q0 &&& (9223372036854775807 : Int64)))])) rfl (by rw [hml]; rfl) (argsL := [(.long (q0 &&& (9223372036854775807 : Int64))), (.long (q1 &&& (9223372036854775807 : Int64)))]) (rest := []) (lenOf pd_1_0 rfl) rfl (by show 2 * 0 + _ ≤ _; exact Nat.le_of_eq rfl) (hb hby d1_18) (fun _ _ => ⟨rfl, e0, (by decide : 0 + 0 ≤ _), (by decide : 0 + 0 ≤ _)⟩)
  dsimp only [Pt.U, Pt.locs, Pt.cells, Pt.slots] at X1 l1 y1 z1 st1 hQ1
  subst l1 y1 z1
  obtain ⟨rfl, Nq1, e1⟩ := hQ1
  have N1 := Fr.app N0 Nq1
  obtain ⟨_, _, ⟨T2, L2, k2, n2⟩, -, X2, ⟨Lc2, hQ2, l2, y2, z2⟩, st2⟩ := Jvm.LawKit.callS X1 hx (y := (⟨"java/lang/Math", "max", "(JJ)J"⟩ : MethodName)) hown (mvT hZ (hw _ (List.mem_of_getElem? (i := 9) rfl))) (mvT hZ (hw _ (List.mem_of_getElem? (i := 10) rfl))) (mvT hZ (hw _ (List.mem_of_getElem? (i := 7) rfl))) (mvT hZ (hw _ (List.mem_of_getElem? (i := 11) rfl))) (by decide) (backOf (W := 0) (rm3 l Z aw hw [] (q0 &&& (9223372036854775807 : Int64)) (q1 &&& (9223372036854775807 : Int64)) h0 n0 Z0 ) hZ (hw _ (List.mem_of_getElem? (i := 11) rfl)) (hw _ (List.mem_of_getElem? (i := 7) rfl)) (by decide) (by decide)) (g := (mkF m 27 #[.val (.long q0), .second, .val (.long q1), .second, .val (.long (q0 &&& (9223372036854775807 : Int64))), .second, .val (.long (q1 &&& (9223372036854775807 : Int64))), .second, .val (.long (f2 (q0 &&& (9223372036854775807 : Int64)) (q1 &&& (9223372036854775807 : Int64)))), .second, .unset, .unset] [(.long (q1 &&& (9223372036854775807 : Int64))), (.long (q0 &&& (9223372036854775807 : Int64)))])) rfl (by rw [hml]; rfl) (argsL := [(.long (q0 &&& (9223372036854775807 : Int64))), (.long (q1 &&& (9223372036854775807 : Int64)))]) (rest := []) (lenOf pd_1_0 rfl) rfl (by show 2 * 0 + _ ≤ _; exact Nat.le_of_eq rfl) (hb hby d1_27) (fun _ _ => ⟨rfl, e1, (by decide : 0 + 0 ≤ _), (by decide : 0 + 0 ≤ _)⟩)
  dsimp only [Pt.U, Pt.locs, Pt.cells, Pt.slots] at X2 l2 y2 z2 st2 hQ2
  subst l2 y2 z2
  obtain ⟨rfl, Nq2, e2⟩ := hQ2
  have N2 := Fr.app N1 Nq2
  refine own_back (b := T2.setTop (mkF m 37 #[.val (.long q0), .second, .val (.long q1), .second, .val (.long (q0 &&& (9223372036854775807 : Int64))), .second, .val (.long (q1 &&& (9223372036854775807 : Int64))), .second, .val (.long (f2 (q0 &&& (9223372036854775807 : Int64)) (q1 &&& (9223372036854775807 : Int64)))), .second, .val (.long (f3 (q0 &&& (9223372036854775807 : Int64)) (q1 &&& (9223372036854775807 : Int64)))), .second] [(.int (lcmpW (f2 (q0 &&& (9223372036854775807 : Int64)) (q1 &&& (9223372036854775807 : Int64))) (f3 (q0 &&& (9223372036854775807 : Int64)) (q1 &&& (9223372036854775807 : Int64)))))])) (fun t kt => ?_) ?_
  · show Steps p.tables e below (s₁.setTop (mkF m 0 #[.val (.long q0), .second, .val (.long q1), .second, .unset, .unset, .unset, .unset, .unset, .unset, .unset, .unset] [])) _
    refine XS.lloadN X0.here hx rfl (hb hby d1_0) rfl ?_
    show Steps p.tables e below (s₁.setTop (mkF m 1 #[.val (.long q0), .second, .val (.long q1), .second, .unset, .unset, .unset, .unset, .unset, .unset, .unset, .unset] [(.long q0)])) _
    refine X0.ldc2Long hx hown (mvT hZ (hw _ (List.mem_of_getElem? (i := 4) rfl))) (g := (mkF m 1 #[.val (.long q0), .second, .val (.long q1), .second, .unset, .unset, .unset, .unset, .unset, .unset, .unset, .unset] [(.long q0)])) rfl (hb hby d1_1) _ ?_
    show Steps p.tables e below (s₁.setTop (mkF m 4 #[.val (.long q0), .second, .val (.long q1), .second, .unset, .unset, .unset, .unset, .unset, .unset, .unset, .unset] [(.long (9223372036854775807 : Int64)), (.long q0)])) _
    refine XS.land X0.here hx rfl (hb hby d1_4) rfl ?_
    show Steps p.tables e below (s₁.setTop (mkF m 5 #[.val (.long q0), .second, .val (.long q1), .second, .unset, .unset, .unset, .unset, .unset, .unset, .unset, .unset] [(.long (q0 &&& (9223372036854775807 : Int64)))])) _
    refine XS.lstore X0.here hx rfl (hb hby d1_5) rfl (l' := #[.val (.long q0), .second, .val (.long q1), .second, .val (.long (q0 &&& (9223372036854775807 : Int64))), .second, .unset, .unset, .unset, .unset, .unset, .unset]) rfl ?_
    show Steps p.tables e below (s₁.setTop (mkF m 7 #[.val (.long q0), .second, .val (.long q1), .second, .val (.long (q0 &&& (9223372036854775807 : Int64))), .second, .unset, .unset, .unset, .unset, .unset, .unset] [])) _
    refine XS.lloadN X0.here hx rfl (hb hby d1_7) rfl ?_
    show Steps p.tables e below (s₁.setTop (mkF m 8 #[.val (.long q0), .second, .val (.long q1), .second, .val (.long (q0 &&& (9223372036854775807 : Int64))), .second, .unset, .unset, .unset, .unset, .unset, .unset] [(.long q1)])) _
    refine X0.ldc2Long hx hown (mvT hZ (hw _ (List.mem_of_getElem? (i := 4) rfl))) (g := (mkF m 8 #[.val (.long q0), .second, .val (.long q1), .second, .val (.long (q0 &&& (9223372036854775807 : Int64))), .second, .unset, .unset, .unset, .unset, .unset, .unset] [(.long q1)])) rfl (hb hby d1_8) _ ?_
    show Steps p.tables e below (s₁.setTop (mkF m 11 #[.val (.long q0), .second, .val (.long q1), .second, .val (.long (q0 &&& (9223372036854775807 : Int64))), .second, .unset, .unset, .unset, .unset, .unset, .unset] [(.long (9223372036854775807 : Int64)), (.long q1)])) _
    refine XS.land X0.here hx rfl (hb hby d1_11) rfl ?_
    show Steps p.tables e below (s₁.setTop (mkF m 12 #[.val (.long q0), .second, .val (.long q1), .second, .val (.long (q0 &&& (9223372036854775807 : Int64))), .second, .unset, .unset, .unset, .unset, .unset, .unset] [(.long (q1 &&& (9223372036854775807 : Int64)))])) _
    refine XS.lstore X0.here hx rfl (hb hby d1_12) rfl (l' := #[.val (.long q0), .second, .val (.long q1), .second, .val (.long (q0 &&& (9223372036854775807 : Int64))), .second, .val (.long (q1 &&& (9223372036854775807 : Int64))), .second, .unset, .unset, .unset, .unset]) rfl ?_
    show Steps p.tables e below (s₁.setTop (mkF m 14 #[.val (.long q0), .second, .val (.long q1), .second, .val (.long (q0 &&& (9223372036854775807 : Int64))), .second, .val (.long (q1 &&& (9223372036854775807 : Int64))), .second, .unset, .unset, .unset, .unset] [])) _
    refine XS.lload X0.here hx rfl (hb hby d1_14) rfl ?_
    show Steps p.tables e below (s₁.setTop (mkF m 16 #[.val (.long q0), .second, .val (.long q1), .second, .val (.long (q0 &&& (9223372036854775807 : Int64))), .second, .val (.long (q1 &&& (9223372036854775807 : Int64))), .second, .unset, .unset, .unset, .unset] [(.long (q0 &&& (9223372036854775807 : Int64)))])) _
    refine XS.lload X0.here hx rfl (hb hby d1_16) rfl ?_
    show Steps p.tables e below (s₁.setTop (mkF m 18 #[.val (.long q0), .second, .val (.long q1), .second, .val (.long (q0 &&& (9223372036854775807 : Int64))), .second, .val (.long (q1 &&& (9223372036854775807 : Int64))), .second, .unset, .unset, .unset, .unset] [(.long (q1 &&& (9223372036854775807 : Int64))), (.long (q0 &&& (9223372036854775807 : Int64)))])) _
    refine st1 _ ?_
    show Steps p.tables e below (T1.setTop (mkF m 21 #[.val (.long q0), .second, .val (.long q1), .second, .val (.long (q0 &&& (9223372036854775807 : Int64))), .second, .val (.long (q1 &&& (9223372036854775807 : Int64))), .second, .unset, .unset, .unset, .unset] [(.long (f2 (q0 &&& (9223372036854775807 : Int64)) (q1 &&& (9223372036854775807 : Int64))))])) _
    refine XS.lstore X1.here hx rfl (hb hby d1_21) rfl (l' := #[.val (.long q0), .second, .val (.long q1), .second, .val (.long (q0 &&& (9223372036854775807 : Int64))), .second, .val (.long (q1 &&& (9223372036854775807 : Int64))), .second, .val (.long (f2 (q0 &&& (9223372036854775807 : Int64)) (q1 &&& (9223372036854775807 : Int64)))), .second, .unset, .unset]) rfl ?_
    show Steps p.tables e below (T1.setTop (mkF m 23 #[.val (.long q0), .second, .val (.long q1), .second, .val (.long (q0 &&& (9223372036854775807 : Int64))), .second, .val (.long (q1 &&& (9223372036854775807 : Int64))), .second, .val (.long (f2 (q0 &&& (9223372036854775807 : Int64)) (q1 &&& (9223372036854775807 : Int64)))), .second, .unset, .unset] [])) _
    refine XS.lload X1.here hx rfl (hb hby d1_23) rfl ?_
    show Steps p.tables e below (T1.setTop (mkF m 25 #[.val (.long q0), .second, .val (.long q1), .second, .val (.long (q0 &&& (9223372036854775807 : Int64))), .second, .val (.long (q1 &&& (9223372036854775807 : Int64))), .second, .val (.long (f2 (q0 &&& (9223372036854775807 : Int64)) (q1 &&& (9223372036854775807 : Int64)))), .second, .unset, .unset] [(.long (q0 &&& (9223372036854775807 : Int64)))])) _
    refine XS.lload X1.here hx rfl (hb hby d1_25) rfl ?_
    show Steps p.tables e below (T1.setTop (mkF m 27 #[.val (.long q0), .second, .val (.long q1), .second, .val (.long (q0 &&& (9223372036854775807 : Int64))), .second, .val (.long (q1 &&& (9223372036854775807 : Int64))), .second, .val (.long (f2 (q0 &&& (9223372036854775807 : Int64)) (q1 &&& (9223372036854775807 : Int64)))), .second, .unset, .unset] [(.long (q1 &&& (9223372036854775807 : Int64))), (.long (q0 &&& (9223372036854775807 : Int64)))])) _
    refine st2 _ ?_
    show Steps p.tables e below (T2.setTop (mkF m 30 #[.val (.long q0), .second, .val (.long q1), .second, .val (.long (q0 &&& (9223372036854775807 : Int64))), .second, .val (.long (q1 &&& (9223372036854775807 : Int64))), .second, .val (.long (f2 (q0 &&& (9223372036854775807 : Int64)) (q1 &&& (9223372036854775807 : Int64)))), .second, .unset, .unset] [(.long (f3 (q0 &&& (9223372036854775807 : Int64)) (q1 &&& (9223372036854775807 : Int64))))])) _
    refine XS.lstore X2.here hx rfl (hb hby d1_30) rfl (l' := #[.val (.long q0), .second, .val (.long q1), .second, .val (.long (q0 &&& (9223372036854775807 : Int64))), .second, .val (.long (q1 &&& (9223372036854775807 : Int64))), .second, .val (.long (f2 (q0 &&& (9223372036854775807 : Int64)) (q1 &&& (9223372036854775807 : Int64)))), .second, .val (.long (f3 (q0 &&& (9223372036854775807 : Int64)) (q1 &&& (9223372036854775807 : Int64)))), .second]) rfl ?_
    show Steps p.tables e below (T2.setTop (mkF m 32 #[.val (.long q0), .second, .val (.long q1), .second, .val (.long (q0 &&& (9223372036854775807 : Int64))), .second, .val (.long (q1 &&& (9223372036854775807 : Int64))), .second, .val (.long (f2 (q0 &&& (9223372036854775807 : Int64)) (q1 &&& (9223372036854775807 : Int64)))), .second, .val (.long (f3 (q0 &&& (9223372036854775807 : Int64)) (q1 &&& (9223372036854775807 : Int64)))), .second] [])) _
    refine XS.lload X2.here hx rfl (hb hby d1_32) rfl ?_
    show Steps p.tables e below (T2.setTop (mkF m 34 #[.val (.long q0), .second, .val (.long q1), .second, .val (.long (q0 &&& (9223372036854775807 : Int64))), .second, .val (.long (q1 &&& (9223372036854775807 : Int64))), .second, .val (.long (f2 (q0 &&& (9223372036854775807 : Int64)) (q1 &&& (9223372036854775807 : Int64)))), .second, .val (.long (f3 (q0 &&& (9223372036854775807 : Int64)) (q1 &&& (9223372036854775807 : Int64)))), .second] [(.long (f2 (q0 &&& (9223372036854775807 : Int64)) (q1 &&& (9223372036854775807 : Int64))))])) _
    refine XS.lload X2.here hx rfl (hb hby d1_34) rfl ?_
    show Steps p.tables e below (T2.setTop (mkF m 36 #[.val (.long q0), .second, .val (.long q1), .second, .val (.long (q0 &&& (9223372036854775807 : Int64))), .second, .val (.long (q1 &&& (9223372036854775807 : Int64))), .second, .val (.long (f2 (q0 &&& (9223372036854775807 : Int64)) (q1 &&& (9223372036854775807 : Int64)))), .second, .val (.long (f3 (q0 &&& (9223372036854775807 : Int64)) (q1 &&& (9223372036854775807 : Int64)))), .second] [(.long (f3 (q0 &&& (9223372036854775807 : Int64)) (q1 &&& (9223372036854775807 : Int64)))), (.long (f2 (q0 &&& (9223372036854775807 : Int64)) (q1 &&& (9223372036854775807 : Int64))))])) _
    refine XS.lcmp X2.here hx rfl (hb hby d1_36) rfl ?_
    exact kt
  by_cases hc37_3 : (f2 (q0 &&& (9223372036854775807 : Int64)) (q1 &&& (9223372036854775807 : Int64))) = (f3 (q0 &&& (9223372036854775807 : Int64)) (q1 &&& (9223372036854775807 : Int64)))
  · refine own_back (b := T2.setTop (mkF m 46 #[.val (.long q0), .second, .val (.long q1), .second, .val (.long (q0 &&& (9223372036854775807 : Int64))), .second, .val (.long (q1 &&& (9223372036854775807 : Int64))), .second, .val (.long (f2 (q0 &&& (9223372036854775807 : Int64)) (q1 &&& (9223372036854775807 : Int64)))), .second, .val (.long (f3 (q0 &&& (9223372036854775807 : Int64)) (q1 &&& (9223372036854775807 : Int64)))), .second] [(.int (lcmpW (f3 (q0 &&& (9223372036854775807 : Int64)) (q1 &&& (9223372036854775807 : Int64))) (9223372036854775807 : Int64)))])) (fun t kt => ?_) ?_
    · show Steps p.tables e below (T2.setTop (mkF m 37 #[.val (.long q0), .second, .val (.long q1), .second, .val (.long (q0 &&& (9223372036854775807 : Int64))), .second, .val (.long (q1 &&& (9223372036854775807 : Int64))), .second, .val (.long (f2 (q0 &&& (9223372036854775807 : Int64)) (q1 &&& (9223372036854775807 : Int64)))), .second, .val (.long (f3 (q0 &&& (9223372036854775807 : Int64)) (q1 &&& (9223372036854775807 : Int64)))), .second] [(.int (lcmpW (f2 (q0 &&& (9223372036854775807 : Int64)) (q1 &&& (9223372036854775807 : Int64))) (f3 (q0 &&& (9223372036854775807 : Int64)) (q1 &&& (9223372036854775807 : Int64)))))])) _
      refine XS.ifNo X2.here hx rfl (hb hby d1_37) rfl ((if0 _ _).trans (teq ((lw_eq _ _).mpr hc37_3)).2) ?_
      show Steps p.tables e below (T2.setTop (mkF m 40 #[.val (.long q0), .second, .val (.long q1), .second, .val (.long (q0 &&& (9223372036854775807 : Int64))), .second, .val (.long (q1 &&& (9223372036854775807 : Int64))), .second, .val (.long (f2 (q0 &&& (9223372036854775807 : Int64)) (q1 &&& (9223372036854775807 : Int64)))), .second, .val (.long (f3 (q0 &&& (9223372036854775807 : Int64)) (q1 &&& (9223372036854775807 : Int64)))), .second] [])) _
      refine XS.lload X2.here hx rfl (hb hby d1_40) rfl ?_
      show Steps p.tables e below (T2.setTop (mkF m 42 #[.val (.long q0), .second, .val (.long q1), .second, .val (.long (q0 &&& (9223372036854775807 : Int64))), .second, .val (.long (q1 &&& (9223372036854775807 : Int64))), .second, .val (.long (f2 (q0 &&& (9223372036854775807 : Int64)) (q1 &&& (9223372036854775807 : Int64)))), .second, .val (.long (f3 (q0 &&& (9223372036854775807 : Int64)) (q1 &&& (9223372036854775807 : Int64)))), .second] [(.long (f3 (q0 &&& (9223372036854775807 : Int64)) (q1 &&& (9223372036854775807 : Int64))))])) _
      refine X2.ldc2Long hx hown (mvT hZ (hw _ (List.mem_of_getElem? (i := 4) rfl))) (g := (mkF m 42 #[.val (.long q0), .second, .val (.long q1), .second, .val (.long (q0 &&& (9223372036854775807 : Int64))), .second, .val (.long (q1 &&& (9223372036854775807 : Int64))), .second, .val (.long (f2 (q0 &&& (9223372036854775807 : Int64)) (q1 &&& (9223372036854775807 : Int64)))), .second, .val (.long (f3 (q0 &&& (9223372036854775807 : Int64)) (q1 &&& (9223372036854775807 : Int64)))), .second] [(.long (f3 (q0 &&& (9223372036854775807 : Int64)) (q1 &&& (9223372036854775807 : Int64))))])) rfl (hb hby d1_42) _ ?_
      show Steps p.tables e below (T2.setTop (mkF m 45 #[.val (.long q0), .second, .val (.long q1), .second, .val (.long (q0 &&& (9223372036854775807 : Int64))), .second, .val (.long (q1 &&& (9223372036854775807 : Int64))), .second, .val (.long (f2 (q0 &&& (9223372036854775807 : Int64)) (q1 &&& (9223372036854775807 : Int64)))), .second, .val (.long (f3 (q0 &&& (9223372036854775807 : Int64)) (q1 &&& (9223372036854775807 : Int64)))), .second] [(.long (9223372036854775807 : Int64)), (.long (f3 (q0 &&& (9223372036854775807 : Int64)) (q1 &&& (9223372036854775807 : Int64))))])) _
      refine XS.lcmp X2.here hx rfl (hb hby d1_45) rfl ?_
      exact kt
    by_cases hc46_4 : (f3 (q0 &&& (9223372036854775807 : Int64)) (q1 &&& (9223372036854775807 : Int64))) = (9223372036854775807 : Int64)
    · refine own_back (b := T2.setTop (mkF m 53 #[.val (.long q0), .second, .val (.long q1), .second, .val (.long (q0 &&& (9223372036854775807 : Int64))), .second, .val (.long (q1 &&& (9223372036854775807 : Int64))), .second, .val (.long (f2 (q0 &&& (9223372036854775807 : Int64)) (q1 &&& (9223372036854775807 : Int64)))), .second, .val (.long (f3 (q0 &&& (9223372036854775807 : Int64)) (q1 &&& (9223372036854775807 : Int64)))), .second] [(.long ((f2 (q0 &&& (9223372036854775807 : Int64)) (q1 &&& (9223372036854775807 : Int64))) - (1 : Int64)))])) (fun t kt => ?_) ?_
      · show Steps p.tables e below (T2.setTop (mkF m 46 #[.val (.long q0), .second, .val (.long q1), .second, .val (.long (q0 &&& (9223372036854775807 : Int64))), .second, .val (.long (q1 &&& (9223372036854775807 : Int64))), .second, .val (.long (f2 (q0 &&& (9223372036854775807 : Int64)) (q1 &&& (9223372036854775807 : Int64)))), .second, .val (.long (f3 (q0 &&& (9223372036854775807 : Int64)) (q1 &&& (9223372036854775807 : Int64)))), .second] [(.int (lcmpW (f3 (q0 &&& (9223372036854775807 : Int64)) (q1 &&& (9223372036854775807 : Int64))) (9223372036854775807 : Int64)))])) _
        refine XS.ifNo X2.here hx rfl (hb hby d1_46) rfl ((if0 _ _).trans (teq ((lw_eq _ _).mpr hc46_4)).2) ?_
        show Steps p.tables e below (T2.setTop (mkF m 49 #[.val (.long q0), .second, .val (.long q1), .second, .val (.long (q0 &&& (9223372036854775807 : Int64))), .second, .val (.long (q1 &&& (9223372036854775807 : Int64))), .second, .val (.long (f2 (q0 &&& (9223372036854775807 : Int64)) (q1 &&& (9223372036854775807 : Int64)))), .second, .val (.long (f3 (q0 &&& (9223372036854775807 : Int64)) (q1 &&& (9223372036854775807 : Int64)))), .second] [])) _
        refine XS.lload X2.here hx rfl (hb hby d1_49) rfl ?_
        show Steps p.tables e below (T2.setTop (mkF m 51 #[.val (.long q0), .second, .val (.long q1), .second, .val (.long (q0 &&& (9223372036854775807 : Int64))), .second, .val (.long (q1 &&& (9223372036854775807 : Int64))), .second, .val (.long (f2 (q0 &&& (9223372036854775807 : Int64)) (q1 &&& (9223372036854775807 : Int64)))), .second, .val (.long (f3 (q0 &&& (9223372036854775807 : Int64)) (q1 &&& (9223372036854775807 : Int64)))), .second] [(.long (f2 (q0 &&& (9223372036854775807 : Int64)) (q1 &&& (9223372036854775807 : Int64))))])) _
        refine XS.lconst X2.here hx rfl (hb hby d1_51) ?_
        show Steps p.tables e below (T2.setTop (mkF m 52 #[.val (.long q0), .second, .val (.long q1), .second, .val (.long (q0 &&& (9223372036854775807 : Int64))), .second, .val (.long (q1 &&& (9223372036854775807 : Int64))), .second, .val (.long (f2 (q0 &&& (9223372036854775807 : Int64)) (q1 &&& (9223372036854775807 : Int64)))), .second, .val (.long (f3 (q0 &&& (9223372036854775807 : Int64)) (q1 &&& (9223372036854775807 : Int64)))), .second] [(.long (1 : Int64)), (.long (f2 (q0 &&& (9223372036854775807 : Int64)) (q1 &&& (9223372036854775807 : Int64))))])) _
        refine XS.lsub X2.here hx rfl (hb hby d1_52) rfl ?_
        exact kt
      obtain ⟨fs, hr, hrun, hended, hW, hsame⟩ := X2.leave (v := some (.long ((f2 (q0 &&& (9223372036854775807 : Int64)) (q1 &&& (9223372036854775807 : Int64))) - (1 : Int64)))) (fun h => by rw [Bd.returns] at h; cases h) (BodyLoose.notSynchronized Bd)
      refine ⟨_, _, ?_, hrun, hended, _, _, rfl, ?_, ⟨_, rfl⟩, hW, hsame.mono (by decide) (by decide)⟩
      · show Steps p.tables e below (T2.setTop (mkF m 53 #[.val (.long q0), .second, .val (.long q1), .second, .val (.long (q0 &&& (9223372036854775807 : Int64))), .second, .val (.long (q1 &&& (9223372036854775807 : Int64))), .second, .val (.long (f2 (q0 &&& (9223372036854775807 : Int64)) (q1 &&& (9223372036854775807 : Int64)))), .second, .val (.long (f3 (q0 &&& (9223372036854775807 : Int64)) (q1 &&& (9223372036854775807 : Int64)))), .second] [(.long ((f2 (q0 &&& (9223372036854775807 : Int64)) (q1 &&& (9223372036854775807 : Int64))) - (1 : Int64)))])) _
        exact own_retL X2 hx Bd.returns (hb hby d1_53) hr
      · show Q1 Z q0 q1 h0 n0 _ T2.heap _
        rw [e2]
        exact ⟨by rw [show f1 q0 q1 = ((f2 (q0 &&& (9223372036854775807 : Int64)) (q1 &&& (9223372036854775807 : Int64))) - (1 : Int64)) from by unfold f1; rw [if_pos hc37_3, if_pos hc46_4]], N2, rfl⟩
    · refine own_back (b := T2.setTop (mkF m 56 #[.val (.long q0), .second, .val (.long q1), .second, .val (.long (q0 &&& (9223372036854775807 : Int64))), .second, .val (.long (q1 &&& (9223372036854775807 : Int64))), .second, .val (.long (f2 (q0 &&& (9223372036854775807 : Int64)) (q1 &&& (9223372036854775807 : Int64)))), .second, .val (.long (f3 (q0 &&& (9223372036854775807 : Int64)) (q1 &&& (9223372036854775807 : Int64)))), .second] [(.long (f2 (q0 &&& (9223372036854775807 : Int64)) (q1 &&& (9223372036854775807 : Int64))))])) (fun t kt => ?_) ?_
      · show Steps p.tables e below (T2.setTop (mkF m 46 #[.val (.long q0), .second, .val (.long q1), .second, .val (.long (q0 &&& (9223372036854775807 : Int64))), .second, .val (.long (q1 &&& (9223372036854775807 : Int64))), .second, .val (.long (f2 (q0 &&& (9223372036854775807 : Int64)) (q1 &&& (9223372036854775807 : Int64)))), .second, .val (.long (f3 (q0 &&& (9223372036854775807 : Int64)) (q1 &&& (9223372036854775807 : Int64)))), .second] [(.int (lcmpW (f3 (q0 &&& (9223372036854775807 : Int64)) (q1 &&& (9223372036854775807 : Int64))) (9223372036854775807 : Int64)))])) _
        refine XS.ifYes X2.here hx rfl (pc0 := 46) (pc' := 54) rfl (hb hby d1_46) rfl ((if0 _ _).trans (feq (fun q => hc46_4 ((lw_eq _ _).mp q))).2) (by decide) (by decide) ?_
        show Steps p.tables e below (T2.setTop (mkF m 54 #[.val (.long q0), .second, .val (.long q1), .second, .val (.long (q0 &&& (9223372036854775807 : Int64))), .second, .val (.long (q1 &&& (9223372036854775807 : Int64))), .second, .val (.long (f2 (q0 &&& (9223372036854775807 : Int64)) (q1 &&& (9223372036854775807 : Int64)))), .second, .val (.long (f3 (q0 &&& (9223372036854775807 : Int64)) (q1 &&& (9223372036854775807 : Int64)))), .second] [])) _
        refine XS.lload X2.here hx rfl (hb hby d1_54) rfl ?_
        exact kt
      obtain ⟨fs, hr, hrun, hended, hW, hsame⟩ := X2.leave (v := some (.long (f2 (q0 &&& (9223372036854775807 : Int64)) (q1 &&& (9223372036854775807 : Int64))))) (fun h => by rw [Bd.returns] at h; cases h) (BodyLoose.notSynchronized Bd)
      refine ⟨_, _, ?_, hrun, hended, _, _, rfl, ?_, ⟨_, rfl⟩, hW, hsame.mono (by decide) (by decide)⟩
      · show Steps p.tables e below (T2.setTop (mkF m 56 #[.val (.long q0), .second, .val (.long q1), .second, .val (.long (q0 &&& (9223372036854775807 : Int64))), .second, .val (.long (q1 &&& (9223372036854775807 : Int64))), .second, .val (.long (f2 (q0 &&& (9223372036854775807 : Int64)) (q1 &&& (9223372036854775807 : Int64)))), .second, .val (.long (f3 (q0 &&& (9223372036854775807 : Int64)) (q1 &&& (9223372036854775807 : Int64)))), .second] [(.long (f2 (q0 &&& (9223372036854775807 : Int64)) (q1 &&& (9223372036854775807 : Int64))))])) _
        exact own_retL X2 hx Bd.returns (hb hby d1_56) hr
      · show Q1 Z q0 q1 h0 n0 _ T2.heap _
        rw [e2]
        exact ⟨by rw [show f1 q0 q1 = (f2 (q0 &&& (9223372036854775807 : Int64)) (q1 &&& (9223372036854775807 : Int64))) from by unfold f1; rw [if_pos hc37_3, if_neg hc46_4]], N2, rfl⟩
  · refine own_back (b := T2.setTop (mkF m 56 #[.val (.long q0), .second, .val (.long q1), .second, .val (.long (q0 &&& (9223372036854775807 : Int64))), .second, .val (.long (q1 &&& (9223372036854775807 : Int64))), .second, .val (.long (f2 (q0 &&& (9223372036854775807 : Int64)) (q1 &&& (9223372036854775807 : Int64)))), .second, .val (.long (f3 (q0 &&& (9223372036854775807 : Int64)) (q1 &&& (9223372036854775807 : Int64)))), .second] [(.long (f2 (q0 &&& (9223372036854775807 : Int64)) (q1 &&& (9223372036854775807 : Int64))))])) (fun t kt => ?_) ?_
    · show Steps p.tables e below (T2.setTop (mkF m 37 #[.val (.long q0), .second, .val (.long q1), .second, .val (.long (q0 &&& (9223372036854775807 : Int64))), .second, .val (.long (q1 &&& (9223372036854775807 : Int64))), .second, .val (.long (f2 (q0 &&& (9223372036854775807 : Int64)) (q1 &&& (9223372036854775807 : Int64)))), .second, .val (.long (f3 (q0 &&& (9223372036854775807 : Int64)) (q1 &&& (9223372036854775807 : Int64)))), .second] [(.int (lcmpW (f2 (q0 &&& (9223372036854775807 : Int64)) (q1 &&& (9223372036854775807 : Int64))) (f3 (q0 &&& (9223372036854775807 : Int64)) (q1 &&& (9223372036854775807 : Int64)))))])) _
      refine XS.ifYes X2.here hx rfl (pc0 := 37) (pc' := 54) rfl (hb hby d1_37) rfl ((if0 _ _).trans (feq (fun q => hc37_3 ((lw_eq _ _).mp q))).2) (by decide) (by decide) ?_
      show Steps p.tables e below (T2.setTop (mkF m 54 #[.val (.long q0), .second, .val (.long q1), .second, .val (.long (q0 &&& (9223372036854775807 : Int64))), .second, .val (.long (q1 &&& (9223372036854775807 : Int64))), .second, .val (.long (f2 (q0 &&& (9223372036854775807 : Int64)) (q1 &&& (9223372036854775807 : Int64)))), .second, .val (.long (f3 (q0 &&& (9223372036854775807 : Int64)) (q1 &&& (9223372036854775807 : Int64)))), .second] [])) _
      refine XS.lload X2.here hx rfl (hb hby d1_54) rfl ?_
      exact kt
    obtain ⟨fs, hr, hrun, hended, hW, hsame⟩ := X2.leave (v := some (.long (f2 (q0 &&& (9223372036854775807 : Int64)) (q1 &&& (9223372036854775807 : Int64))))) (fun h => by rw [Bd.returns] at h; cases h) (BodyLoose.notSynchronized Bd)
    refine ⟨_, _, ?_, hrun, hended, _, _, rfl, ?_, ⟨_, rfl⟩, hW, hsame.mono (by decide) (by decide)⟩
    · show Steps p.tables e below (T2.setTop (mkF m 56 #[.val (.long q0), .second, .val (.long q1), .second, .val (.long (q0 &&& (9223372036854775807 : Int64))), .second, .val (.long (q1 &&& (9223372036854775807 : Int64))), .second, .val (.long (f2 (q0 &&& (9223372036854775807 : Int64)) (q1 &&& (9223372036854775807 : Int64)))), .second, .val (.long (f3 (q0 &&& (9223372036854775807 : Int64)) (q1 &&& (9223372036854775807 : Int64)))), .second] [(.long (f2 (q0 &&& (9223372036854775807 : Int64)) (q1 &&& (9223372036854775807 : Int64))))])) _
      exact own_retL X2 hx Bd.returns (hb hby d1_56) hr
    · show Q1 Z q0 q1 h0 n0 _ T2.heap _
      rw [e2]
      exact ⟨by rw [show f1 q0 q1 = (f2 (q0 &&& (9223372036854775807 : Int64)) (q1 &&& (9223372036854775807 : Int64))) from by unfold f1; rw [if_neg hc37_3]], N2, rfl⟩
theorem d4_0 : decode method_3_code 0 = .ok (.lload_n 0, 1) := by decide +kernel
theorem d4_1 : decode method_3_code 1 = .ok (.ldc2_w 9, 3) := by decide +kernel
theorem d4_4 : decode method_3_code 4 = .ok (.land, 1) := by decide +kernel
theorem d4_5 : decode method_3_code 5 = .ok (.lstore 4, 2) := by decide +kernel
theorem d4_7 : decode method_3_code 7 = .ok (.lload_n 2, 1) := by decide +kernel
theorem d4_8 : decode method_3_code 8 = .ok (.ldc2_w 9, 3) := by decide +kernel
theorem d4_11 : decode method_3_code 11 = .ok (.land, 1) := by decide +kernel
theorem d4_12 : decode method_3_code 12 = .ok (.lstore 6, 2) := by decide +kernel
theorem d4_14 : decode method_3_code 14 = .ok (.lload 4, 2) := by decide +kernel
theorem d4_16 : decode method_3_code 16 = .ok (.lload 6, 2) := by decide +kernel
theorem d4_18 : decode method_3_code 18 = .ok (.invokestatic 11, 3) := by decide +kernel
theorem d4_21 : decode method_3_code 21 = .ok (.lstore 8, 2) := by decide +kernel
theorem d4_23 : decode method_3_code 23 = .ok (.lload 4, 2) := by decide +kernel
theorem d4_25 : decode method_3_code 25 = .ok (.lload 6, 2) := by decide +kernel
theorem d4_27 : decode method_3_code 27 = .ok (.invokestatic 17, 3) := by decide +kernel
theorem d4_30 : decode method_3_code 30 = .ok (.lstore 10, 2) := by decide +kernel
theorem d4_32 : decode method_3_code 32 = .ok (.lload 8, 2) := by decide +kernel
theorem d4_34 : decode method_3_code 34 = .ok (.lload 10, 2) := by decide +kernel
theorem d4_36 : decode method_3_code 36 = .ok (.lcmp, 1) := by decide +kernel
theorem d4_37 : decode method_3_code 37 = .ok (.ifCond .ne 17, 3) := by decide +kernel
theorem d4_40 : decode method_3_code 40 = .ok (.lload 10, 2) := by decide +kernel
theorem d4_42 : decode method_3_code 42 = .ok (.ldc2_w 9, 3) := by decide +kernel
theorem d4_45 : decode method_3_code 45 = .ok (.lcmp, 1) := by decide +kernel
theorem d4_46 : decode method_3_code 46 = .ok (.ifCond .eq 8, 3) := by decide +kernel
theorem d4_49 : decode method_3_code 49 = .ok (.lload 10, 2) := by decide +kernel
theorem d4_51 : decode method_3_code 51 = .ok (.lconst 1, 1) := by decide +kernel
theorem d4_52 : decode method_3_code 52 = .ok (.ladd, 1) := by decide +kernel
theorem d4_53 : decode method_3_code 53 = .ok (.lreturn, 1) := by decide +kernel
theorem d4_54 : decode method_3_code 54 = .ok (.lload 10, 2) := by decide +kernel
theorem d4_56 : decode method_3_code 56 = .ok (.lreturn, 1) := by decide +kernel
theorem pn_4 : plainName "com/example/byteloom/byteloom/ByteRangeEqualsPinLaw" = true := by first | (simp [plainName, overriddenIn]; done) | decide +kernel
theorem pd_4_0 : parseMethodDescriptor "(JJ)J" = some ⟨[.long, .long], some .long⟩ := by decide +kernel
theorem ef_4 (m : MethodId) (x0 : Int64) (x1 : Int64) : entryFrame m #[(.long x0), (.long x1)] 12 = mkF m 0 #[.val (.long x0), .second, .val (.long x1), .second, .unset, .unset, .unset, .unset, .unset, .unset, .unset, .unset] [] := by first | (simp [entryFrame, mkF, argsToLocals, Value.category]; done) | rfl
def f4 (q0 : Int64) (q1 : Int64) : Int64 := (if (f2 (q0 &&& (9223372036854775807 : Int64)) (q1 &&& (9223372036854775807 : Int64))) = (f3 (q0 &&& (9223372036854775807 : Int64)) (q1 &&& (9223372036854775807 : Int64))) then (if (f3 (q0 &&& (9223372036854775807 : Int64)) (q1 &&& (9223372036854775807 : Int64))) = (9223372036854775807 : Int64) then (f3 (q0 &&& (9223372036854775807 : Int64)) (q1 &&& (9223372036854775807 : Int64))) else ((f3 (q0 &&& (9223372036854775807 : Int64)) (q1 &&& (9223372036854775807 : Int64))) + (1 : Int64))) else (f3 (q0 &&& (9223372036854775807 : Int64)) (q1 &&& (9223372036854775807 : Int64))))
def Q4 (Z : State) (q0 : Int64) (q1 : Int64) (h0 : Heap) (n0 : Nat) (v : Option Value) (h : Heap) (L : List Loc) : Prop := v = some (.long (f4 q0 q1)) ∧ Fr n0 L ∧ h = h0
set_option maxRecDepth 65536 in
set_option maxHeartbeats 40000000 in
theorem rm4 (l : Launch) (Z : State) (aw : Array Value) (hw : ∀ d ∈ tables_1, d.before aw Z = true) (ws : List Jvm.Cond) (q0 : Int64) (q1 : Int64) (h0 : Heap) (n0 : Nat) (Z0 : n0 ≤ h0.size) :
    MetFree l (⟨"com/example/byteloom/byteloom/ByteRangeEqualsPinLaw", "hi", "(JJ)J"⟩ : MethodName) (head1 (Jvm.Cond.code (⟨"com/example/byteloom/byteloom/ByteRangeEqualsPinLaw", "hi", "(JJ)J"⟩ : MethodName) method_3_code 12 (some .long) :: ws) ({ frames := 1, cells := 0, slots := 0, locals := 15 } : Room)) (fun a U => a = #[(.long q0), (.long q1)] ∧ Z.Warmed39 U.vm ∧ U.heap = h0) (fun _ _ _ _ _ => True) (fun _ U o U' => ∃ v L, o = .returned v ∧ Q4 Z q0 q1 h0 n0 v U'.heap L ∧ FrameEnd U o U' L ({ frames := 1, cells := 0, slots := 0, locals := 15 } : Room).cells ({ frames := 1, cells := 0, slots := 0, locals := 15 } : Room).slots) := by
  refine MetFree.of_bodySF (plainFor_of_name pn_4) hisR ?_
  intro p e s m args below meth c s₁ Bd hml0 hP hK
  obtain ⟨rfl, hZ, hh⟩ := hP
  have hx := Bd.exec
  have hby := Bd.bytes
  have hml : c.maxLocals = 12 := hml0
  have hown : s.vm.findClass "com/example/byteloom/byteloom/ByteRangeEqualsPinLaw" = some m.cls := findClass_of_methodNamed Bd.named
  have hnm := (name_of_methodNamed Bd.named Bd.method).1
  have X0 : Stand p l e ({ frames := 1, cells := 0, slots := 0, locals := 15 } : Room) s m #[(.long q0), (.long q1)] below meth c s₁ [] 0 0 := Stand.of_body Bd
  have e0 : s₁.heap = h0 := by rw [← hh, Bd.state]; rfl
  have N0 := Fr.nil n0
  refine own_back (b := s₁.setTop (mkF m 0 #[.val (.long q0), .second, .val (.long q1), .second, .unset, .unset, .unset, .unset, .unset, .unset, .unset, .unset] [])) (fun t kt => castTop (ef_4 m q0 q1) kt) ?_
  obtain ⟨_, _, ⟨T1, L1, k1, n1⟩, -, X1, ⟨Lc1, hQ1, l1, y1, z1⟩, st1⟩ := Jvm.LawKit.callS X0 hx (y := (⟨"java/lang/Math", "min", "(JJ)J"⟩ : MethodName)) hown (mvT hZ (hw _ (List.mem_of_getElem? (i := 5) rfl))) (mvT hZ (hw _ (List.mem_of_getElem? (i := 6) rfl))) (mvT hZ (hw _ (List.mem_of_getElem? (i := 7) rfl))) (mvT hZ (hw _ (List.mem_of_getElem? (i := 8) rfl))) (by decide) (backOf (W := 0) (rm2 l Z aw hw [] (q0 &&& (9223372036854775807 : Int64)) (q1 &&& (9223372036854775807 : Int64)) h0 n0 Z0 ) hZ (hw _ (List.mem_of_getElem? (i := 8) rfl)) (hw _ (List.mem_of_getElem? (i := 7) rfl)) (by decide) (by decide)) (g := (mkF m 18 #[.val (.long q0), .second, .val (.long q1), .second, .val (.long (q0 &&& (9223372036854775807 : Int64))), .second, .val (.long (q1 &&& (9223372036854775807 : Int64))), .second, .unset, .unset, .unset, .unset] [(.long (q1 &&& (9223372036854775807 : Int64))), (.long (q0 &&& (9223372036854775807 : Int64)))])) rfl (by rw [hml]; rfl) (argsL := [(.long (q0 &&& (9223372036854775807 : Int64))), (.long (q1 &&& (9223372036854775807 : Int64)))]) (rest := []) (lenOf pd_4_0 rfl) rfl (by show 2 * 0 + _ ≤ _; exact Nat.le_of_eq rfl) (hb hby d4_18) (fun _ _ => ⟨rfl, e0, (by decide : 0 + 0 ≤ _), (by decide : 0 + 0 ≤ _)⟩)
  dsimp only [Pt.U, Pt.locs, Pt.cells, Pt.slots] at X1 l1 y1 z1 st1 hQ1
  subst l1 y1 z1
  obtain ⟨rfl, Nq1, e1⟩ := hQ1
  have N1 := Fr.app N0 Nq1
  obtain ⟨_, _, ⟨T2, L2, k2, n2⟩, -, X2, ⟨Lc2, hQ2, l2, y2, z2⟩, st2⟩ := Jvm.LawKit.callS X1 hx (y := (⟨"java/lang/Math", "max", "(JJ)J"⟩ : MethodName)) hown (mvT hZ (hw _ (List.mem_of_getElem? (i := 9) rfl))) (mvT hZ (hw _ (List.mem_of_getElem? (i := 10) rfl))) (mvT hZ (hw _ (List.mem_of_getElem? (i := 7) rfl))) (mvT hZ (hw _ (List.mem_of_getElem? (i := 11) rfl))) (by decide) (backOf (W := 0) (rm3 l Z aw hw [] (q0 &&& (9223372036854775807 : Int64)) (q1 &&& (9223372036854775807 : Int64)) h0 n0 Z0 ) hZ (hw _ (List.mem_of_getElem? (i := 11) rfl)) (hw _ (List.mem_of_getElem? (i := 7) rfl)) (by decide) (by decide)) (g := (mkF m 27 #[.val (.long q0), .second, .val (.long q1), .second, .val (.long (q0 &&& (9223372036854775807 : Int64))), .second, .val (.long (q1 &&& (9223372036854775807 : Int64))), .second, .val (.long (f2 (q0 &&& (9223372036854775807 : Int64)) (q1 &&& (9223372036854775807 : Int64)))), .second, .unset, .unset] [(.long (q1 &&& (9223372036854775807 : Int64))), (.long (q0 &&& (9223372036854775807 : Int64)))])) rfl (by rw [hml]; rfl) (argsL := [(.long (q0 &&& (9223372036854775807 : Int64))), (.long (q1 &&& (9223372036854775807 : Int64)))]) (rest := []) (lenOf pd_4_0 rfl) rfl (by show 2 * 0 + _ ≤ _; exact Nat.le_of_eq rfl) (hb hby d4_27) (fun _ _ => ⟨rfl, e1, (by decide : 0 + 0 ≤ _), (by decide : 0 + 0 ≤ _)⟩)
  dsimp only [Pt.U, Pt.locs, Pt.cells, Pt.slots] at X2 l2 y2 z2 st2 hQ2
  subst l2 y2 z2
  obtain ⟨rfl, Nq2, e2⟩ := hQ2
  have N2 := Fr.app N1 Nq2
  refine own_back (b := T2.setTop (mkF m 37 #[.val (.long q0), .second, .val (.long q1), .second, .val (.long (q0 &&& (9223372036854775807 : Int64))), .second, .val (.long (q1 &&& (9223372036854775807 : Int64))), .second, .val (.long (f2 (q0 &&& (9223372036854775807 : Int64)) (q1 &&& (9223372036854775807 : Int64)))), .second, .val (.long (f3 (q0 &&& (9223372036854775807 : Int64)) (q1 &&& (9223372036854775807 : Int64)))), .second] [(.int (lcmpW (f2 (q0 &&& (9223372036854775807 : Int64)) (q1 &&& (9223372036854775807 : Int64))) (f3 (q0 &&& (9223372036854775807 : Int64)) (q1 &&& (9223372036854775807 : Int64)))))])) (fun t kt => ?_) ?_
  · show Steps p.tables e below (s₁.setTop (mkF m 0 #[.val (.long q0), .second, .val (.long q1), .second, .unset, .unset, .unset, .unset, .unset, .unset, .unset, .unset] [])) _
    refine XS.lloadN X0.here hx rfl (hb hby d4_0) rfl ?_
    show Steps p.tables e below (s₁.setTop (mkF m 1 #[.val (.long q0), .second, .val (.long q1), .second, .unset, .unset, .unset, .unset, .unset, .unset, .unset, .unset] [(.long q0)])) _
    refine X0.ldc2Long hx hown (mvT hZ (hw _ (List.mem_of_getElem? (i := 4) rfl))) (g := (mkF m 1 #[.val (.long q0), .second, .val (.long q1), .second, .unset, .unset, .unset, .unset, .unset, .unset, .unset, .unset] [(.long q0)])) rfl (hb hby d4_1) _ ?_
    show Steps p.tables e below (s₁.setTop (mkF m 4 #[.val (.long q0), .second, .val (.long q1), .second, .unset, .unset, .unset, .unset, .unset, .unset, .unset, .unset] [(.long (9223372036854775807 : Int64)), (.long q0)])) _
    refine XS.land X0.here hx rfl (hb hby d4_4) rfl ?_
    show Steps p.tables e below (s₁.setTop (mkF m 5 #[.val (.long q0), .second, .val (.long q1), .second, .unset, .unset, .unset, .unset, .unset, .unset, .unset, .unset] [(.long (q0 &&& (9223372036854775807 : Int64)))])) _
    refine XS.lstore X0.here hx rfl (hb hby d4_5) rfl (l' := #[.val (.long q0), .second, .val (.long q1), .second, .val (.long (q0 &&& (9223372036854775807 : Int64))), .second, .unset, .unset, .unset, .unset, .unset, .unset]) rfl ?_
    show Steps p.tables e below (s₁.setTop (mkF m 7 #[.val (.long q0), .second, .val (.long q1), .second, .val (.long (q0 &&& (9223372036854775807 : Int64))), .second, .unset, .unset, .unset, .unset, .unset, .unset] [])) _
    refine XS.lloadN X0.here hx rfl (hb hby d4_7) rfl ?_
    show Steps p.tables e below (s₁.setTop (mkF m 8 #[.val (.long q0), .second, .val (.long q1), .second, .val (.long (q0 &&& (9223372036854775807 : Int64))), .second, .unset, .unset, .unset, .unset, .unset, .unset] [(.long q1)])) _
    refine X0.ldc2Long hx hown (mvT hZ (hw _ (List.mem_of_getElem? (i := 4) rfl))) (g := (mkF m 8 #[.val (.long q0), .second, .val (.long q1), .second, .val (.long (q0 &&& (9223372036854775807 : Int64))), .second, .unset, .unset, .unset, .unset, .unset, .unset] [(.long q1)])) rfl (hb hby d4_8) _ ?_
    show Steps p.tables e below (s₁.setTop (mkF m 11 #[.val (.long q0), .second, .val (.long q1), .second, .val (.long (q0 &&& (9223372036854775807 : Int64))), .second, .unset, .unset, .unset, .unset, .unset, .unset] [(.long (9223372036854775807 : Int64)), (.long q1)])) _
    refine XS.land X0.here hx rfl (hb hby d4_11) rfl ?_
    show Steps p.tables e below (s₁.setTop (mkF m 12 #[.val (.long q0), .second, .val (.long q1), .second, .val (.long (q0 &&& (9223372036854775807 : Int64))), .second, .unset, .unset, .unset, .unset, .unset, .unset] [(.long (q1 &&& (9223372036854775807 : Int64)))])) _
    refine XS.lstore X0.here hx rfl (hb hby d4_12) rfl (l' := #[.val (.long q0), .second, .val (.long q1), .second, .val (.long (q0 &&& (9223372036854775807 : Int64))), .second, .val (.long (q1 &&& (9223372036854775807 : Int64))), .second, .unset, .unset, .unset, .unset]) rfl ?_
    show Steps p.tables e below (s₁.setTop (mkF m 14 #[.val (.long q0), .second, .val (.long q1), .second, .val (.long (q0 &&& (9223372036854775807 : Int64))), .second, .val (.long (q1 &&& (9223372036854775807 : Int64))), .second, .unset, .unset, .unset, .unset] [])) _
    refine XS.lload X0.here hx rfl (hb hby d4_14) rfl ?_
    show Steps p.tables e below (s₁.setTop (mkF m 16 #[.val (.long q0), .second, .val (.long q1), .second, .val (.long (q0 &&& (9223372036854775807 : Int64))), .second, .val (.long (q1 &&& (9223372036854775807 : Int64))), .second, .unset, .unset, .unset, .unset] [(.long (q0 &&& (9223372036854775807 : Int64)))])) _
    refine XS.lload X0.here hx rfl (hb hby d4_16) rfl ?_
    show Steps p.tables e below (s₁.setTop (mkF m 18 #[.val (.long q0), .second, .val (.long q1), .second, .val (.long (q0 &&& (9223372036854775807 : Int64))), .second, .val (.long (q1 &&& (9223372036854775807 : Int64))), .second, .unset, .unset, .unset, .unset] [(.long (q1 &&& (9223372036854775807 : Int64))), (.long (q0 &&& (9223372036854775807 : Int64)))])) _
    refine st1 _ ?_
    show Steps p.tables e below (T1.setTop (mkF m 21 #[.val (.long q0), .second, .val (.long q1), .second, .val (.long (q0 &&& (9223372036854775807 : Int64))), .second, .val (.long (q1 &&& (9223372036854775807 : Int64))), .second, .unset, .unset, .unset, .unset] [(.long (f2 (q0 &&& (9223372036854775807 : Int64)) (q1 &&& (9223372036854775807 : Int64))))])) _
    refine XS.lstore X1.here hx rfl (hb hby d4_21) rfl (l' := #[.val (.long q0), .second, .val (.long q1), .second, .val (.long (q0 &&& (9223372036854775807 : Int64))), .second, .val (.long (q1 &&& (9223372036854775807 : Int64))), .second, .val (.long (f2 (q0 &&& (9223372036854775807 : Int64)) (q1 &&& (9223372036854775807 : Int64)))), .second, .unset, .unset]) rfl ?_
    show Steps p.tables e below (T1.setTop (mkF m 23 #[.val (.long q0), .second, .val (.long q1), .second, .val (.long (q0 &&& (9223372036854775807 : Int64))), .second, .val (.long (q1 &&& (9223372036854775807 : Int64))), .second, .val (.long (f2 (q0 &&& (9223372036854775807 : Int64)) (q1 &&& (9223372036854775807 : Int64)))), .second, .unset, .unset] [])) _
    refine XS.lload X1.here hx rfl (hb hby d4_23) rfl ?_
    show Steps p.tables e below (T1.setTop (mkF m 25 #[.val (.long q0), .second, .val (.long q1), .second, .val (.long (q0 &&& (9223372036854775807 : Int64))), .second, .val (.long (q1 &&& (9223372036854775807 : Int64))), .second, .val (.long (f2 (q0 &&& (9223372036854775807 : Int64)) (q1 &&& (9223372036854775807 : Int64)))), .second, .unset, .unset] [(.long (q0 &&& (9223372036854775807 : Int64)))])) _
    refine XS.lload X1.here hx rfl (hb hby d4_25) rfl ?_
    show Steps p.tables e below (T1.setTop (mkF m 27 #[.val (.long q0), .second, .val (.long q1), .second, .val (.long (q0 &&& (9223372036854775807 : Int64))), .second, .val (.long (q1 &&& (9223372036854775807 : Int64))), .second, .val (.long (f2 (q0 &&& (9223372036854775807 : Int64)) (q1 &&& (9223372036854775807 : Int64)))), .second, .unset, .unset] [(.long (q1 &&& (9223372036854775807 : Int64))), (.long (q0 &&& (9223372036854775807 : Int64)))])) _
    refine st2 _ ?_
    show Steps p.tables e below (T2.setTop (mkF m 30 #[.val (.long q0), .second, .val (.long q1), .second, .val (.long (q0 &&& (9223372036854775807 : Int64))), .second, .val (.long (q1 &&& (9223372036854775807 : Int64))), .second, .val (.long (f2 (q0 &&& (9223372036854775807 : Int64)) (q1 &&& (9223372036854775807 : Int64)))), .second, .unset, .unset] [(.long (f3 (q0 &&& (9223372036854775807 : Int64)) (q1 &&& (9223372036854775807 : Int64))))])) _
    refine XS.lstore X2.here hx rfl (hb hby d4_30) rfl (l' := #[.val (.long q0), .second, .val (.long q1), .second, .val (.long (q0 &&& (9223372036854775807 : Int64))), .second, .val (.long (q1 &&& (9223372036854775807 : Int64))), .second, .val (.long (f2 (q0 &&& (9223372036854775807 : Int64)) (q1 &&& (9223372036854775807 : Int64)))), .second, .val (.long (f3 (q0 &&& (9223372036854775807 : Int64)) (q1 &&& (9223372036854775807 : Int64)))), .second]) rfl ?_
    show Steps p.tables e below (T2.setTop (mkF m 32 #[.val (.long q0), .second, .val (.long q1), .second, .val (.long (q0 &&& (9223372036854775807 : Int64))), .second, .val (.long (q1 &&& (9223372036854775807 : Int64))), .second, .val (.long (f2 (q0 &&& (9223372036854775807 : Int64)) (q1 &&& (9223372036854775807 : Int64)))), .second, .val (.long (f3 (q0 &&& (9223372036854775807 : Int64)) (q1 &&& (9223372036854775807 : Int64)))), .second] [])) _
    refine XS.lload X2.here hx rfl (hb hby d4_32) rfl ?_
    show Steps p.tables e below (T2.setTop (mkF m 34 #[.val (.long q0), .second, .val (.long q1), .second, .val (.long (q0 &&& (9223372036854775807 : Int64))), .second, .val (.long (q1 &&& (9223372036854775807 : Int64))), .second, .val (.long (f2 (q0 &&& (9223372036854775807 : Int64)) (q1 &&& (9223372036854775807 : Int64)))), .second, .val (.long (f3 (q0 &&& (9223372036854775807 : Int64)) (q1 &&& (9223372036854775807 : Int64)))), .second] [(.long (f2 (q0 &&& (9223372036854775807 : Int64)) (q1 &&& (9223372036854775807 : Int64))))])) _
    refine XS.lload X2.here hx rfl (hb hby d4_34) rfl ?_
    show Steps p.tables e below (T2.setTop (mkF m 36 #[.val (.long q0), .second, .val (.long q1), .second, .val (.long (q0 &&& (9223372036854775807 : Int64))), .second, .val (.long (q1 &&& (9223372036854775807 : Int64))), .second, .val (.long (f2 (q0 &&& (9223372036854775807 : Int64)) (q1 &&& (9223372036854775807 : Int64)))), .second, .val (.long (f3 (q0 &&& (9223372036854775807 : Int64)) (q1 &&& (9223372036854775807 : Int64)))), .second] [(.long (f3 (q0 &&& (9223372036854775807 : Int64)) (q1 &&& (9223372036854775807 : Int64)))), (.long (f2 (q0 &&& (9223372036854775807 : Int64)) (q1 &&& (9223372036854775807 : Int64))))])) _
    refine XS.lcmp X2.here hx rfl (hb hby d4_36) rfl ?_
    exact kt
  by_cases hc37_3 : (f2 (q0 &&& (9223372036854775807 : Int64)) (q1 &&& (9223372036854775807 : Int64))) = (f3 (q0 &&& (9223372036854775807 : Int64)) (q1 &&& (9223372036854775807 : Int64)))
  · refine own_back (b := T2.setTop (mkF m 46 #[.val (.long q0), .second, .val (.long q1), .second, .val (.long (q0 &&& (9223372036854775807 : Int64))), .second, .val (.long (q1 &&& (9223372036854775807 : Int64))), .second, .val (.long (f2 (q0 &&& (9223372036854775807 : Int64)) (q1 &&& (9223372036854775807 : Int64)))), .second, .val (.long (f3 (q0 &&& (9223372036854775807 : Int64)) (q1 &&& (9223372036854775807 : Int64)))), .second] [(.int (lcmpW (f3 (q0 &&& (9223372036854775807 : Int64)) (q1 &&& (9223372036854775807 : Int64))) (9223372036854775807 : Int64)))])) (fun t kt => ?_) ?_
    · show Steps p.tables e below (T2.setTop (mkF m 37 #[.val (.long q0), .second, .val (.long q1), .second, .val (.long (q0 &&& (9223372036854775807 : Int64))), .second, .val (.long (q1 &&& (9223372036854775807 : Int64))), .second, .val (.long (f2 (q0 &&& (9223372036854775807 : Int64)) (q1 &&& (9223372036854775807 : Int64)))), .second, .val (.long (f3 (q0 &&& (9223372036854775807 : Int64)) (q1 &&& (9223372036854775807 : Int64)))), .second] [(.int (lcmpW (f2 (q0 &&& (9223372036854775807 : Int64)) (q1 &&& (9223372036854775807 : Int64))) (f3 (q0 &&& (9223372036854775807 : Int64)) (q1 &&& (9223372036854775807 : Int64)))))])) _
      refine XS.ifNo X2.here hx rfl (hb hby d4_37) rfl ((if0 _ _).trans (teq ((lw_eq _ _).mpr hc37_3)).2) ?_
      show Steps p.tables e below (T2.setTop (mkF m 40 #[.val (.long q0), .second, .val (.long q1), .second, .val (.long (q0 &&& (9223372036854775807 : Int64))), .second, .val (.long (q1 &&& (9223372036854775807 : Int64))), .second, .val (.long (f2 (q0 &&& (9223372036854775807 : Int64)) (q1 &&& (9223372036854775807 : Int64)))), .second, .val (.long (f3 (q0 &&& (9223372036854775807 : Int64)) (q1 &&& (9223372036854775807 : Int64)))), .second] [])) _
      refine XS.lload X2.here hx rfl (hb hby d4_40) rfl ?_
      show Steps p.tables e below (T2.setTop (mkF m 42 #[.val (.long q0), .second, .val (.long q1), .second, .val (.long (q0 &&& (9223372036854775807 : Int64))), .second, .val (.long (q1 &&& (9223372036854775807 : Int64))), .second, .val (.long (f2 (q0 &&& (9223372036854775807 : Int64)) (q1 &&& (9223372036854775807 : Int64)))), .second, .val (.long (f3 (q0 &&& (9223372036854775807 : Int64)) (q1 &&& (9223372036854775807 : Int64)))), .second] [(.long (f3 (q0 &&& (9223372036854775807 : Int64)) (q1 &&& (9223372036854775807 : Int64))))])) _
      refine X2.ldc2Long hx hown (mvT hZ (hw _ (List.mem_of_getElem? (i := 4) rfl))) (g := (mkF m 42 #[.val (.long q0), .second, .val (.long q1), .second, .val (.long (q0 &&& (9223372036854775807 : Int64))), .second, .val (.long (q1 &&& (9223372036854775807 : Int64))), .second, .val (.long (f2 (q0 &&& (9223372036854775807 : Int64)) (q1 &&& (9223372036854775807 : Int64)))), .second, .val (.long (f3 (q0 &&& (9223372036854775807 : Int64)) (q1 &&& (9223372036854775807 : Int64)))), .second] [(.long (f3 (q0 &&& (9223372036854775807 : Int64)) (q1 &&& (9223372036854775807 : Int64))))])) rfl (hb hby d4_42) _ ?_
      show Steps p.tables e below (T2.setTop (mkF m 45 #[.val (.long q0), .second, .val (.long q1), .second, .val (.long (q0 &&& (9223372036854775807 : Int64))), .second, .val (.long (q1 &&& (9223372036854775807 : Int64))), .second, .val (.long (f2 (q0 &&& (9223372036854775807 : Int64)) (q1 &&& (9223372036854775807 : Int64)))), .second, .val (.long (f3 (q0 &&& (9223372036854775807 : Int64)) (q1 &&& (9223372036854775807 : Int64)))), .second] [(.long (9223372036854775807 : Int64)), (.long (f3 (q0 &&& (9223372036854775807 : Int64)) (q1 &&& (9223372036854775807 : Int64))))])) _
      refine XS.lcmp X2.here hx rfl (hb hby d4_45) rfl ?_
      exact kt
    by_cases hc46_4 : (f3 (q0 &&& (9223372036854775807 : Int64)) (q1 &&& (9223372036854775807 : Int64))) = (9223372036854775807 : Int64)
    · refine own_back (b := T2.setTop (mkF m 56 #[.val (.long q0), .second, .val (.long q1), .second, .val (.long (q0 &&& (9223372036854775807 : Int64))), .second, .val (.long (q1 &&& (9223372036854775807 : Int64))), .second, .val (.long (f2 (q0 &&& (9223372036854775807 : Int64)) (q1 &&& (9223372036854775807 : Int64)))), .second, .val (.long (f3 (q0 &&& (9223372036854775807 : Int64)) (q1 &&& (9223372036854775807 : Int64)))), .second] [(.long (f3 (q0 &&& (9223372036854775807 : Int64)) (q1 &&& (9223372036854775807 : Int64))))])) (fun t kt => ?_) ?_
      · show Steps p.tables e below (T2.setTop (mkF m 46 #[.val (.long q0), .second, .val (.long q1), .second, .val (.long (q0 &&& (9223372036854775807 : Int64))), .second, .val (.long (q1 &&& (9223372036854775807 : Int64))), .second, .val (.long (f2 (q0 &&& (9223372036854775807 : Int64)) (q1 &&& (9223372036854775807 : Int64)))), .second, .val (.long (f3 (q0 &&& (9223372036854775807 : Int64)) (q1 &&& (9223372036854775807 : Int64)))), .second] [(.int (lcmpW (f3 (q0 &&& (9223372036854775807 : Int64)) (q1 &&& (9223372036854775807 : Int64))) (9223372036854775807 : Int64)))])) _
        refine XS.ifYes X2.here hx rfl (pc0 := 46) (pc' := 54) rfl (hb hby d4_46) rfl ((if0 _ _).trans (teq ((lw_eq _ _).mpr hc46_4)).1) (by decide) (by decide) ?_
        show Steps p.tables e below (T2.setTop (mkF m 54 #[.val (.long q0), .second, .val (.long q1), .second, .val (.long (q0 &&& (9223372036854775807 : Int64))), .second, .val (.long (q1 &&& (9223372036854775807 : Int64))), .second, .val (.long (f2 (q0 &&& (9223372036854775807 : Int64)) (q1 &&& (9223372036854775807 : Int64)))), .second, .val (.long (f3 (q0 &&& (9223372036854775807 : Int64)) (q1 &&& (9223372036854775807 : Int64)))), .second] [])) _
        refine XS.lload X2.here hx rfl (hb hby d4_54) rfl ?_
        exact kt
      obtain ⟨fs, hr, hrun, hended, hW, hsame⟩ := X2.leave (v := some (.long (f3 (q0 &&& (9223372036854775807 : Int64)) (q1 &&& (9223372036854775807 : Int64))))) (fun h => by rw [Bd.returns] at h; cases h) (BodyLoose.notSynchronized Bd)
      refine ⟨_, _, ?_, hrun, hended, _, _, rfl, ?_, ⟨_, rfl⟩, hW, hsame.mono (by decide) (by decide)⟩
      · show Steps p.tables e below (T2.setTop (mkF m 56 #[.val (.long q0), .second, .val (.long q1), .second, .val (.long (q0 &&& (9223372036854775807 : Int64))), .second, .val (.long (q1 &&& (9223372036854775807 : Int64))), .second, .val (.long (f2 (q0 &&& (9223372036854775807 : Int64)) (q1 &&& (9223372036854775807 : Int64)))), .second, .val (.long (f3 (q0 &&& (9223372036854775807 : Int64)) (q1 &&& (9223372036854775807 : Int64)))), .second] [(.long (f3 (q0 &&& (9223372036854775807 : Int64)) (q1 &&& (9223372036854775807 : Int64))))])) _
        exact own_retL X2 hx Bd.returns (hb hby d4_56) hr
      · show Q4 Z q0 q1 h0 n0 _ T2.heap _
        rw [e2]
        exact ⟨by rw [show f4 q0 q1 = (f3 (q0 &&& (9223372036854775807 : Int64)) (q1 &&& (9223372036854775807 : Int64))) from by unfold f4; rw [if_pos hc37_3, if_pos hc46_4]], N2, rfl⟩
    · refine own_back (b := T2.setTop (mkF m 53 #[.val (.long q0), .second, .val (.long q1), .second, .val (.long (q0 &&& (9223372036854775807 : Int64))), .second, .val (.long (q1 &&& (9223372036854775807 : Int64))), .second, .val (.long (f2 (q0 &&& (9223372036854775807 : Int64)) (q1 &&& (9223372036854775807 : Int64)))), .second, .val (.long (f3 (q0 &&& (9223372036854775807 : Int64)) (q1 &&& (9223372036854775807 : Int64)))), .second] [(.long ((f3 (q0 &&& (9223372036854775807 : Int64)) (q1 &&& (9223372036854775807 : Int64))) + (1 : Int64)))])) (fun t kt => ?_) ?_
      · show Steps p.tables e below (T2.setTop (mkF m 46 #[.val (.long q0), .second, .val (.long q1), .second, .val (.long (q0 &&& (9223372036854775807 : Int64))), .second, .val (.long (q1 &&& (9223372036854775807 : Int64))), .second, .val (.long (f2 (q0 &&& (9223372036854775807 : Int64)) (q1 &&& (9223372036854775807 : Int64)))), .second, .val (.long (f3 (q0 &&& (9223372036854775807 : Int64)) (q1 &&& (9223372036854775807 : Int64)))), .second] [(.int (lcmpW (f3 (q0 &&& (9223372036854775807 : Int64)) (q1 &&& (9223372036854775807 : Int64))) (9223372036854775807 : Int64)))])) _
        refine XS.ifNo X2.here hx rfl (hb hby d4_46) rfl ((if0 _ _).trans (feq (fun q => hc46_4 ((lw_eq _ _).mp q))).1) ?_
        show Steps p.tables e below (T2.setTop (mkF m 49 #[.val (.long q0), .second, .val (.long q1), .second, .val (.long (q0 &&& (9223372036854775807 : Int64))), .second, .val (.long (q1 &&& (9223372036854775807 : Int64))), .second, .val (.long (f2 (q0 &&& (9223372036854775807 : Int64)) (q1 &&& (9223372036854775807 : Int64)))), .second, .val (.long (f3 (q0 &&& (9223372036854775807 : Int64)) (q1 &&& (9223372036854775807 : Int64)))), .second] [])) _
        refine XS.lload X2.here hx rfl (hb hby d4_49) rfl ?_
        show Steps p.tables e below (T2.setTop (mkF m 51 #[.val (.long q0), .second, .val (.long q1), .second, .val (.long (q0 &&& (9223372036854775807 : Int64))), .second, .val (.long (q1 &&& (9223372036854775807 : Int64))), .second, .val (.long (f2 (q0 &&& (9223372036854775807 : Int64)) (q1 &&& (9223372036854775807 : Int64)))), .second, .val (.long (f3 (q0 &&& (9223372036854775807 : Int64)) (q1 &&& (9223372036854775807 : Int64)))), .second] [(.long (f3 (q0 &&& (9223372036854775807 : Int64)) (q1 &&& (9223372036854775807 : Int64))))])) _
        refine XS.lconst X2.here hx rfl (hb hby d4_51) ?_
        show Steps p.tables e below (T2.setTop (mkF m 52 #[.val (.long q0), .second, .val (.long q1), .second, .val (.long (q0 &&& (9223372036854775807 : Int64))), .second, .val (.long (q1 &&& (9223372036854775807 : Int64))), .second, .val (.long (f2 (q0 &&& (9223372036854775807 : Int64)) (q1 &&& (9223372036854775807 : Int64)))), .second, .val (.long (f3 (q0 &&& (9223372036854775807 : Int64)) (q1 &&& (9223372036854775807 : Int64)))), .second] [(.long (1 : Int64)), (.long (f3 (q0 &&& (9223372036854775807 : Int64)) (q1 &&& (9223372036854775807 : Int64))))])) _
        refine XS.ladd X2.here hx rfl (hb hby d4_52) rfl ?_
        exact kt
      obtain ⟨fs, hr, hrun, hended, hW, hsame⟩ := X2.leave (v := some (.long ((f3 (q0 &&& (9223372036854775807 : Int64)) (q1 &&& (9223372036854775807 : Int64))) + (1 : Int64)))) (fun h => by rw [Bd.returns] at h; cases h) (BodyLoose.notSynchronized Bd)
      refine ⟨_, _, ?_, hrun, hended, _, _, rfl, ?_, ⟨_, rfl⟩, hW, hsame.mono (by decide) (by decide)⟩
      · show Steps p.tables e below (T2.setTop (mkF m 53 #[.val (.long q0), .second, .val (.long q1), .second, .val (.long (q0 &&& (9223372036854775807 : Int64))), .second, .val (.long (q1 &&& (9223372036854775807 : Int64))), .second, .val (.long (f2 (q0 &&& (9223372036854775807 : Int64)) (q1 &&& (9223372036854775807 : Int64)))), .second, .val (.long (f3 (q0 &&& (9223372036854775807 : Int64)) (q1 &&& (9223372036854775807 : Int64)))), .second] [(.long ((f3 (q0 &&& (9223372036854775807 : Int64)) (q1 &&& (9223372036854775807 : Int64))) + (1 : Int64)))])) _
        exact own_retL X2 hx Bd.returns (hb hby d4_53) hr
      · show Q4 Z q0 q1 h0 n0 _ T2.heap _
        rw [e2]
        exact ⟨by rw [show f4 q0 q1 = ((f3 (q0 &&& (9223372036854775807 : Int64)) (q1 &&& (9223372036854775807 : Int64))) + (1 : Int64)) from by unfold f4; rw [if_pos hc37_3, if_neg hc46_4]], N2, rfl⟩
  · refine own_back (b := T2.setTop (mkF m 56 #[.val (.long q0), .second, .val (.long q1), .second, .val (.long (q0 &&& (9223372036854775807 : Int64))), .second, .val (.long (q1 &&& (9223372036854775807 : Int64))), .second, .val (.long (f2 (q0 &&& (9223372036854775807 : Int64)) (q1 &&& (9223372036854775807 : Int64)))), .second, .val (.long (f3 (q0 &&& (9223372036854775807 : Int64)) (q1 &&& (9223372036854775807 : Int64)))), .second] [(.long (f3 (q0 &&& (9223372036854775807 : Int64)) (q1 &&& (9223372036854775807 : Int64))))])) (fun t kt => ?_) ?_
    · show Steps p.tables e below (T2.setTop (mkF m 37 #[.val (.long q0), .second, .val (.long q1), .second, .val (.long (q0 &&& (9223372036854775807 : Int64))), .second, .val (.long (q1 &&& (9223372036854775807 : Int64))), .second, .val (.long (f2 (q0 &&& (9223372036854775807 : Int64)) (q1 &&& (9223372036854775807 : Int64)))), .second, .val (.long (f3 (q0 &&& (9223372036854775807 : Int64)) (q1 &&& (9223372036854775807 : Int64)))), .second] [(.int (lcmpW (f2 (q0 &&& (9223372036854775807 : Int64)) (q1 &&& (9223372036854775807 : Int64))) (f3 (q0 &&& (9223372036854775807 : Int64)) (q1 &&& (9223372036854775807 : Int64)))))])) _
      refine XS.ifYes X2.here hx rfl (pc0 := 37) (pc' := 54) rfl (hb hby d4_37) rfl ((if0 _ _).trans (feq (fun q => hc37_3 ((lw_eq _ _).mp q))).2) (by decide) (by decide) ?_
      show Steps p.tables e below (T2.setTop (mkF m 54 #[.val (.long q0), .second, .val (.long q1), .second, .val (.long (q0 &&& (9223372036854775807 : Int64))), .second, .val (.long (q1 &&& (9223372036854775807 : Int64))), .second, .val (.long (f2 (q0 &&& (9223372036854775807 : Int64)) (q1 &&& (9223372036854775807 : Int64)))), .second, .val (.long (f3 (q0 &&& (9223372036854775807 : Int64)) (q1 &&& (9223372036854775807 : Int64)))), .second] [])) _
      refine XS.lload X2.here hx rfl (hb hby d4_54) rfl ?_
      exact kt
    obtain ⟨fs, hr, hrun, hended, hW, hsame⟩ := X2.leave (v := some (.long (f3 (q0 &&& (9223372036854775807 : Int64)) (q1 &&& (9223372036854775807 : Int64))))) (fun h => by rw [Bd.returns] at h; cases h) (BodyLoose.notSynchronized Bd)
    refine ⟨_, _, ?_, hrun, hended, _, _, rfl, ?_, ⟨_, rfl⟩, hW, hsame.mono (by decide) (by decide)⟩
    · show Steps p.tables e below (T2.setTop (mkF m 56 #[.val (.long q0), .second, .val (.long q1), .second, .val (.long (q0 &&& (9223372036854775807 : Int64))), .second, .val (.long (q1 &&& (9223372036854775807 : Int64))), .second, .val (.long (f2 (q0 &&& (9223372036854775807 : Int64)) (q1 &&& (9223372036854775807 : Int64)))), .second, .val (.long (f3 (q0 &&& (9223372036854775807 : Int64)) (q1 &&& (9223372036854775807 : Int64)))), .second] [(.long (f3 (q0 &&& (9223372036854775807 : Int64)) (q1 &&& (9223372036854775807 : Int64))))])) _
      exact own_retL X2 hx Bd.returns (hb hby d4_56) hr
    · show Q4 Z q0 q1 h0 n0 _ T2.heap _
      rw [e2]
      exact ⟨by rw [show f4 q0 q1 = (f3 (q0 &&& (9223372036854775807 : Int64)) (q1 &&& (9223372036854775807 : Int64))) from by unfold f4; rw [if_neg hc37_3]], N2, rfl⟩
theorem d5_0 : decode prog_3_method_1_code 0 = .ok (.aload_n 0, 1) := by decide +kernel
theorem d5_1 : decode prog_3_method_1_code 1 = .ok (.invokespecial 1, 3) := by decide +kernel
theorem d5_4 : decode prog_3_method_1_code 4 = .ok (.lload_n 1, 1) := by decide +kernel
theorem d5_5 : decode prog_3_method_1_code 5 = .ok (.lconst 0, 1) := by decide +kernel
theorem d5_6 : decode prog_3_method_1_code 6 = .ok (.lcmp, 1) := by decide +kernel
theorem d5_7 : decode prog_3_method_1_code 7 = .ok (.ifCond .lt 9, 3) := by decide +kernel
theorem d5_10 : decode prog_3_method_1_code 10 = .ok (.lload_n 3, 1) := by decide +kernel
theorem d5_11 : decode prog_3_method_1_code 11 = .ok (.lload_n 1, 1) := by decide +kernel
theorem d5_12 : decode prog_3_method_1_code 12 = .ok (.lcmp, 1) := by decide +kernel
theorem d5_13 : decode prog_3_method_1_code 13 = .ok (.ifCond .gt 18, 3) := by decide +kernel
theorem d5_31 : decode prog_3_method_1_code 31 = .ok (.aload_n 0, 1) := by decide +kernel
theorem d5_32 : decode prog_3_method_1_code 32 = .ok (.lload_n 1, 1) := by decide +kernel
theorem d5_33 : decode prog_3_method_1_code 33 = .ok (.putfield 16, 3) := by decide +kernel
theorem d5_36 : decode prog_3_method_1_code 36 = .ok (.aload_n 0, 1) := by decide +kernel
theorem d5_37 : decode prog_3_method_1_code 37 = .ok (.lload_n 3, 1) := by decide +kernel
theorem d5_38 : decode prog_3_method_1_code 38 = .ok (.putfield 22, 3) := by decide +kernel
theorem d5_41 : decode prog_3_method_1_code 41 = .ok (.return_, 1) := by decide +kernel
theorem pn_5 : plainName "com/example/byteloom/byteloom/ByteRange" = true := by first | (simp [plainName, overriddenIn]; done) | decide +kernel
theorem ef_5 (m : MethodId) (x0 : Addr) (x1 : Int64) (x2 : Int64) : entryFrame m #[(.ref x0), (.long x1), (.long x2)] 5 = mkF m 0 #[.val (.ref x0), .val (.long x1), .second, .val (.long x2), .second] [] := by first | (simp [entryFrame, mkF, argsToLocals, Value.category]; done) | rfl
def Q5 (Z : State) (a0 : Addr) (q1 : Int64) (q2 : Int64) (h0 : Heap) (n0 : Nat) (v : Option Value) (h : Heap) (L : List Loc) : Prop := v = none ∧ Fr n0 L ∧ Keep h0 h [a0] ∧ Exa Z h a0 "com/example/byteloom/byteloom/ByteRange" ∧ Fld Z h a0 "com/example/byteloom/byteloom/ByteRange" "from" "J" (.long q1) ∧ Fld Z h a0 "com/example/byteloom/byteloom/ByteRange" "to" "J" (.long q2)
set_option maxRecDepth 65536 in
set_option maxHeartbeats 40000000 in
theorem rm5 (l : Launch) (Z : State) (aw : Array Value) (hw : ∀ d ∈ tables_1, d.before aw Z = true) (ws : List Jvm.Cond) (a0 : Addr) (q1 : Int64) (q2 : Int64) (h0 : Heap) (n0 : Nat) (Z0 : n0 ≤ h0.size) (F_from_a0 : Fld Z h0 a0 "com/example/byteloom/byteloom/ByteRange" "from" "J" (.long (0 : Int64))) (F_to_a0 : Fld Z h0 a0 "com/example/byteloom/byteloom/ByteRange" "to" "J" (.long (0 : Int64))) (E_a0 : Exa Z h0 a0 "com/example/byteloom/byteloom/ByteRange") (g_a0 : n0 ≤ a0) (hq0 : ¬ (q1 < (0 : Int64))) (hq1 : q1 < q2) :
    MetFree l (⟨"com/example/byteloom/byteloom/ByteRange", "<init>", "(JJ)V"⟩ : MethodName) (head1 (Jvm.Cond.code (⟨"com/example/byteloom/byteloom/ByteRange", "<init>", "(JJ)V"⟩ : MethodName) prog_3_method_1_code 5 none :: ws) ({ frames := 1, cells := 0, slots := 0, locals := 12 } : Room)) (fun a U => a = #[(.ref a0), (.long q1), (.long q2)] ∧ Z.Warmed39 U.vm ∧ U.heap = h0) (fun _ _ _ _ _ => True) (fun _ U o U' => ∃ v L, o = .returned v ∧ Q5 Z a0 q1 q2 h0 n0 v U'.heap L ∧ FrameEnd U o U' L ({ frames := 1, cells := 0, slots := 0, locals := 12 } : Room).cells ({ frames := 1, cells := 0, slots := 0, locals := 12 } : Room).slots) := by
  refine MetFree.of_bodySF (plainFor_of_name pn_5) hisR ?_
  intro p e s m args below meth c s₁ Bd hml0 hP hK
  obtain ⟨rfl, hZ, hh⟩ := hP
  have hx := Bd.exec
  have hby := Bd.bytes
  have hml : c.maxLocals = 5 := hml0
  have hown : s.vm.findClass "com/example/byteloom/byteloom/ByteRange" = some m.cls := findClass_of_methodNamed Bd.named
  have hnm := (name_of_methodNamed Bd.named Bd.method).1
  have X0 : Stand p l e ({ frames := 1, cells := 0, slots := 0, locals := 12 } : Room) s m #[(.ref a0), (.long q1), (.long q2)] below meth c s₁ [] 0 0 := Stand.of_body Bd
  have e0 : s₁.heap = h0 := by rw [← hh, Bd.state]; rfl
  have N0 := Fr.nil n0
  refine own_back (b := s₁.setTop (mkF m 0 #[.val (.ref a0), .val (.long q1), .second, .val (.long q2), .second] [])) (fun t kt => castTop (ef_5 m a0 q1 q2) kt) ?_
  obtain ⟨T1, X1, e1, st1⟩ := initO X0 hx hZ hown (hw _ (List.mem_of_getElem? (i := 21) rfl)) (hw _ (List.mem_of_getElem? (i := 22) rfl)) (hw _ (List.mem_of_getElem? (i := 23) rfl)) e0 (g := (mkF m 1 #[.val (.ref a0), .val (.long q1), .second, .val (.long q2), .second] [(.ref a0)])) rfl (by rw [hml]; rfl) rfl (hb hby d5_1) (by decide) (W := 0) (by show 2 * 0 + _ ≤ _; exact Nat.le_of_eq rfl) (by decide)
  obtain ⟨T2, h2, X2, e2, W2, st2⟩ := putF X1 hx hZ hown (host := "") (Or.inl (hw _ (List.mem_of_getElem? (i := 24) rfl))) Via.refl e1 F_from_a0 E_a0 (Or.inr ⟨(hw _ (List.mem_of_getElem? (i := 25) rfl)), rfl, hnm⟩) (hw _ (List.mem_of_getElem? (i := 16) rfl)) (ty := .long) (by decide) rfl rfl (g := (mkF m 33 #[.val (.ref a0), .val (.long q1), .second, .val (.long q2), .second] [(.long q1), (.ref a0)])) rfl rfl (hb hby d5_33)
  have Fw2 := F_from_a0.same W2
  have f2_0 := F_to_a0.other W2 (Or.inr (slot_ne (Or.inr (hw _ (List.mem_of_getElem? (i := 27) rfl))) (Or.inr (hw _ (List.mem_of_getElem? (i := 25) rfl))) (by decide) (t := .long) (t' := .long) (by decide) (by decide)))
  have f2_1 := E_a0.wr W2
  have K2 : Keep h0 h2 [a0] := (Keep.refl h0 _).wr W2 (Or.inl (List.mem_of_getElem? (i := 0) rfl))
  have Z2 : n0 ≤ h2.size := Nat.le_trans Z0 (Keep.of_wr W2).1
  have N2 := Fr.snoc X2 N0 g_a0
  obtain ⟨T3, h3, X3, e3, W3, st3⟩ := putF X2 hx hZ hown (host := "") (Or.inl (hw _ (List.mem_of_getElem? (i := 26) rfl))) Via.refl e2 f2_0 f2_1 (Or.inr ⟨(hw _ (List.mem_of_getElem? (i := 27) rfl)), rfl, hnm⟩) (hw _ (List.mem_of_getElem? (i := 16) rfl)) (ty := .long) (by decide) rfl rfl (g := (mkF m 38 #[.val (.ref a0), .val (.long q1), .second, .val (.long q2), .second] [(.long q2), (.ref a0)])) rfl rfl (hb hby d5_38)
  have Fw3 := f2_0.same W3
  have f3_0 := f2_1.wr W3
  have f3_1 := Fw2.other W3 (Or.inr (slot_ne (Or.inr (hw _ (List.mem_of_getElem? (i := 25) rfl))) (Or.inr (hw _ (List.mem_of_getElem? (i := 27) rfl))) (by decide) (t := .long) (t' := .long) (by decide) (by decide)))
  have K3 : Keep h0 h3 [a0] := K2.wr W3 (Or.inl (List.mem_of_getElem? (i := 0) rfl))
  have Z3 : n0 ≤ h3.size := Nat.le_trans Z2 (Keep.of_wr W3).1
  have N3 := Fr.snoc X3 N2 g_a0
  refine own_back (b := T3.setTop (mkF m 41 #[.val (.ref a0), .val (.long q1), .second, .val (.long q2), .second] [])) (fun t kt => ?_) ?_
  · show Steps p.tables e below (s₁.setTop (mkF m 0 #[.val (.ref a0), .val (.long q1), .second, .val (.long q2), .second] [])) _
    refine XS.aloadN X0.here hx rfl (hb hby d5_0) rfl rfl ?_
    show Steps p.tables e below (s₁.setTop (mkF m 1 #[.val (.ref a0), .val (.long q1), .second, .val (.long q2), .second] [(.ref a0)])) _
    refine st1 _ ?_
    show Steps p.tables e below (T1.setTop (mkF m 4 #[.val (.ref a0), .val (.long q1), .second, .val (.long q2), .second] [])) _
    refine XS.lloadN X1.here hx rfl (hb hby d5_4) rfl ?_
    show Steps p.tables e below (T1.setTop (mkF m 5 #[.val (.ref a0), .val (.long q1), .second, .val (.long q2), .second] [(.long q1)])) _
    refine XS.lconst X1.here hx rfl (hb hby d5_5) ?_
    show Steps p.tables e below (T1.setTop (mkF m 6 #[.val (.ref a0), .val (.long q1), .second, .val (.long q2), .second] [(.long (0 : Int64)), (.long q1)])) _
    refine XS.lcmp X1.here hx rfl (hb hby d5_6) rfl ?_
    show Steps p.tables e below (T1.setTop (mkF m 7 #[.val (.ref a0), .val (.long q1), .second, .val (.long q2), .second] [(.int (lcmpW q1 (0 : Int64)))])) _
    refine XS.ifNo X1.here hx rfl (hb hby d5_7) rfl ((if0 _ _).trans (flt (fun q => hq0 ((lw_lt _ _).mp q))).1) ?_
    show Steps p.tables e below (T1.setTop (mkF m 10 #[.val (.ref a0), .val (.long q1), .second, .val (.long q2), .second] [])) _
    refine XS.lloadN X1.here hx rfl (hb hby d5_10) rfl ?_
    show Steps p.tables e below (T1.setTop (mkF m 11 #[.val (.ref a0), .val (.long q1), .second, .val (.long q2), .second] [(.long q2)])) _
    refine XS.lloadN X1.here hx rfl (hb hby d5_11) rfl ?_
    show Steps p.tables e below (T1.setTop (mkF m 12 #[.val (.ref a0), .val (.long q1), .second, .val (.long q2), .second] [(.long q1), (.long q2)])) _
    refine XS.lcmp X1.here hx rfl (hb hby d5_12) rfl ?_
    show Steps p.tables e below (T1.setTop (mkF m 13 #[.val (.ref a0), .val (.long q1), .second, .val (.long q2), .second] [(.int (lcmpW q2 q1))])) _
    refine XS.ifYes X1.here hx rfl (pc0 := 13) (pc' := 31) rfl (hb hby d5_13) rfl ((if0 _ _).trans (tlt ((lw_gt _ _).mpr hq1)).2.2.1) (by decide) (by decide) ?_
    show Steps p.tables e below (T1.setTop (mkF m 31 #[.val (.ref a0), .val (.long q1), .second, .val (.long q2), .second] [])) _
    refine XS.aloadN X1.here hx rfl (hb hby d5_31) rfl rfl ?_
    show Steps p.tables e below (T1.setTop (mkF m 32 #[.val (.ref a0), .val (.long q1), .second, .val (.long q2), .second] [(.ref a0)])) _
    refine XS.lloadN X1.here hx rfl (hb hby d5_32) rfl ?_
    show Steps p.tables e below (T1.setTop (mkF m 33 #[.val (.ref a0), .val (.long q1), .second, .val (.long q2), .second] [(.long q1), (.ref a0)])) _
    refine st2 _ ?_
    show Steps p.tables e below (T2.setTop (mkF m 36 #[.val (.ref a0), .val (.long q1), .second, .val (.long q2), .second] [])) _
    refine XS.aloadN X2.here hx rfl (hb hby d5_36) rfl rfl ?_
    show Steps p.tables e below (T2.setTop (mkF m 37 #[.val (.ref a0), .val (.long q1), .second, .val (.long q2), .second] [(.ref a0)])) _
    refine XS.lloadN X2.here hx rfl (hb hby d5_37) rfl ?_
    show Steps p.tables e below (T2.setTop (mkF m 38 #[.val (.ref a0), .val (.long q1), .second, .val (.long q2), .second] [(.long q2), (.ref a0)])) _
    refine st3 _ ?_
    exact kt
  obtain ⟨fs, hr, hrun, hended, hW, hsame⟩ := X3.leave (v := none) (fun _ => rfl) (BodyLoose.notSynchronized Bd)
  refine ⟨_, _, ?_, hrun, hended, _, _, rfl, ?_, ⟨_, rfl⟩, hW, hsame.mono (by decide) (by decide)⟩
  · show Steps p.tables e below (T3.setTop (mkF m 41 #[.val (.ref a0), .val (.long q1), .second, .val (.long q2), .second] [])) _
    exact X3.returnOut hx Bd.returns (hb hby d5_41) hr
  · show Q5 Z a0 q1 q2 h0 n0 _ T3.heap _
    rw [e3]
    exact ⟨rfl, N3, K3, f3_0, f3_1, Fw3⟩
theorem d10_0 : decode jdk_18_method_1_code 0 = .ok (.aload_n 0, 1) := by decide +kernel
theorem d10_1 : decode jdk_18_method_1_code 1 = .ok (.invokespecial 1, 3) := by decide +kernel
theorem d10_4 : decode jdk_18_method_1_code 4 = .ok (.return_, 1) := by decide +kernel
theorem pn_10 : plainName "java/lang/Number" = true := by first | (simp [plainName, overriddenIn]; done) | decide +kernel
theorem ef_10 (m : MethodId) (x0 : Addr) : entryFrame m #[(.ref x0)] 1 = mkF m 0 #[.val (.ref x0)] [] := by first | (simp [entryFrame, mkF, argsToLocals, Value.category]; done) | rfl
def Q10 (Z : State) (a0 : Addr) (h0 : Heap) (n0 : Nat) (v : Option Value) (h : Heap) (L : List Loc) : Prop := v = none ∧ Fr n0 L ∧ h = h0
set_option maxRecDepth 65536 in
set_option maxHeartbeats 40000000 in
theorem rm10 (l : Launch) (Z : State) (aw : Array Value) (hw : ∀ d ∈ tables_1, d.before aw Z = true) (ws : List Jvm.Cond) (a0 : Addr) (h0 : Heap) (n0 : Nat) (Z0 : n0 ≤ h0.size) :
    MetFree l (⟨"java/lang/Number", "<init>", "()V"⟩ : MethodName) (head1 (Jvm.Cond.code (⟨"java/lang/Number", "<init>", "()V"⟩ : MethodName) jdk_18_method_1_code 1 none :: ws) ({ frames := 1, cells := 0, slots := 0, locals := 12 } : Room)) (fun a U => a = #[(.ref a0)] ∧ Z.Warmed39 U.vm ∧ U.heap = h0) (fun _ _ _ _ _ => True) (fun _ U o U' => ∃ v L, o = .returned v ∧ Q10 Z a0 h0 n0 v U'.heap L ∧ FrameEnd U o U' L ({ frames := 1, cells := 0, slots := 0, locals := 12 } : Room).cells ({ frames := 1, cells := 0, slots := 0, locals := 12 } : Room).slots) := by
  refine MetFree.of_bodySF (plainFor_of_name pn_10) hisR ?_
  intro p e s m args below meth c s₁ Bd hml0 hP hK
  obtain ⟨rfl, hZ, hh⟩ := hP
  have hx := Bd.exec
  have hby := Bd.bytes
  have hml : c.maxLocals = 1 := hml0
  have hown : s.vm.findClass "java/lang/Number" = some m.cls := findClass_of_methodNamed Bd.named
  have hnm := (name_of_methodNamed Bd.named Bd.method).1
  have X0 : Stand p l e ({ frames := 1, cells := 0, slots := 0, locals := 12 } : Room) s m #[(.ref a0)] below meth c s₁ [] 0 0 := Stand.of_body Bd
  have e0 : s₁.heap = h0 := by rw [← hh, Bd.state]; rfl
  have N0 := Fr.nil n0
  refine own_back (b := s₁.setTop (mkF m 0 #[.val (.ref a0)] [])) (fun t kt => castTop (ef_10 m a0) kt) ?_
  obtain ⟨T1, X1, e1, st1⟩ := initO X0 hx hZ hown (hw _ (List.mem_of_getElem? (i := 58) rfl)) (hw _ (List.mem_of_getElem? (i := 22) rfl)) (hw _ (List.mem_of_getElem? (i := 23) rfl)) e0 (g := (mkF m 1 #[.val (.ref a0)] [(.ref a0)])) rfl (by rw [hml]; rfl) rfl (hb hby d10_1) (by decide) (W := 0) (by show 2 * 0 + _ ≤ _; exact Nat.le_of_eq rfl) (by decide)
  refine own_back (b := T1.setTop (mkF m 4 #[.val (.ref a0)] [])) (fun t kt => ?_) ?_
  · show Steps p.tables e below (s₁.setTop (mkF m 0 #[.val (.ref a0)] [])) _
    refine XS.aloadN X0.here hx rfl (hb hby d10_0) rfl rfl ?_
    show Steps p.tables e below (s₁.setTop (mkF m 1 #[.val (.ref a0)] [(.ref a0)])) _
    refine st1 _ ?_
    exact kt
  obtain ⟨fs, hr, hrun, hended, hW, hsame⟩ := X1.leave (v := none) (fun _ => rfl) (BodyLoose.notSynchronized Bd)
  refine ⟨_, _, ?_, hrun, hended, _, _, rfl, ?_, ⟨_, rfl⟩, hW, hsame.mono (by decide) (by decide)⟩
  · show Steps p.tables e below (T1.setTop (mkF m 4 #[.val (.ref a0)] [])) _
    exact X1.returnOut hx Bd.returns (hb hby d10_4) hr
  · show Q10 Z a0 h0 n0 _ T1.heap _
    rw [e1]
    exact ⟨rfl, N0, rfl⟩
theorem d9_0 : decode jdk_35_method_26_code 0 = .ok (.aload_n 0, 1) := by decide +kernel
theorem d9_1 : decode jdk_35_method_26_code 1 = .ok (.invokespecial 270, 3) := by decide +kernel
theorem d9_4 : decode jdk_35_method_26_code 4 = .ok (.aload_n 0, 1) := by decide +kernel
theorem d9_5 : decode jdk_35_method_26_code 5 = .ok (.lload_n 1, 1) := by decide +kernel
theorem d9_6 : decode jdk_35_method_26_code 6 = .ok (.putfield 273, 3) := by decide +kernel
theorem d9_9 : decode jdk_35_method_26_code 9 = .ok (.return_, 1) := by decide +kernel
theorem pn_9 : plainName "java/lang/Long" = true := by first | (simp [plainName, overriddenIn]; done) | decide +kernel
theorem pd_9_0 : parseMethodDescriptor "()V" = some ⟨[], none⟩ := by decide +kernel
theorem ef_9 (m : MethodId) (x0 : Addr) (x1 : Int64) : entryFrame m #[(.ref x0), (.long x1)] 3 = mkF m 0 #[.val (.ref x0), .val (.long x1), .second] [] := by first | (simp [entryFrame, mkF, argsToLocals, Value.category]; done) | rfl
def Q9 (Z : State) (a0 : Addr) (q1 : Int64) (h0 : Heap) (n0 : Nat) (v : Option Value) (h : Heap) (L : List Loc) : Prop := v = none ∧ Fr n0 L ∧ Keep h0 h [a0] ∧ Exa Z h a0 "java/lang/Long"
set_option maxRecDepth 65536 in
set_option maxHeartbeats 40000000 in
theorem rm9 (l : Launch) (Z : State) (aw : Array Value) (hw : ∀ d ∈ tables_1, d.before aw Z = true) (ws : List Jvm.Cond) (a0 : Addr) (q1 : Int64) (h0 : Heap) (n0 : Nat) (Z0 : n0 ≤ h0.size) (F_value_a0 : Fld Z h0 a0 "java/lang/Long" "value" "J" (.long (0 : Int64))) (E_a0 : Exa Z h0 a0 "java/lang/Long") (g_a0 : n0 ≤ a0) :
    MetFree l (⟨"java/lang/Long", "<init>", "(J)V"⟩ : MethodName) (head1 (Jvm.Cond.code (⟨"java/lang/Long", "<init>", "(J)V"⟩ : MethodName) jdk_35_method_26_code 3 none :: ws) ({ frames := 2, cells := 0, slots := 0, locals := 24 } : Room)) (fun a U => a = #[(.ref a0), (.long q1)] ∧ Z.Warmed39 U.vm ∧ U.heap = h0) (fun _ _ _ _ _ => True) (fun _ U o U' => ∃ v L, o = .returned v ∧ Q9 Z a0 q1 h0 n0 v U'.heap L ∧ FrameEnd U o U' L ({ frames := 2, cells := 0, slots := 0, locals := 24 } : Room).cells ({ frames := 2, cells := 0, slots := 0, locals := 24 } : Room).slots) := by
  refine MetFree.of_bodySF (plainFor_of_name pn_9) hisR ?_
  intro p e s m args below meth c s₁ Bd hml0 hP hK
  obtain ⟨rfl, hZ, hh⟩ := hP
  have hx := Bd.exec
  have hby := Bd.bytes
  have hml : c.maxLocals = 3 := hml0
  have hown : s.vm.findClass "java/lang/Long" = some m.cls := findClass_of_methodNamed Bd.named
  have hnm := (name_of_methodNamed Bd.named Bd.method).1
  have X0 : Stand p l e ({ frames := 2, cells := 0, slots := 0, locals := 24 } : Room) s m #[(.ref a0), (.long q1)] below meth c s₁ [] 0 0 := Stand.of_body Bd
  have e0 : s₁.heap = h0 := by rw [← hh, Bd.state]; rfl
  have N0 := Fr.nil n0
  refine own_back (b := s₁.setTop (mkF m 0 #[.val (.ref a0), .val (.long q1), .second] [])) (fun t kt => castTop (ef_9 m a0 q1) kt) ?_
  obtain ⟨_, _, ⟨T1, L1, k1, n1⟩, -, X1, ⟨Lc1, hQ1, l1, y1, z1⟩, st1⟩ := X0.specialBack hx (y := (⟨"java/lang/Number", "<init>", "()V"⟩ : MethodName)) rfl hown (mvT hZ (hw _ (List.mem_of_getElem? (i := 52) rfl))) (mvT hZ (hw _ (List.mem_of_getElem? (i := 53) rfl))) (mvT hZ (hw _ (List.mem_of_getElem? (i := 57) rfl))) (by decide) (backOf (W := 0) (rm10 l Z aw hw [] a0 h0 n0 Z0 ) hZ (hw _ (List.mem_of_getElem? (i := 57) rfl)) (hw _ (List.mem_of_getElem? (i := 56) rfl)) (by decide) (by decide)) (g := (mkF m 1 #[.val (.ref a0), .val (.long q1), .second] [(.ref a0)])) rfl (by rw [hml]; rfl) (Steps.refl _) (a := a0) (argsL := []) (rest := []) (lenOf pd_9_0 rfl) rfl (by show 2 * 0 + _ ≤ _; exact Nat.le_of_eq rfl) (hb hby d9_1) (fun _ _ => ⟨rfl, e0, (by decide : 0 + 0 ≤ _), (by decide : 0 + 0 ≤ _)⟩)
  dsimp only [Pt.U, Pt.locs, Pt.cells, Pt.slots] at X1 l1 y1 z1 st1 hQ1
  subst l1 y1 z1
  obtain ⟨rfl, Nq1, e1⟩ := hQ1
  have N1 := Fr.app N0 Nq1
  obtain ⟨T2, h2, X2, e2, W2, st2⟩ := putF X1 hx hZ hown (host := "") (Or.inl (hw _ (List.mem_of_getElem? (i := 59) rfl))) Via.refl e1 F_value_a0 E_a0 (Or.inr ⟨(hw _ (List.mem_of_getElem? (i := 60) rfl)), rfl, hnm⟩) (hw _ (List.mem_of_getElem? (i := 47) rfl)) (ty := .long) (by decide) rfl rfl (g := (mkF m 6 #[.val (.ref a0), .val (.long q1), .second] [(.long q1), (.ref a0)])) rfl rfl (hb hby d9_6)
  have Fw2 := F_value_a0.same W2
  have f2_0 := E_a0.wr W2
  have K2 : Keep h0 h2 [a0] := (Keep.refl h0 _).wr W2 (Or.inl (List.mem_of_getElem? (i := 0) rfl))
  have Z2 : n0 ≤ h2.size := Nat.le_trans Z0 (Keep.of_wr W2).1
  have N2 := Fr.snoc X2 N1 g_a0
  refine own_back (b := T2.setTop (mkF m 9 #[.val (.ref a0), .val (.long q1), .second] [])) (fun t kt => ?_) ?_
  · show Steps p.tables e below (s₁.setTop (mkF m 0 #[.val (.ref a0), .val (.long q1), .second] [])) _
    refine XS.aloadN X0.here hx rfl (hb hby d9_0) rfl rfl ?_
    show Steps p.tables e below (s₁.setTop (mkF m 1 #[.val (.ref a0), .val (.long q1), .second] [(.ref a0)])) _
    refine st1.trans ?_
    show Steps p.tables e below (T1.setTop (mkF m 4 #[.val (.ref a0), .val (.long q1), .second] [])) _
    refine XS.aloadN X1.here hx rfl (hb hby d9_4) rfl rfl ?_
    show Steps p.tables e below (T1.setTop (mkF m 5 #[.val (.ref a0), .val (.long q1), .second] [(.ref a0)])) _
    refine XS.lloadN X1.here hx rfl (hb hby d9_5) rfl ?_
    show Steps p.tables e below (T1.setTop (mkF m 6 #[.val (.ref a0), .val (.long q1), .second] [(.long q1), (.ref a0)])) _
    refine st2 _ ?_
    exact kt
  obtain ⟨fs, hr, hrun, hended, hW, hsame⟩ := X2.leave (v := none) (fun _ => rfl) (BodyLoose.notSynchronized Bd)
  refine ⟨_, _, ?_, hrun, hended, _, _, rfl, ?_, ⟨_, rfl⟩, hW, hsame.mono (by decide) (by decide)⟩
  · show Steps p.tables e below (T2.setTop (mkF m 9 #[.val (.ref a0), .val (.long q1), .second] [])) _
    exact X2.returnOut hx Bd.returns (hb hby d9_9) hr
  · show Q9 Z a0 q1 h0 n0 _ T2.heap _
    rw [e2]
    exact ⟨rfl, N2, K2, f2_0⟩
theorem d8_0 : decode jdk_35_method_24_code 0 = .ok (.sipush 128, 3) := by decide +kernel
theorem d8_3 : decode jdk_35_method_24_code 3 = .ok (.istore_n 2, 1) := by decide +kernel
theorem d8_4 : decode jdk_35_method_24_code 4 = .ok (.lload_n 0, 1) := by decide +kernel
theorem d8_5 : decode jdk_35_method_24_code 5 = .ok (.ldc2_w 230, 3) := by decide +kernel
theorem d8_8 : decode jdk_35_method_24_code 8 = .ok (.lcmp, 1) := by decide +kernel
theorem d8_9 : decode jdk_35_method_24_code 9 = .ok (.ifCond .lt 22, 3) := by decide +kernel
theorem d8_12 : decode jdk_35_method_24_code 12 = .ok (.lload_n 0, 1) := by decide +kernel
theorem d8_13 : decode jdk_35_method_24_code 13 = .ok (.ldc2_w 232, 3) := by decide +kernel
theorem d8_16 : decode jdk_35_method_24_code 16 = .ok (.lcmp, 1) := by decide +kernel
theorem d8_17 : decode jdk_35_method_24_code 17 = .ok (.ifCond .gt 14, 3) := by decide +kernel
theorem d8_20 : decode jdk_35_method_24_code 20 = .ok (.getstatic 234, 3) := by decide +kernel
theorem d8_23 : decode jdk_35_method_24_code 23 = .ok (.lload_n 0, 1) := by decide +kernel
theorem d8_24 : decode jdk_35_method_24_code 24 = .ok (.l2i, 1) := by decide +kernel
theorem d8_25 : decode jdk_35_method_24_code 25 = .ok (.sipush 128, 3) := by decide +kernel
theorem d8_28 : decode jdk_35_method_24_code 28 = .ok (.iadd, 1) := by decide +kernel
theorem d8_29 : decode jdk_35_method_24_code 29 = .ok (.aaload, 1) := by decide +kernel
theorem d8_30 : decode jdk_35_method_24_code 30 = .ok (.areturn, 1) := by decide +kernel
theorem d8_31 : decode jdk_35_method_24_code 31 = .ok (.new 1, 3) := by decide +kernel
theorem d8_34 : decode jdk_35_method_24_code 34 = .ok (.dup, 1) := by decide +kernel
theorem d8_35 : decode jdk_35_method_24_code 35 = .ok (.lload_n 0, 1) := by decide +kernel
theorem d8_36 : decode jdk_35_method_24_code 36 = .ok (.invokespecial 240, 3) := by decide +kernel
theorem d8_39 : decode jdk_35_method_24_code 39 = .ok (.areturn, 1) := by decide +kernel
theorem pn_8 : plainName "java/lang/Long" = true := by first | (simp [plainName, overriddenIn]; done) | decide +kernel
theorem pd_8_0 : parseMethodDescriptor "(J)V" = some ⟨[.long], none⟩ := by decide +kernel
theorem ef_8 (m : MethodId) (x0 : Int64) : entryFrame m #[(.long x0)] 3 = mkF m 0 #[.val (.long x0), .second, .unset] [] := by first | (simp [entryFrame, mkF, argsToLocals, Value.category]; done) | rfl
def Q8 (Z : State) (q0 : Int64) (wc : Addr) (h0 : Heap) (n0 : Nat) (v : Option Value) (h : Heap) (L : List Loc) : Prop := ∃ b : Addr, v = some (.ref b) ∧ Fr n0 L ∧ Keep h0 h [] ∧ Exa Z h b "java/lang/Long"
set_option maxRecDepth 65536 in
set_option maxHeartbeats 40000000 in
theorem rm8 (l : Launch) (Z : State) (aw : Array Value) (hw : ∀ d ∈ tables_1, d.before aw Z = true) (ws : List Jvm.Cond) (q0 : Int64) (wc : Addr) (h0 : Heap) (n0 : Nat) (Z0 : n0 ≤ h0.size) (S_cache : Sta Z h0 "java/lang/Long$LongCache" "cache" "[Ljava/lang/Long;" (.ref wc)) (X_lc : LCache Z h0 wc) :
    MetFree l (⟨"java/lang/Long", "valueOf", "(J)Ljava/lang/Long;"⟩ : MethodName) (head1 (Jvm.Cond.code (⟨"java/lang/Long", "valueOf", "(J)Ljava/lang/Long;"⟩ : MethodName) jdk_35_method_24_code 3 (some (.object "java/lang/Long")) :: ws) ({ frames := 3, cells := 1, slots := 1, locals := 39 } : Room)) (fun a U => a = #[(.long q0)] ∧ Z.Warmed39 U.vm ∧ U.heap = h0) (fun _ _ _ _ _ => True) (fun _ U o U' => ∃ v L, o = .returned v ∧ Q8 Z q0 wc h0 n0 v U'.heap L ∧ FrameEnd U o U' L ({ frames := 3, cells := 1, slots := 1, locals := 39 } : Room).cells ({ frames := 3, cells := 1, slots := 1, locals := 39 } : Room).slots) := by
  refine MetFree.of_bodySF (plainFor_of_name pn_8) hisR ?_
  intro p e s m args below meth c s₁ Bd hml0 hP hK
  obtain ⟨rfl, hZ, hh⟩ := hP
  have hx := Bd.exec
  have hby := Bd.bytes
  have hml : c.maxLocals = 3 := hml0
  have hown : s.vm.findClass "java/lang/Long" = some m.cls := findClass_of_methodNamed Bd.named
  have hnm := (name_of_methodNamed Bd.named Bd.method).1
  have X0 : Stand p l e ({ frames := 3, cells := 1, slots := 1, locals := 39 } : Room) s m #[(.long q0)] below meth c s₁ [] 0 0 := Stand.of_body Bd
  have e0 : s₁.heap = h0 := by rw [← hh, Bd.state]; rfl
  have N0 := Fr.nil n0
  refine own_back (b := s₁.setTop (mkF m 0 #[.val (.long q0), .second, .unset] [])) (fun t kt => castTop (ef_8 m q0) kt) ?_
  refine own_back (b := s₁.setTop (mkF m 9 #[.val (.long q0), .second, .val (.int (128 : Int32))] [(.int (lcmpW q0 (-128 : Int64)))])) (fun t kt => ?_) ?_
  · show Steps p.tables e below (s₁.setTop (mkF m 0 #[.val (.long q0), .second, .unset] [])) _
    refine XS.sipush X0.here hx rfl (hb hby d8_0) ?_
    show Steps p.tables e below (s₁.setTop (mkF m 3 #[.val (.long q0), .second, .unset] [(.int (128 : Int32))])) _
    refine XS.istoreN X0.here hx rfl (hb hby d8_3) rfl (l' := #[.val (.long q0), .second, .val (.int (128 : Int32))]) rfl ?_
    show Steps p.tables e below (s₁.setTop (mkF m 4 #[.val (.long q0), .second, .val (.int (128 : Int32))] [])) _
    refine XS.lloadN X0.here hx rfl (hb hby d8_4) rfl ?_
    show Steps p.tables e below (s₁.setTop (mkF m 5 #[.val (.long q0), .second, .val (.int (128 : Int32))] [(.long q0)])) _
    refine X0.ldc2Long hx hown (mvT hZ (hw _ (List.mem_of_getElem? (i := 39) rfl))) (g := (mkF m 5 #[.val (.long q0), .second, .val (.int (128 : Int32))] [(.long q0)])) rfl (hb hby d8_5) _ ?_
    show Steps p.tables e below (s₁.setTop (mkF m 8 #[.val (.long q0), .second, .val (.int (128 : Int32))] [(.long (-128 : Int64)), (.long q0)])) _
    refine XS.lcmp X0.here hx rfl (hb hby d8_8) rfl ?_
    exact kt
  by_cases hc9_1 : q0 < (-128 : Int64)
  · obtain ⟨T2, h2, X2, e2, E2, A2, D2, -, st2⟩ := newO X0 hx hZ hown (hw _ (List.mem_of_getElem? (i := 46) rfl)) (hw _ (List.mem_of_getElem? (i := 47) rfl)) (hw _ (List.mem_of_getElem? (i := 37) rfl)) e0 (g := (mkF m 31 #[.val (.long q0), .second, .val (.int (128 : Int32))] [])) rfl (hb hby d8_31) (by decide) (by decide)
    obtain ⟨b2, g2⟩ : ∃ z, z = h0.size := ⟨_, rfl⟩
    rw [← g2] at A2 D2 st2
    have lo2 : n0 ≤ b2 := Nat.le_trans Z0 (Nat.le_of_eq g2.symm)
    have sz2 : h0.size ≤ b2 := Nat.le_trans (Nat.le_refl _) (Nat.le_of_eq g2.symm)
    have f2_0 := S_cache.ext E2
    have K2 : Keep h0 h2 [] := (Keep.refl h0 _).ext E2
    have Z2 : n0 ≤ h2.size := Nat.le_trans Z0 E2.1
    have F2_value : Fld Z h2 b2 "java/lang/Long" "value" "J" (.long (0 : Int64)) := D2 (Or.inr (hw _ (List.mem_of_getElem? (i := 60) rfl))) (ty := .long) (by decide)
    obtain ⟨_, _, ⟨T3, L3, k3, n3⟩, -, X3, ⟨Lc3, hQ3, l3, y3, z3⟩, st3⟩ := X2.specialBack hx (y := (⟨"java/lang/Long", "<init>", "(J)V"⟩ : MethodName)) rfl hown (mvT hZ (hw _ (List.mem_of_getElem? (i := 48) rfl))) (mvT hZ (hw _ (List.mem_of_getElem? (i := 49) rfl))) (mvT hZ (hw _ (List.mem_of_getElem? (i := 51) rfl))) (by decide) (backOf (W := 1) (rm9 l Z aw hw [] b2 q0 h2 n0 Z2 F2_value A2 lo2) hZ (hw _ (List.mem_of_getElem? (i := 51) rfl)) (hw _ (List.mem_of_getElem? (i := 37) rfl)) (by decide) (by decide)) (g := (mkF m 36 #[.val (.long q0), .second, .val (.int (128 : Int32))] [(.long q0), (.ref b2), (.ref b2)])) rfl (by rw [hml]; rfl) (Steps.refl _) (a := b2) (argsL := [(.long q0)]) (rest := [(.ref b2)]) (lenOf pd_8_0 rfl) rfl (by show 2 * 0 + _ ≤ _; exact Nat.le_of_eq rfl) (hb hby d8_36) (fun _ _ => ⟨rfl, e2, (by decide : 1 + 0 ≤ _), (by decide : 1 + 0 ≤ _)⟩)
    dsimp only [Pt.U, Pt.locs, Pt.cells, Pt.slots] at X3 l3 y3 z3 st3 hQ3
    subst l3 y3 z3
    obtain ⟨rfl, Nq3, Kq3, P3_0⟩ := hQ3
    have N3 := Fr.app N0 Nq3
    have K3 : Keep h0 T3.heap [] := K2.trans Kq3 (allS (Or.inr sz2) all0)
    have Z3 : n0 ≤ T3.heap.size := Nat.le_trans Z2 Kq3.1
    refine own_back (b := T3.setTop (mkF m 39 #[.val (.long q0), .second, .val (.int (128 : Int32))] [(.ref b2)])) (fun t kt => ?_) ?_
    · show Steps p.tables e below (s₁.setTop (mkF m 9 #[.val (.long q0), .second, .val (.int (128 : Int32))] [(.int (lcmpW q0 (-128 : Int64)))])) _
      refine XS.ifYes X0.here hx rfl (pc0 := 9) (pc' := 31) rfl (hb hby d8_9) rfl ((if0 _ _).trans (tlt ((lw_lt _ _).mpr hc9_1)).1) (by decide) (by decide) ?_
      show Steps p.tables e below (s₁.setTop (mkF m 31 #[.val (.long q0), .second, .val (.int (128 : Int32))] [])) _
      refine st2 _ ?_
      show Steps p.tables e below (T2.setTop (mkF m 34 #[.val (.long q0), .second, .val (.int (128 : Int32))] [(.ref b2)])) _
      refine XS.dup X2.here hx rfl (hb hby d8_34) rfl rfl ?_
      show Steps p.tables e below (T2.setTop (mkF m 35 #[.val (.long q0), .second, .val (.int (128 : Int32))] [(.ref b2), (.ref b2)])) _
      refine XS.lloadN X2.here hx rfl (hb hby d8_35) rfl ?_
      show Steps p.tables e below (T2.setTop (mkF m 36 #[.val (.long q0), .second, .val (.int (128 : Int32))] [(.long q0), (.ref b2), (.ref b2)])) _
      refine st3.trans ?_
      exact kt
    obtain ⟨fs, hr, hrun, hended, hW, hsame⟩ := X3.leave (v := some (.ref b2)) (fun h => by rw [Bd.returns] at h; cases h) (BodyLoose.notSynchronized Bd)
    refine ⟨_, _, ?_, hrun, hended, _, _, rfl, ?_, ⟨_, rfl⟩, hW, hsame.mono (by decide) (by decide)⟩
    · show Steps p.tables e below (T3.setTop (mkF m 39 #[.val (.long q0), .second, .val (.int (128 : Int32))] [(.ref b2)])) _
      exact own_retA X3 hx Bd.returns rfl rfl (hb hby d8_39) hr
    · show Q8 Z q0 wc h0 n0 _ T3.heap _
      exact ⟨b2, rfl, N3, K3, P3_0⟩
  · refine own_back (b := s₁.setTop (mkF m 17 #[.val (.long q0), .second, .val (.int (128 : Int32))] [(.int (lcmpW q0 (127 : Int64)))])) (fun t kt => ?_) ?_
    · show Steps p.tables e below (s₁.setTop (mkF m 9 #[.val (.long q0), .second, .val (.int (128 : Int32))] [(.int (lcmpW q0 (-128 : Int64)))])) _
      refine XS.ifNo X0.here hx rfl (hb hby d8_9) rfl ((if0 _ _).trans (flt (fun q => hc9_1 ((lw_lt _ _).mp q))).1) ?_
      show Steps p.tables e below (s₁.setTop (mkF m 12 #[.val (.long q0), .second, .val (.int (128 : Int32))] [])) _
      refine XS.lloadN X0.here hx rfl (hb hby d8_12) rfl ?_
      show Steps p.tables e below (s₁.setTop (mkF m 13 #[.val (.long q0), .second, .val (.int (128 : Int32))] [(.long q0)])) _
      refine X0.ldc2Long hx hown (mvT hZ (hw _ (List.mem_of_getElem? (i := 40) rfl))) (g := (mkF m 13 #[.val (.long q0), .second, .val (.int (128 : Int32))] [(.long q0)])) rfl (hb hby d8_13) _ ?_
      show Steps p.tables e below (s₁.setTop (mkF m 16 #[.val (.long q0), .second, .val (.int (128 : Int32))] [(.long (127 : Int64)), (.long q0)])) _
      refine XS.lcmp X0.here hx rfl (hb hby d8_16) rfl ?_
      exact kt
    by_cases hc17_4 : (127 : Int64) < q0
    · obtain ⟨T5, h5, X5, e5, E5, A5, D5, -, st5⟩ := newO X0 hx hZ hown (hw _ (List.mem_of_getElem? (i := 46) rfl)) (hw _ (List.mem_of_getElem? (i := 47) rfl)) (hw _ (List.mem_of_getElem? (i := 37) rfl)) e0 (g := (mkF m 31 #[.val (.long q0), .second, .val (.int (128 : Int32))] [])) rfl (hb hby d8_31) (by decide) (by decide)
      obtain ⟨b5, g5⟩ : ∃ z, z = h0.size := ⟨_, rfl⟩
      rw [← g5] at A5 D5 st5
      have lo5 : n0 ≤ b5 := Nat.le_trans Z0 (Nat.le_of_eq g5.symm)
      have sz5 : h0.size ≤ b5 := Nat.le_trans (Nat.le_refl _) (Nat.le_of_eq g5.symm)
      have f5_0 := S_cache.ext E5
      have K5 : Keep h0 h5 [] := (Keep.refl h0 _).ext E5
      have Z5 : n0 ≤ h5.size := Nat.le_trans Z0 E5.1
      have F5_value : Fld Z h5 b5 "java/lang/Long" "value" "J" (.long (0 : Int64)) := D5 (Or.inr (hw _ (List.mem_of_getElem? (i := 60) rfl))) (ty := .long) (by decide)
      obtain ⟨_, _, ⟨T6, L6, k6, n6⟩, -, X6, ⟨Lc6, hQ6, l6, y6, z6⟩, st6⟩ := X5.specialBack hx (y := (⟨"java/lang/Long", "<init>", "(J)V"⟩ : MethodName)) rfl hown (mvT hZ (hw _ (List.mem_of_getElem? (i := 48) rfl))) (mvT hZ (hw _ (List.mem_of_getElem? (i := 49) rfl))) (mvT hZ (hw _ (List.mem_of_getElem? (i := 51) rfl))) (by decide) (backOf (W := 1) (rm9 l Z aw hw [] b5 q0 h5 n0 Z5 F5_value A5 lo5) hZ (hw _ (List.mem_of_getElem? (i := 51) rfl)) (hw _ (List.mem_of_getElem? (i := 37) rfl)) (by decide) (by decide)) (g := (mkF m 36 #[.val (.long q0), .second, .val (.int (128 : Int32))] [(.long q0), (.ref b5), (.ref b5)])) rfl (by rw [hml]; rfl) (Steps.refl _) (a := b5) (argsL := [(.long q0)]) (rest := [(.ref b5)]) (lenOf pd_8_0 rfl) rfl (by show 2 * 0 + _ ≤ _; exact Nat.le_of_eq rfl) (hb hby d8_36) (fun _ _ => ⟨rfl, e5, (by decide : 1 + 0 ≤ _), (by decide : 1 + 0 ≤ _)⟩)
      dsimp only [Pt.U, Pt.locs, Pt.cells, Pt.slots] at X6 l6 y6 z6 st6 hQ6
      subst l6 y6 z6
      obtain ⟨rfl, Nq6, Kq6, P6_0⟩ := hQ6
      have N6 := Fr.app N0 Nq6
      have K6 : Keep h0 T6.heap [] := K5.trans Kq6 (allS (Or.inr sz5) all0)
      have Z6 : n0 ≤ T6.heap.size := Nat.le_trans Z5 Kq6.1
      refine own_back (b := T6.setTop (mkF m 39 #[.val (.long q0), .second, .val (.int (128 : Int32))] [(.ref b5)])) (fun t kt => ?_) ?_
      · show Steps p.tables e below (s₁.setTop (mkF m 17 #[.val (.long q0), .second, .val (.int (128 : Int32))] [(.int (lcmpW q0 (127 : Int64)))])) _
        refine XS.ifYes X0.here hx rfl (pc0 := 17) (pc' := 31) rfl (hb hby d8_17) rfl ((if0 _ _).trans (tlt ((lw_gt _ _).mpr hc17_4)).2.2.1) (by decide) (by decide) ?_
        show Steps p.tables e below (s₁.setTop (mkF m 31 #[.val (.long q0), .second, .val (.int (128 : Int32))] [])) _
        refine st5 _ ?_
        show Steps p.tables e below (T5.setTop (mkF m 34 #[.val (.long q0), .second, .val (.int (128 : Int32))] [(.ref b5)])) _
        refine XS.dup X5.here hx rfl (hb hby d8_34) rfl rfl ?_
        show Steps p.tables e below (T5.setTop (mkF m 35 #[.val (.long q0), .second, .val (.int (128 : Int32))] [(.ref b5), (.ref b5)])) _
        refine XS.lloadN X5.here hx rfl (hb hby d8_35) rfl ?_
        show Steps p.tables e below (T5.setTop (mkF m 36 #[.val (.long q0), .second, .val (.int (128 : Int32))] [(.long q0), (.ref b5), (.ref b5)])) _
        refine st6.trans ?_
        exact kt
      obtain ⟨fs, hr, hrun, hended, hW, hsame⟩ := X6.leave (v := some (.ref b5)) (fun h => by rw [Bd.returns] at h; cases h) (BodyLoose.notSynchronized Bd)
      refine ⟨_, _, ?_, hrun, hended, _, _, rfl, ?_, ⟨_, rfl⟩, hW, hsame.mono (by decide) (by decide)⟩
      · show Steps p.tables e below (T6.setTop (mkF m 39 #[.val (.long q0), .second, .val (.int (128 : Int32))] [(.ref b5)])) _
        exact own_retA X6 hx Bd.returns rfl rfl (hb hby d8_39) hr
      · show Q8 Z q0 wc h0 n0 _ T6.heap _
        exact ⟨b5, rfl, N6, K6, P6_0⟩
    · obtain ⟨T7, X7, e7, st7⟩ := getS2 X0 hx hZ hown (host := "") (Or.inl (hw _ (List.mem_of_getElem? (i := 41) rfl))) Via.refl e0 S_cache (g := (mkF m 20 #[.val (.long q0), .second, .val (.int (128 : Int32))] [])) rfl (hb hby d8_20)
      obtain ⟨cl8, Ar8, Sz8, El8⟩ := own_same X_lc
      have hj8 := own_ci q0 hc9_1 hc17_4
      obtain ⟨bE8, hat8, EE8⟩ := El8 _ hj8.2
      have hin8 : ¬ (((q0.toInt32) + (128 : Int32)) < 0 ∨ cl8.slots.size ≤ (((q0.toInt32) + (128 : Int32))).toNatClampNeg) := by rw [Sz8]; exact fun q => q.elim hj8.1 (fun z => absurd hj8.2 (Nat.not_lt.mpr z))
      refine own_back (b := T7.setTop (mkF m 30 #[.val (.long q0), .second, .val (.int (128 : Int32))] [(.ref bE8)])) (fun t kt => ?_) ?_
      · show Steps p.tables e below (s₁.setTop (mkF m 17 #[.val (.long q0), .second, .val (.int (128 : Int32))] [(.int (lcmpW q0 (127 : Int64)))])) _
        refine XS.ifNo X0.here hx rfl (hb hby d8_17) rfl ((if0 _ _).trans (flt (fun q => hc17_4 ((lw_gt _ _).mp q))).2.2.1) ?_
        show Steps p.tables e below (s₁.setTop (mkF m 20 #[.val (.long q0), .second, .val (.int (128 : Int32))] [])) _
        refine st7 _ ?_
        show Steps p.tables e below (T7.setTop (mkF m 23 #[.val (.long q0), .second, .val (.int (128 : Int32))] [(.ref wc)])) _
        refine XS.lloadN X7.here hx rfl (hb hby d8_23) rfl ?_
        show Steps p.tables e below (T7.setTop (mkF m 24 #[.val (.long q0), .second, .val (.int (128 : Int32))] [(.long q0), (.ref wc)])) _
        refine XS.l2i X7.here hx rfl (hb hby d8_24) rfl ?_
        show Steps p.tables e below (T7.setTop (mkF m 25 #[.val (.long q0), .second, .val (.int (128 : Int32))] [(.int (q0.toInt32)), (.ref wc)])) _
        refine XS.sipush X7.here hx rfl (hb hby d8_25) ?_
        show Steps p.tables e below (T7.setTop (mkF m 28 #[.val (.long q0), .second, .val (.int (128 : Int32))] [(.int (128 : Int32)), (.int (q0.toInt32)), (.ref wc)])) _
        refine XS.iadd X7.here hx rfl (hb hby d8_28) rfl ?_
        show Steps p.tables e below (T7.setTop (mkF m 29 #[.val (.long q0), .second, .val (.int (128 : Int32))] [(.int ((q0.toInt32) + (128 : Int32))), (.ref wc)])) _
        refine X7.aaload hx (j := ((q0.toInt32) + (128 : Int32))) (v := (.ref bE8)) (by rw [e7]; exact Ar8.1) (State.isArrayOf_alike hZ.alike Ar8.2.1) rfl Ar8.2.2 hin8 hat8 (g := (mkF m 29 #[.val (.long q0), .second, .val (.int (128 : Int32))] [(.int ((q0.toInt32) + (128 : Int32))), (.ref wc)])) rfl rfl (hb hby d8_29) _ ?_
        exact kt
      obtain ⟨fs, hr, hrun, hended, hW, hsame⟩ := X7.leave (v := some (.ref bE8)) (fun h => by rw [Bd.returns] at h; cases h) (BodyLoose.notSynchronized Bd)
      refine ⟨_, _, ?_, hrun, hended, _, _, rfl, ?_, ⟨_, rfl⟩, hW, hsame.mono (by decide) (by decide)⟩
      · show Steps p.tables e below (T7.setTop (mkF m 30 #[.val (.long q0), .second, .val (.int (128 : Int32))] [(.ref bE8)])) _
        exact own_retA X7 hx Bd.returns rfl rfl (hb hby d8_30) hr
      · show Q8 Z q0 wc h0 n0 _ T7.heap _
        rw [e7]
        exact ⟨bE8, rfl, N0, (Keep.refl h0 _), EE8⟩
theorem d7_0 : decode prog_3_method_5_code 0 = .ok (.aload_n 1, 1) := by decide +kernel
theorem d7_1 : decode prog_3_method_5_code 1 = .ok (.instanceof 17, 3) := by decide +kernel
theorem d7_4 : decode prog_3_method_5_code 4 = .ok (.ifCond .eq 37, 3) := by decide +kernel
theorem d7_7 : decode prog_3_method_5_code 7 = .ok (.aload_n 1, 1) := by decide +kernel
theorem d7_8 : decode prog_3_method_5_code 8 = .ok (.checkcast 17, 3) := by decide +kernel
theorem d7_11 : decode prog_3_method_5_code 11 = .ok (.getfield 16, 3) := by decide +kernel
theorem d7_14 : decode prog_3_method_5_code 14 = .ok (.aload_n 0, 1) := by decide +kernel
theorem d7_15 : decode prog_3_method_5_code 15 = .ok (.getfield 16, 3) := by decide +kernel
theorem d7_18 : decode prog_3_method_5_code 18 = .ok (.lcmp, 1) := by decide +kernel
theorem d7_19 : decode prog_3_method_5_code 19 = .ok (.ifCond .ne 22, 3) := by decide +kernel
theorem d7_22 : decode prog_3_method_5_code 22 = .ok (.aload_n 1, 1) := by decide +kernel
theorem d7_23 : decode prog_3_method_5_code 23 = .ok (.checkcast 17, 3) := by decide +kernel
theorem d7_26 : decode prog_3_method_5_code 26 = .ok (.getfield 22, 3) := by decide +kernel
theorem d7_29 : decode prog_3_method_5_code 29 = .ok (.aload_n 0, 1) := by decide +kernel
theorem d7_30 : decode prog_3_method_5_code 30 = .ok (.getfield 22, 3) := by decide +kernel
theorem d7_33 : decode prog_3_method_5_code 33 = .ok (.lcmp, 1) := by decide +kernel
theorem d7_34 : decode prog_3_method_5_code 34 = .ok (.ifCond .ne 7, 3) := by decide +kernel
theorem d7_37 : decode prog_3_method_5_code 37 = .ok (.iconst 1, 1) := by decide +kernel
theorem d7_38 : decode prog_3_method_5_code 38 = .ok (.goto 4, 3) := by decide +kernel
theorem d7_41 : decode prog_3_method_5_code 41 = .ok (.iconst 0, 1) := by decide +kernel
theorem d7_42 : decode prog_3_method_5_code 42 = .ok (.ireturn, 1) := by decide +kernel
theorem pn_7a : plainName "com/example/byteloom/byteloom/ByteRange" = true := by first | (simp [plainName, overriddenIn]; done) | decide +kernel
theorem ef_7a (m : MethodId) (x0 : Addr) (x1 : Addr) : entryFrame m #[(.ref x0), (.ref x1)] 2 = mkF m 0 #[.val (.ref x0), .val (.ref x1)] [] := by first | (simp [entryFrame, mkF, argsToLocals, Value.category]; done) | rfl
def f7a (w1 : Int64) (w2 : Int64) (w3 : Int64) (w4 : Int64) : Int32 := (if w3 = w1 then (if w4 = w2 then (1 : Int32) else (0 : Int32)) else (0 : Int32))
def Q7a (Z : State) (a0 : Addr) (a1 : Addr) (w1 : Int64) (w2 : Int64) (w3 : Int64) (w4 : Int64) (h0 : Heap) (n0 : Nat) (v : Option Value) (h : Heap) (L : List Loc) : Prop := v = some (.int (f7a w1 w2 w3 w4)) ∧ Fr n0 L ∧ h = h0
set_option maxRecDepth 65536 in
set_option maxHeartbeats 40000000 in
theorem rm7a (l : Launch) (Z : State) (aw : Array Value) (hw : ∀ d ∈ tables_1, d.before aw Z = true) (ws : List Jvm.Cond) (a0 : Addr) (a1 : Addr) (w1 : Int64) (w2 : Int64) (w3 : Int64) (w4 : Int64) (h0 : Heap) (n0 : Nat) (Z0 : n0 ≤ h0.size) (F_from_a0 : Fld Z h0 a0 "com/example/byteloom/byteloom/ByteRange" "from" "J" (.long w1)) (F_to_a0 : Fld Z h0 a0 "com/example/byteloom/byteloom/ByteRange" "to" "J" (.long w2)) (F_from_a1 : Fld Z h0 a1 "com/example/byteloom/byteloom/ByteRange" "from" "J" (.long w3)) (F_to_a1 : Fld Z h0 a1 "com/example/byteloom/byteloom/ByteRange" "to" "J" (.long w4)) (E_a1 : Exa Z h0 a1 "com/example/byteloom/byteloom/ByteRange") :
    MetFree l (⟨"com/example/byteloom/byteloom/ByteRange", "equals", "(Ljava/lang/Object;)Z"⟩ : MethodName) (head1 (Jvm.Cond.code (⟨"com/example/byteloom/byteloom/ByteRange", "equals", "(Ljava/lang/Object;)Z"⟩ : MethodName) prog_3_method_5_code 2 (some .boolean) :: ws) ({ frames := 0, cells := 0, slots := 0, locals := 0 } : Room)) (fun a U => a = #[(.ref a0), (.ref a1)] ∧ Z.Warmed39 U.vm ∧ U.heap = h0) (fun _ _ _ _ _ => True) (fun _ U o U' => ∃ v L, o = .returned v ∧ Q7a Z a0 a1 w1 w2 w3 w4 h0 n0 v U'.heap L ∧ FrameEnd U o U' L ({ frames := 0, cells := 0, slots := 0, locals := 0 } : Room).cells ({ frames := 0, cells := 0, slots := 0, locals := 0 } : Room).slots) := by
  refine MetFree.of_bodySF (plainFor_of_name pn_7a) hisR ?_
  intro p e s m args below meth c s₁ Bd hml0 hP hK
  obtain ⟨rfl, hZ, hh⟩ := hP
  have hx := Bd.exec
  have hby := Bd.bytes
  have hml : c.maxLocals = 2 := hml0
  have hown : s.vm.findClass "com/example/byteloom/byteloom/ByteRange" = some m.cls := findClass_of_methodNamed Bd.named
  have hnm := (name_of_methodNamed Bd.named Bd.method).1
  have X0 : Stand p l e ({ frames := 0, cells := 0, slots := 0, locals := 0 } : Room) s m #[(.ref a0), (.ref a1)] below meth c s₁ [] 0 0 := Stand.of_body Bd
  have e0 : s₁.heap = h0 := by rw [← hh, Bd.state]; rfl
  have N0 := Fr.nil n0
  refine own_back (b := s₁.setTop (mkF m 0 #[.val (.ref a0), .val (.ref a1)] [])) (fun t kt => castTop (ef_7a m a0 a1) kt) ?_
  obtain ⟨T1, X1, e1, st1⟩ := instY X0 hx hZ hown (hw _ (List.mem_of_getElem? (i := 33) rfl)) e0 (Ins.self E_a1) (g := (mkF m 1 #[.val (.ref a0), .val (.ref a1)] [(.ref a1)])) rfl rfl (hb hby d7_1)
  obtain ⟨T2, X2, e2, st2⟩ := castY X1 hx hZ hown (hw _ (List.mem_of_getElem? (i := 33) rfl)) e1 (Ins.self E_a1) (g := (mkF m 8 #[.val (.ref a0), .val (.ref a1)] [(.ref a1)])) rfl rfl (hb hby d7_8)
  obtain ⟨T3, X3, e3, st3⟩ := getF X2 hx hZ hown (host := "") (Or.inl (hw _ (List.mem_of_getElem? (i := 24) rfl))) Via.refl e2 F_from_a1 (g := (mkF m 11 #[.val (.ref a0), .val (.ref a1)] [(.ref a1)])) rfl rfl (hb hby d7_11)
  obtain ⟨T4, X4, e4, st4⟩ := getF X3 hx hZ hown (host := "") (Or.inl (hw _ (List.mem_of_getElem? (i := 24) rfl))) Via.refl e3 F_from_a0 (g := (mkF m 15 #[.val (.ref a0), .val (.ref a1)] [(.ref a0), (.long w3)])) rfl rfl (hb hby d7_15)
  refine own_back (b := T4.setTop (mkF m 19 #[.val (.ref a0), .val (.ref a1)] [(.int (lcmpW w3 w1))])) (fun t kt => ?_) ?_
  · show Steps p.tables e below (s₁.setTop (mkF m 0 #[.val (.ref a0), .val (.ref a1)] [])) _
    refine XS.aloadN X0.here hx rfl (hb hby d7_0) rfl rfl ?_
    show Steps p.tables e below (s₁.setTop (mkF m 1 #[.val (.ref a0), .val (.ref a1)] [(.ref a1)])) _
    refine st1 _ ?_
    show Steps p.tables e below (T1.setTop (mkF m 4 #[.val (.ref a0), .val (.ref a1)] [(.int (1 : Int32))])) _
    refine XS.ifNo X1.here hx rfl (hb hby d7_4) rfl ((if0 _ _).trans (feq (by decide : ¬ ((1 : Int32) = (0 : Int32)))).1) ?_
    show Steps p.tables e below (T1.setTop (mkF m 7 #[.val (.ref a0), .val (.ref a1)] [])) _
    refine XS.aloadN X1.here hx rfl (hb hby d7_7) rfl rfl ?_
    show Steps p.tables e below (T1.setTop (mkF m 8 #[.val (.ref a0), .val (.ref a1)] [(.ref a1)])) _
    refine st2 _ ?_
    show Steps p.tables e below (T2.setTop (mkF m 11 #[.val (.ref a0), .val (.ref a1)] [(.ref a1)])) _
    refine st3 _ ?_
    show Steps p.tables e below (T3.setTop (mkF m 14 #[.val (.ref a0), .val (.ref a1)] [(.long w3)])) _
    refine XS.aloadN X3.here hx rfl (hb hby d7_14) rfl rfl ?_
    show Steps p.tables e below (T3.setTop (mkF m 15 #[.val (.ref a0), .val (.ref a1)] [(.ref a0), (.long w3)])) _
    refine st4 _ ?_
    show Steps p.tables e below (T4.setTop (mkF m 18 #[.val (.ref a0), .val (.ref a1)] [(.long w1), (.long w3)])) _
    refine XS.lcmp X4.here hx rfl (hb hby d7_18) rfl ?_
    exact kt
  by_cases hc19_5 : w3 = w1
  · obtain ⟨T6, X6, e6, st6⟩ := castY X4 hx hZ hown (hw _ (List.mem_of_getElem? (i := 33) rfl)) e4 (Ins.self E_a1) (g := (mkF m 23 #[.val (.ref a0), .val (.ref a1)] [(.ref a1)])) rfl rfl (hb hby d7_23)
    obtain ⟨T7, X7, e7, st7⟩ := getF X6 hx hZ hown (host := "") (Or.inl (hw _ (List.mem_of_getElem? (i := 26) rfl))) Via.refl e6 F_to_a1 (g := (mkF m 26 #[.val (.ref a0), .val (.ref a1)] [(.ref a1)])) rfl rfl (hb hby d7_26)
    obtain ⟨T8, X8, e8, st8⟩ := getF X7 hx hZ hown (host := "") (Or.inl (hw _ (List.mem_of_getElem? (i := 26) rfl))) Via.refl e7 F_to_a0 (g := (mkF m 30 #[.val (.ref a0), .val (.ref a1)] [(.ref a0), (.long w4)])) rfl rfl (hb hby d7_30)
    refine own_back (b := T8.setTop (mkF m 34 #[.val (.ref a0), .val (.ref a1)] [(.int (lcmpW w4 w2))])) (fun t kt => ?_) ?_
    · show Steps p.tables e below (T4.setTop (mkF m 19 #[.val (.ref a0), .val (.ref a1)] [(.int (lcmpW w3 w1))])) _
      refine XS.ifNo X4.here hx rfl (hb hby d7_19) rfl ((if0 _ _).trans (teq ((lw_eq _ _).mpr hc19_5)).2) ?_
      show Steps p.tables e below (T4.setTop (mkF m 22 #[.val (.ref a0), .val (.ref a1)] [])) _
      refine XS.aloadN X4.here hx rfl (hb hby d7_22) rfl rfl ?_
      show Steps p.tables e below (T4.setTop (mkF m 23 #[.val (.ref a0), .val (.ref a1)] [(.ref a1)])) _
      refine st6 _ ?_
      show Steps p.tables e below (T6.setTop (mkF m 26 #[.val (.ref a0), .val (.ref a1)] [(.ref a1)])) _
      refine st7 _ ?_
      show Steps p.tables e below (T7.setTop (mkF m 29 #[.val (.ref a0), .val (.ref a1)] [(.long w4)])) _
      refine XS.aloadN X7.here hx rfl (hb hby d7_29) rfl rfl ?_
      show Steps p.tables e below (T7.setTop (mkF m 30 #[.val (.ref a0), .val (.ref a1)] [(.ref a0), (.long w4)])) _
      refine st8 _ ?_
      show Steps p.tables e below (T8.setTop (mkF m 33 #[.val (.ref a0), .val (.ref a1)] [(.long w2), (.long w4)])) _
      refine XS.lcmp X8.here hx rfl (hb hby d7_33) rfl ?_
      exact kt
    by_cases hc34_9 : w4 = w2
    · refine own_back (b := T8.setTop (mkF m 42 #[.val (.ref a0), .val (.ref a1)] [(.int (1 : Int32))])) (fun t kt => ?_) ?_
      · show Steps p.tables e below (T8.setTop (mkF m 34 #[.val (.ref a0), .val (.ref a1)] [(.int (lcmpW w4 w2))])) _
        refine XS.ifNo X8.here hx rfl (hb hby d7_34) rfl ((if0 _ _).trans (teq ((lw_eq _ _).mpr hc34_9)).2) ?_
        show Steps p.tables e below (T8.setTop (mkF m 37 #[.val (.ref a0), .val (.ref a1)] [])) _
        refine XS.iconst X8.here hx rfl (hb hby d7_37) ?_
        show Steps p.tables e below (T8.setTop (mkF m 38 #[.val (.ref a0), .val (.ref a1)] [(.int (1 : Int32))])) _
        refine XS.goto X8.here hx rfl (pc0 := 38) (pc' := 42) rfl (hb hby d7_38) (by decide) (by decide) ?_
        exact kt
      obtain ⟨fs, hr, hrun, hended, hW, hsame⟩ := X8.leave (v := some (.int (1 : Int32))) (fun h => by rw [Bd.returns] at h; cases h) (BodyLoose.notSynchronized Bd)
      refine ⟨_, _, ?_, hrun, hended, _, _, rfl, ?_, ⟨_, rfl⟩, hW, hsame.mono (by decide) (by decide)⟩
      · show Steps p.tables e below (T8.setTop (mkF m 42 #[.val (.ref a0), .val (.ref a1)] [(.int (1 : Int32))])) _
        exact retN X8 hx (t := .boolean) Bd.returns (by simp) (hb hby d7_42) hr
      · show Q7a Z a0 a1 w1 w2 w3 w4 h0 n0 _ T8.heap _
        rw [e8]
        exact ⟨by rw [show f7a w1 w2 w3 w4 = (1 : Int32) from by unfold f7a; rw [if_pos hc19_5, if_pos hc34_9]], N0, rfl⟩
    · refine own_back (b := T8.setTop (mkF m 42 #[.val (.ref a0), .val (.ref a1)] [(.int (0 : Int32))])) (fun t kt => ?_) ?_
      · show Steps p.tables e below (T8.setTop (mkF m 34 #[.val (.ref a0), .val (.ref a1)] [(.int (lcmpW w4 w2))])) _
        refine XS.ifYes X8.here hx rfl (pc0 := 34) (pc' := 41) rfl (hb hby d7_34) rfl ((if0 _ _).trans (feq (fun q => hc34_9 ((lw_eq _ _).mp q))).2) (by decide) (by decide) ?_
        show Steps p.tables e below (T8.setTop (mkF m 41 #[.val (.ref a0), .val (.ref a1)] [])) _
        refine XS.iconst X8.here hx rfl (hb hby d7_41) ?_
        exact kt
      obtain ⟨fs, hr, hrun, hended, hW, hsame⟩ := X8.leave (v := some (.int (0 : Int32))) (fun h => by rw [Bd.returns] at h; cases h) (BodyLoose.notSynchronized Bd)
      refine ⟨_, _, ?_, hrun, hended, _, _, rfl, ?_, ⟨_, rfl⟩, hW, hsame.mono (by decide) (by decide)⟩
      · show Steps p.tables e below (T8.setTop (mkF m 42 #[.val (.ref a0), .val (.ref a1)] [(.int (0 : Int32))])) _
        exact retN X8 hx (t := .boolean) Bd.returns (by simp) (hb hby d7_42) hr
      · show Q7a Z a0 a1 w1 w2 w3 w4 h0 n0 _ T8.heap _
        rw [e8]
        exact ⟨by rw [show f7a w1 w2 w3 w4 = (0 : Int32) from by unfold f7a; rw [if_pos hc19_5, if_neg hc34_9]], N0, rfl⟩
  · refine own_back (b := T4.setTop (mkF m 42 #[.val (.ref a0), .val (.ref a1)] [(.int (0 : Int32))])) (fun t kt => ?_) ?_
    · show Steps p.tables e below (T4.setTop (mkF m 19 #[.val (.ref a0), .val (.ref a1)] [(.int (lcmpW w3 w1))])) _
      refine XS.ifYes X4.here hx rfl (pc0 := 19) (pc' := 41) rfl (hb hby d7_19) rfl ((if0 _ _).trans (feq (fun q => hc19_5 ((lw_eq _ _).mp q))).2) (by decide) (by decide) ?_
      show Steps p.tables e below (T4.setTop (mkF m 41 #[.val (.ref a0), .val (.ref a1)] [])) _
      refine XS.iconst X4.here hx rfl (hb hby d7_41) ?_
      exact kt
    obtain ⟨fs, hr, hrun, hended, hW, hsame⟩ := X4.leave (v := some (.int (0 : Int32))) (fun h => by rw [Bd.returns] at h; cases h) (BodyLoose.notSynchronized Bd)
    refine ⟨_, _, ?_, hrun, hended, _, _, rfl, ?_, ⟨_, rfl⟩, hW, hsame.mono (by decide) (by decide)⟩
    · show Steps p.tables e below (T4.setTop (mkF m 42 #[.val (.ref a0), .val (.ref a1)] [(.int (0 : Int32))])) _
      exact retN X4 hx (t := .boolean) Bd.returns (by simp) (hb hby d7_42) hr
    · show Q7a Z a0 a1 w1 w2 w3 w4 h0 n0 _ T4.heap _
      rw [e4]
      exact ⟨by rw [show f7a w1 w2 w3 w4 = (0 : Int32) from by unfold f7a; rw [if_neg hc19_5]], N0, rfl⟩
theorem pn_7n : plainName "com/example/byteloom/byteloom/ByteRange" = true := by first | (simp [plainName, overriddenIn]; done) | decide +kernel
theorem ef_7n (m : MethodId) (x0 : Addr) : entryFrame m #[(.ref x0), .null] 2 = mkF m 0 #[.val (.ref x0), .val .null] [] := by first | (simp [entryFrame, mkF, argsToLocals, Value.category]; done) | rfl
def Q7n (Z : State) (a0 : Addr) (h0 : Heap) (n0 : Nat) (v : Option Value) (h : Heap) (L : List Loc) : Prop := v = some (.int (0 : Int32)) ∧ Fr n0 L ∧ h = h0
set_option maxRecDepth 65536 in
set_option maxHeartbeats 40000000 in
theorem rm7n (l : Launch) (Z : State) (aw : Array Value) (hw : ∀ d ∈ tables_1, d.before aw Z = true) (ws : List Jvm.Cond) (a0 : Addr) (h0 : Heap) (n0 : Nat) (Z0 : n0 ≤ h0.size) :
    MetFree l (⟨"com/example/byteloom/byteloom/ByteRange", "equals", "(Ljava/lang/Object;)Z"⟩ : MethodName) (head1 (Jvm.Cond.code (⟨"com/example/byteloom/byteloom/ByteRange", "equals", "(Ljava/lang/Object;)Z"⟩ : MethodName) prog_3_method_5_code 2 (some .boolean) :: ws) ({ frames := 0, cells := 0, slots := 0, locals := 0 } : Room)) (fun a U => a = #[(.ref a0), .null] ∧ Z.Warmed39 U.vm ∧ U.heap = h0) (fun _ _ _ _ _ => True) (fun _ U o U' => ∃ v L, o = .returned v ∧ Q7n Z a0 h0 n0 v U'.heap L ∧ FrameEnd U o U' L ({ frames := 0, cells := 0, slots := 0, locals := 0 } : Room).cells ({ frames := 0, cells := 0, slots := 0, locals := 0 } : Room).slots) := by
  refine MetFree.of_bodySF (plainFor_of_name pn_7n) hisR ?_
  intro p e s m args below meth c s₁ Bd hml0 hP hK
  obtain ⟨rfl, hZ, hh⟩ := hP
  have hx := Bd.exec
  have hby := Bd.bytes
  have hml : c.maxLocals = 2 := hml0
  have hown : s.vm.findClass "com/example/byteloom/byteloom/ByteRange" = some m.cls := findClass_of_methodNamed Bd.named
  have hnm := (name_of_methodNamed Bd.named Bd.method).1
  have X0 : Stand p l e ({ frames := 0, cells := 0, slots := 0, locals := 0 } : Room) s m #[(.ref a0), .null] below meth c s₁ [] 0 0 := Stand.of_body Bd
  have e0 : s₁.heap = h0 := by rw [← hh, Bd.state]; rfl
  have N0 := Fr.nil n0
  refine own_back (b := s₁.setTop (mkF m 0 #[.val (.ref a0), .val .null] [])) (fun t kt => castTop (ef_7n m a0) kt) ?_
  refine own_back (b := s₁.setTop (mkF m 42 #[.val (.ref a0), .val .null] [(.int (0 : Int32))])) (fun t kt => ?_) ?_
  · show Steps p.tables e below (s₁.setTop (mkF m 0 #[.val (.ref a0), .val .null] [])) _
    refine XS.aloadN X0.here hx rfl (hb hby d7_0) rfl rfl ?_
    show Steps p.tables e below (s₁.setTop (mkF m 1 #[.val (.ref a0), .val .null] [.null])) _
    refine X0.instanceofNull hx (g := (mkF m 1 #[.val (.ref a0), .val .null] [.null])) rfl rfl (hb hby d7_1) _ ?_
    show Steps p.tables e below (s₁.setTop (mkF m 4 #[.val (.ref a0), .val .null] [(.int (0 : Int32))])) _
    refine XS.ifYes X0.here hx rfl (pc0 := 4) (pc' := 41) rfl (hb hby d7_4) rfl ((if0 _ _).trans (teq (by decide : (0 : Int32) = (0 : Int32))).1) (by decide) (by decide) ?_
    show Steps p.tables e below (s₁.setTop (mkF m 41 #[.val (.ref a0), .val .null] [])) _
    refine XS.iconst X0.here hx rfl (hb hby d7_41) ?_
    exact kt
  obtain ⟨fs, hr, hrun, hended, hW, hsame⟩ := X0.leave (v := some (.int (0 : Int32))) (fun h => by rw [Bd.returns] at h; cases h) (BodyLoose.notSynchronized Bd)
  refine ⟨_, _, ?_, hrun, hended, _, _, rfl, ?_, ⟨_, rfl⟩, hW, hsame.mono (by decide) (by decide)⟩
  · show Steps p.tables e below (s₁.setTop (mkF m 42 #[.val (.ref a0), .val .null] [(.int (0 : Int32))])) _
    exact retN X0 hx (t := .boolean) Bd.returns (by simp) (hb hby d7_42) hr
  · show Q7n Z a0 h0 n0 _ s₁.heap _
    rw [e0]
    exact ⟨rfl, N0, rfl⟩
theorem pn_7l : plainName "com/example/byteloom/byteloom/ByteRange" = true := by first | (simp [plainName, overriddenIn]; done) | decide +kernel
theorem ef_7l (m : MethodId) (x0 : Addr) (x1 : Addr) : entryFrame m #[(.ref x0), (.ref x1)] 2 = mkF m 0 #[.val (.ref x0), .val (.ref x1)] [] := by first | (simp [entryFrame, mkF, argsToLocals, Value.category]; done) | rfl
def Q7l (Z : State) (a0 : Addr) (a1 : Addr) (h0 : Heap) (n0 : Nat) (v : Option Value) (h : Heap) (L : List Loc) : Prop := v = some (.int (0 : Int32)) ∧ Fr n0 L ∧ h = h0
set_option maxRecDepth 65536 in
set_option maxHeartbeats 40000000 in
theorem rm7l (l : Launch) (Z : State) (aw : Array Value) (hw : ∀ d ∈ tables_1, d.before aw Z = true) (ws : List Jvm.Cond) (a0 : Addr) (a1 : Addr) (h0 : Heap) (n0 : Nat) (Z0 : n0 ≤ h0.size) (E_a1 : Exa Z h0 a1 "java/lang/Long") :
    MetFree l (⟨"com/example/byteloom/byteloom/ByteRange", "equals", "(Ljava/lang/Object;)Z"⟩ : MethodName) (head1 (Jvm.Cond.code (⟨"com/example/byteloom/byteloom/ByteRange", "equals", "(Ljava/lang/Object;)Z"⟩ : MethodName) prog_3_method_5_code 2 (some .boolean) :: ws) ({ frames := 0, cells := 0, slots := 0, locals := 0 } : Room)) (fun a U => a = #[(.ref a0), (.ref a1)] ∧ Z.Warmed39 U.vm ∧ U.heap = h0) (fun _ _ _ _ _ => True) (fun _ U o U' => ∃ v L, o = .returned v ∧ Q7l Z a0 a1 h0 n0 v U'.heap L ∧ FrameEnd U o U' L ({ frames := 0, cells := 0, slots := 0, locals := 0 } : Room).cells ({ frames := 0, cells := 0, slots := 0, locals := 0 } : Room).slots) := by
  refine MetFree.of_bodySF (plainFor_of_name pn_7l) hisR ?_
  intro p e s m args below meth c s₁ Bd hml0 hP hK
  obtain ⟨rfl, hZ, hh⟩ := hP
  have hx := Bd.exec
  have hby := Bd.bytes
  have hml : c.maxLocals = 2 := hml0
  have hown : s.vm.findClass "com/example/byteloom/byteloom/ByteRange" = some m.cls := findClass_of_methodNamed Bd.named
  have hnm := (name_of_methodNamed Bd.named Bd.method).1
  have X0 : Stand p l e ({ frames := 0, cells := 0, slots := 0, locals := 0 } : Room) s m #[(.ref a0), (.ref a1)] below meth c s₁ [] 0 0 := Stand.of_body Bd
  have e0 : s₁.heap = h0 := by rw [← hh, Bd.state]; rfl
  have N0 := Fr.nil n0
  refine own_back (b := s₁.setTop (mkF m 0 #[.val (.ref a0), .val (.ref a1)] [])) (fun t kt => castTop (ef_7l m a0 a1) kt) ?_
  obtain ⟨T1, X1, e1, st1⟩ := instNo X0 hx hZ hown (hw _ (List.mem_of_getElem? (i := 33) rfl)) e0 E_a1 (own_no (hw _ (List.mem_of_getElem? (i := 43) rfl)) (hw _ (List.mem_of_getElem? (i := 16) rfl)) (NS.step (hw _ (List.mem_of_getElem? (i := 43) rfl)) (NS.step (hw _ (List.mem_of_getElem? (i := 44) rfl)) (own_root (hw _ (List.mem_of_getElem? (i := 45) rfl)) (hw _ (List.mem_of_getElem? (i := 16) rfl)) (by decide)) (by decide)) (by decide)) (by decide)) (g := (mkF m 1 #[.val (.ref a0), .val (.ref a1)] [(.ref a1)])) rfl rfl (hb hby d7_1)
  refine own_back (b := T1.setTop (mkF m 42 #[.val (.ref a0), .val (.ref a1)] [(.int (0 : Int32))])) (fun t kt => ?_) ?_
  · show Steps p.tables e below (s₁.setTop (mkF m 0 #[.val (.ref a0), .val (.ref a1)] [])) _
    refine XS.aloadN X0.here hx rfl (hb hby d7_0) rfl rfl ?_
    show Steps p.tables e below (s₁.setTop (mkF m 1 #[.val (.ref a0), .val (.ref a1)] [(.ref a1)])) _
    refine st1 _ ?_
    show Steps p.tables e below (T1.setTop (mkF m 4 #[.val (.ref a0), .val (.ref a1)] [(.int (0 : Int32))])) _
    refine XS.ifYes X1.here hx rfl (pc0 := 4) (pc' := 41) rfl (hb hby d7_4) rfl ((if0 _ _).trans (teq (by decide : (0 : Int32) = (0 : Int32))).1) (by decide) (by decide) ?_
    show Steps p.tables e below (T1.setTop (mkF m 41 #[.val (.ref a0), .val (.ref a1)] [])) _
    refine XS.iconst X1.here hx rfl (hb hby d7_41) ?_
    exact kt
  obtain ⟨fs, hr, hrun, hended, hW, hsame⟩ := X1.leave (v := some (.int (0 : Int32))) (fun h => by rw [Bd.returns] at h; cases h) (BodyLoose.notSynchronized Bd)
  refine ⟨_, _, ?_, hrun, hended, _, _, rfl, ?_, ⟨_, rfl⟩, hW, hsame.mono (by decide) (by decide)⟩
  · show Steps p.tables e below (T1.setTop (mkF m 42 #[.val (.ref a0), .val (.ref a1)] [(.int (0 : Int32))])) _
    exact retN X1 hx (t := .boolean) Bd.returns (by simp) (hb hby d7_42) hr
  · show Q7l Z a0 a1 h0 n0 _ T1.heap _
    rw [e1]
    exact ⟨rfl, N0, rfl⟩
theorem pn_0 : plainName "com/example/byteloom/byteloom/ByteRangeEqualsPinLaw" = true := by first | (simp [plainName, overriddenIn]; done) | decide +kernel
theorem pd_0_0 : parseMethodDescriptor "(JJ)J" = some ⟨[.long, .long], some .long⟩ := by decide +kernel
theorem pd_0_1 : parseMethodDescriptor "(JJ)V" = some ⟨[.long, .long], none⟩ := by decide +kernel
theorem pd_0_2 : parseMethodDescriptor "(Ljava/lang/Object;)Z" = some ⟨[(.object "java/lang/Object")], some .boolean⟩ := by decide +kernel
theorem pd_0_3 : parseMethodDescriptor "(J)Ljava/lang/Long;" = some ⟨[.long], some (.object "java/lang/Long")⟩ := by decide +kernel
theorem ef_0 (m : MethodId) (x0 : Int64) (x1 : Int64) (x2 : Int64) (x3 : Int64) (x4 : Int32) : entryFrame m #[(.long x0), (.long x1), (.long x2), (.long x3), (.int x4)] maxLocals = mkF m 0 #[.val (.long x0), .second, .val (.long x1), .second, .val (.long x2), .second, .val (.long x3), .second, .val (.int x4), .unset, .unset, .unset, .unset, .unset, .unset, .unset, .unset, .unset, .unset, .unset, .unset, .unset, .unset, .unset, .unset, .unset, .unset, .unset, .unset] [] := by first | (simp [entryFrame, mkF, argsToLocals, Value.category, maxLocals]; done) | rfl
def m0_0 (q0 : Int64) (q1 : Int64) (q2 : Int64) (q3 : Int64) (p4 : Int32) : Int64 := (if (p4 &&& (1 : Int32)) = (0 : Int32) then q2 else q0)
def m0_1 (q0 : Int64) (q1 : Int64) (q2 : Int64) (q3 : Int64) (p4 : Int32) : Int64 := (if (p4 &&& (2 : Int32)) = (0 : Int32) then q3 else q1)
def m0_2 (q0 : Int64) (q1 : Int64) (q2 : Int64) (q3 : Int64) (p4 : Int32) : Int32 := (if (f1 q0 q1) = (f1 (m0_0 q0 q1 q2 q3 p4) (m0_1 q0 q1 q2 q3 p4)) then (if (f4 q0 q1) = (f4 (m0_0 q0 q1 q2 q3 p4) (m0_1 q0 q1 q2 q3 p4)) then (1 : Int32) else (0 : Int32)) else (0 : Int32))
theorem own_nn (x : Int64) : ¬ (x &&& (9223372036854775807 : Int64)) < (0 : Int64) := by
  have h := c_maskL x 9223372036854775807 63 (by decide) (by decide)
  have k0 : (0 : Int64).toInt = 0 := rfl
  rw [Int64.lt_iff_toInt_lt, h, k0]
  have : (2 ^ 63 : Nat) = 9223372036854775808 := by decide
  omega
theorem own_lohi (x y : Int64) : ¬ f1 x y < (0 : Int64) ∧ f1 x y < f4 x y := by
  have hx := own_nn x
  have hy := own_nn y
  unfold f1 f4
  generalize (x &&& (9223372036854775807 : Int64)) = a at *
  generalize (y &&& (9223372036854775807 : Int64)) = b at *
  have k0 : (0 : Int64).toInt = 0 := rfl
  have k1 : (1 : Int64).toInt = 1 := rfl
  have kM : (9223372036854775807 : Int64).toInt = 9223372036854775807 := rfl
  rw [Int64.lt_iff_toInt_lt, k0] at hx hy
  have h1 : (f2 a b).toInt = if b.toInt < a.toInt then b.toInt else a.toInt := by
    unfold f2; simp only [Int64.lt_iff_toInt_lt]; split <;> rfl
  have h2 : (f3 a b).toInt = if a.toInt < b.toInt then b.toInt else a.toInt := by
    unfold f3; simp only [Int64.lt_iff_toInt_lt]; split <;> rfl
  generalize f2 a b = l at *
  generalize f3 a b = g at *
  have hs := c_lsub l 1
  have hr := rng64 (l - 1)
  have ha := c_ladd g 1
  have hra := rng64 (g + 1)
  have hr2 := rng64 l
  have hr3 := rng64 g
  simp only [Int64.lt_iff_toInt_lt, ← Int64.toInt_inj, k0, kM]
  rw [k1] at hs ha
  by_cases e1 : l.toInt = g.toInt
  · by_cases e2 : g.toInt = 9223372036854775807
    · simp only [if_pos e1, if_pos e2, k1]
      split at h1 <;> split at h2 <;> omega
    · simp only [if_pos e1, if_neg e2]
      split at h1 <;> split at h2 <;> omega
  · simp only [if_neg e1]
    split at h1 <;> split at h2 <;> omega
def f0 (q0 : Int64) (q1 : Int64) (q2 : Int64) (q3 : Int64) (p4 : Int32) : Int32 := (if (f7a (f1 q0 q1) (f4 q0 q1) (f1 (m0_0 q0 q1 q2 q3 p4) (m0_1 q0 q1 q2 q3 p4)) (f4 (m0_0 q0 q1 q2 q3 p4) (m0_1 q0 q1 q2 q3 p4))) = (m0_2 q0 q1 q2 q3 p4) then (if (f7a (f1 (m0_0 q0 q1 q2 q3 p4) (m0_1 q0 q1 q2 q3 p4)) (f4 (m0_0 q0 q1 q2 q3 p4) (m0_1 q0 q1 q2 q3 p4)) (f1 q0 q1) (f4 q0 q1)) = (m0_2 q0 q1 q2 q3 p4) then (if (f7a (f1 q0 q1) (f4 q0 q1) (f1 q0 q1) (f4 q0 q1)) = (0 : Int32) then (0 : Int32) else (1 : Int32)) else (0 : Int32)) else (0 : Int32))
def Q0 (Z : State) (q0 : Int64) (q1 : Int64) (q2 : Int64) (q3 : Int64) (p4 : Int32) (wc : Addr) (h0 : Heap) (n0 : Nat) (v : Option Value) (h : Heap) (L : List Loc) : Prop := v = some (.int (f0 q0 q1 q2 q3 p4)) ∧ Fr n0 L
set_option maxRecDepth 65536 in
set_option maxHeartbeats 40000000 in
theorem rm0 (l : Launch) (Z : State) (aw : Array Value) (hw : ∀ d ∈ tables_1, d.before aw Z = true) (ws : List Jvm.Cond) (q0 : Int64) (q1 : Int64) (q2 : Int64) (q3 : Int64) (p4 : Int32) (wc : Addr) (h0 : Heap) (n0 : Nat) (Z0 : n0 ≤ h0.size) (S_cache : Sta Z h0 "java/lang/Long$LongCache" "cache" "[Ljava/lang/Long;" (.ref wc)) (X_lc : LCache Z h0 wc) :
    MetFree l x (head1 (Jvm.Cond.code x code maxLocals ret :: ws) room_1) (fun a U => a = #[(.long q0), (.long q1), (.long q2), (.long q3), (.int p4)] ∧ Z.Warmed39 U.vm ∧ U.heap = h0) (fun _ _ _ _ _ => True) (fun _ U o U' => ∃ v L, o = .returned v ∧ Q0 Z q0 q1 q2 q3 p4 wc h0 n0 v U'.heap L ∧ FrameEnd U o U' L room_1.cells room_1.slots) := by
  refine MetFree.of_bodySF (plainFor_of_name pn_0) hisR ?_
  intro p e s m args below meth c s₁ Bd hml0 hP hK
  obtain ⟨rfl, hZ, hh⟩ := hP
  have hx := Bd.exec
  have hby := Bd.bytes
  have hml : c.maxLocals = 29 := hml0
  have hown : s.vm.findClass "com/example/byteloom/byteloom/ByteRangeEqualsPinLaw" = some m.cls := findClass_of_methodNamed Bd.named
  have hnm := (name_of_methodNamed Bd.named Bd.method).1
  have X0 : Stand p l e room_1 s m #[(.long q0), (.long q1), (.long q2), (.long q3), (.int p4)] below meth c s₁ [] 0 0 := Stand.of_body Bd
  have e0 : s₁.heap = h0 := by rw [← hh, Bd.state]; rfl
  have N0 := Fr.nil n0
  refine own_back (b := s₁.setTop (mkF m 0 #[.val (.long q0), .second, .val (.long q1), .second, .val (.long q2), .second, .val (.long q3), .second, .val (.int p4), .unset, .unset, .unset, .unset, .unset, .unset, .unset, .unset, .unset, .unset, .unset, .unset, .unset, .unset, .unset, .unset, .unset, .unset, .unset, .unset] [])) (fun t kt => castTop (ef_0 m q0 q1 q2 q3 p4) kt) ?_
  refine own_back (b := s₁.setTop (mkF m 4 #[.val (.long q0), .second, .val (.long q1), .second, .val (.long q2), .second, .val (.long q3), .second, .val (.int p4), .unset, .unset, .unset, .unset, .unset, .unset, .unset, .unset, .unset, .unset, .unset, .unset, .unset, .unset, .unset, .unset, .unset, .unset, .unset, .unset] [(.int (p4 &&& (1 : Int32)))])) (fun t kt => ?_) ?_
  · show Steps p.tables e below (s₁.setTop (mkF m 0 #[.val (.long q0), .second, .val (.long q1), .second, .val (.long q2), .second, .val (.long q3), .second, .val (.int p4), .unset, .unset, .unset, .unset, .unset, .unset, .unset, .unset, .unset, .unset, .unset, .unset, .unset, .unset, .unset, .unset, .unset, .unset, .unset, .unset] [])) _
    refine XS.iload X0.here hx rfl (hb hby at_0) rfl ?_
    show Steps p.tables e below (s₁.setTop (mkF m 2 #[.val (.long q0), .second, .val (.long q1), .second, .val (.long q2), .second, .val (.long q3), .second, .val (.int p4), .unset, .unset, .unset, .unset, .unset, .unset, .unset, .unset, .unset, .unset, .unset, .unset, .unset, .unset, .unset, .unset, .unset, .unset, .unset, .unset] [(.int p4)])) _
    refine XS.iconst X0.here hx rfl (hb hby at_2) ?_
    show Steps p.tables e below (s₁.setTop (mkF m 3 #[.val (.long q0), .second, .val (.long q1), .second, .val (.long q2), .second, .val (.long q3), .second, .val (.int p4), .unset, .unset, .unset, .unset, .unset, .unset, .unset, .unset, .unset, .unset, .unset, .unset, .unset, .unset, .unset, .unset, .unset, .unset, .unset, .unset] [(.int (1 : Int32)), (.int p4)])) _
    refine XS.iand X0.here hx rfl (hb hby at_3) rfl ?_
    exact kt
  refine own_back (b := s₁.setTop (mkF m 13 #[.val (.long q0), .second, .val (.long q1), .second, .val (.long q2), .second, .val (.long q3), .second, .val (.int p4), .unset, .unset, .unset, .unset, .unset, .unset, .unset, .unset, .unset, .unset, .unset, .unset, .unset, .unset, .unset, .unset, .unset, .unset, .unset, .unset] [(.long (m0_0 q0 q1 q2 q3 p4))])) (fun t kt => ?_) ?_
  · by_cases hm4_1 : (p4 &&& (1 : Int32)) = (0 : Int32)
    · rw [show (m0_0 q0 q1 q2 q3 p4) = q2 from by unfold m0_0; rw [if_pos hm4_1]] at kt
      show Steps p.tables e below (s₁.setTop (mkF m 4 #[.val (.long q0), .second, .val (.long q1), .second, .val (.long q2), .second, .val (.long q3), .second, .val (.int p4), .unset, .unset, .unset, .unset, .unset, .unset, .unset, .unset, .unset, .unset, .unset, .unset, .unset, .unset, .unset, .unset, .unset, .unset, .unset, .unset] [(.int (p4 &&& (1 : Int32)))])) _
      refine XS.ifYes X0.here hx rfl (pc0 := 4) (pc' := 11) rfl (hb hby at_4) rfl ((if0 _ _).trans (teq hm4_1).1) (by decide) (by decide) ?_
      show Steps p.tables e below (s₁.setTop (mkF m 11 #[.val (.long q0), .second, .val (.long q1), .second, .val (.long q2), .second, .val (.long q3), .second, .val (.int p4), .unset, .unset, .unset, .unset, .unset, .unset, .unset, .unset, .unset, .unset, .unset, .unset, .unset, .unset, .unset, .unset, .unset, .unset, .unset, .unset] [])) _
      refine XS.lload X0.here hx rfl (hb hby at_11) rfl ?_
      exact kt
    · rw [show (m0_0 q0 q1 q2 q3 p4) = q0 from by unfold m0_0; rw [if_neg hm4_1]] at kt
      show Steps p.tables e below (s₁.setTop (mkF m 4 #[.val (.long q0), .second, .val (.long q1), .second, .val (.long q2), .second, .val (.long q3), .second, .val (.int p4), .unset, .unset, .unset, .unset, .unset, .unset, .unset, .unset, .unset, .unset, .unset, .unset, .unset, .unset, .unset, .unset, .unset, .unset, .unset, .unset] [(.int (p4 &&& (1 : Int32)))])) _
      refine XS.ifNo X0.here hx rfl (hb hby at_4) rfl ((if0 _ _).trans (feq hm4_1).1) ?_
      show Steps p.tables e below (s₁.setTop (mkF m 7 #[.val (.long q0), .second, .val (.long q1), .second, .val (.long q2), .second, .val (.long q3), .second, .val (.int p4), .unset, .unset, .unset, .unset, .unset, .unset, .unset, .unset, .unset, .unset, .unset, .unset, .unset, .unset, .unset, .unset, .unset, .unset, .unset, .unset] [])) _
      refine XS.lloadN X0.here hx rfl (hb hby at_7) rfl ?_
      show Steps p.tables e below (s₁.setTop (mkF m 8 #[.val (.long q0), .second, .val (.long q1), .second, .val (.long q2), .second, .val (.long q3), .second, .val (.int p4), .unset, .unset, .unset, .unset, .unset, .unset, .unset, .unset, .unset, .unset, .unset, .unset, .unset, .unset, .unset, .unset, .unset, .unset, .unset, .unset] [(.long q0)])) _
      refine XS.goto X0.here hx rfl (pc0 := 8) (pc' := 13) rfl (hb hby at_8) (by decide) (by decide) ?_
      exact kt
  refine own_back (b := s₁.setTop (mkF m 19 #[.val (.long q0), .second, .val (.long q1), .second, .val (.long q2), .second, .val (.long q3), .second, .val (.int p4), .val (.long (m0_0 q0 q1 q2 q3 p4)), .second, .unset, .unset, .unset, .unset, .unset, .unset, .unset, .unset, .unset, .unset, .unset, .unset, .unset, .unset, .unset, .unset, .unset, .unset] [(.int (p4 &&& (2 : Int32)))])) (fun t kt => ?_) ?_
  · show Steps p.tables e below (s₁.setTop (mkF m 13 #[.val (.long q0), .second, .val (.long q1), .second, .val (.long q2), .second, .val (.long q3), .second, .val (.int p4), .unset, .unset, .unset, .unset, .unset, .unset, .unset, .unset, .unset, .unset, .unset, .unset, .unset, .unset, .unset, .unset, .unset, .unset, .unset, .unset] [(.long (m0_0 q0 q1 q2 q3 p4))])) _
    refine XS.lstore X0.here hx rfl (hb hby at_13) rfl (l' := #[.val (.long q0), .second, .val (.long q1), .second, .val (.long q2), .second, .val (.long q3), .second, .val (.int p4), .val (.long (m0_0 q0 q1 q2 q3 p4)), .second, .unset, .unset, .unset, .unset, .unset, .unset, .unset, .unset, .unset, .unset, .unset, .unset, .unset, .unset, .unset, .unset, .unset, .unset]) rfl ?_
    show Steps p.tables e below (s₁.setTop (mkF m 15 #[.val (.long q0), .second, .val (.long q1), .second, .val (.long q2), .second, .val (.long q3), .second, .val (.int p4), .val (.long (m0_0 q0 q1 q2 q3 p4)), .second, .unset, .unset, .unset, .unset, .unset, .unset, .unset, .unset, .unset, .unset, .unset, .unset, .unset, .unset, .unset, .unset, .unset, .unset] [])) _
    refine XS.iload X0.here hx rfl (hb hby at_15) rfl ?_
    show Steps p.tables e below (s₁.setTop (mkF m 17 #[.val (.long q0), .second, .val (.long q1), .second, .val (.long q2), .second, .val (.long q3), .second, .val (.int p4), .val (.long (m0_0 q0 q1 q2 q3 p4)), .second, .unset, .unset, .unset, .unset, .unset, .unset, .unset, .unset, .unset, .unset, .unset, .unset, .unset, .unset, .unset, .unset, .unset, .unset] [(.int p4)])) _
    refine XS.iconst X0.here hx rfl (hb hby at_17) ?_
    show Steps p.tables e below (s₁.setTop (mkF m 18 #[.val (.long q0), .second, .val (.long q1), .second, .val (.long q2), .second, .val (.long q3), .second, .val (.int p4), .val (.long (m0_0 q0 q1 q2 q3 p4)), .second, .unset, .unset, .unset, .unset, .unset, .unset, .unset, .unset, .unset, .unset, .unset, .unset, .unset, .unset, .unset, .unset, .unset, .unset] [(.int (2 : Int32)), (.int p4)])) _
    refine XS.iand X0.here hx rfl (hb hby at_18) rfl ?_
    exact kt
  refine own_back (b := s₁.setTop (mkF m 28 #[.val (.long q0), .second, .val (.long q1), .second, .val (.long q2), .second, .val (.long q3), .second, .val (.int p4), .val (.long (m0_0 q0 q1 q2 q3 p4)), .second, .unset, .unset, .unset, .unset, .unset, .unset, .unset, .unset, .unset, .unset, .unset, .unset, .unset, .unset, .unset, .unset, .unset, .unset] [(.long (m0_1 q0 q1 q2 q3 p4))])) (fun t kt => ?_) ?_
  · by_cases hm19_2 : (p4 &&& (2 : Int32)) = (0 : Int32)
    · rw [show (m0_1 q0 q1 q2 q3 p4) = q3 from by unfold m0_1; rw [if_pos hm19_2]] at kt
      show Steps p.tables e below (s₁.setTop (mkF m 19 #[.val (.long q0), .second, .val (.long q1), .second, .val (.long q2), .second, .val (.long q3), .second, .val (.int p4), .val (.long (m0_0 q0 q1 q2 q3 p4)), .second, .unset, .unset, .unset, .unset, .unset, .unset, .unset, .unset, .unset, .unset, .unset, .unset, .unset, .unset, .unset, .unset, .unset, .unset] [(.int (p4 &&& (2 : Int32)))])) _
      refine XS.ifYes X0.here hx rfl (pc0 := 19) (pc' := 26) rfl (hb hby at_19) rfl ((if0 _ _).trans (teq hm19_2).1) (by decide) (by decide) ?_
      show Steps p.tables e below (s₁.setTop (mkF m 26 #[.val (.long q0), .second, .val (.long q1), .second, .val (.long q2), .second, .val (.long q3), .second, .val (.int p4), .val (.long (m0_0 q0 q1 q2 q3 p4)), .second, .unset, .unset, .unset, .unset, .unset, .unset, .unset, .unset, .unset, .unset, .unset, .unset, .unset, .unset, .unset, .unset, .unset, .unset] [])) _
      refine XS.lload X0.here hx rfl (hb hby at_26) rfl ?_
      exact kt
    · rw [show (m0_1 q0 q1 q2 q3 p4) = q1 from by unfold m0_1; rw [if_neg hm19_2]] at kt
      show Steps p.tables e below (s₁.setTop (mkF m 19 #[.val (.long q0), .second, .val (.long q1), .second, .val (.long q2), .second, .val (.long q3), .second, .val (.int p4), .val (.long (m0_0 q0 q1 q2 q3 p4)), .second, .unset, .unset, .unset, .unset, .unset, .unset, .unset, .unset, .unset, .unset, .unset, .unset, .unset, .unset, .unset, .unset, .unset, .unset] [(.int (p4 &&& (2 : Int32)))])) _
      refine XS.ifNo X0.here hx rfl (hb hby at_19) rfl ((if0 _ _).trans (feq hm19_2).1) ?_
      show Steps p.tables e below (s₁.setTop (mkF m 22 #[.val (.long q0), .second, .val (.long q1), .second, .val (.long q2), .second, .val (.long q3), .second, .val (.int p4), .val (.long (m0_0 q0 q1 q2 q3 p4)), .second, .unset, .unset, .unset, .unset, .unset, .unset, .unset, .unset, .unset, .unset, .unset, .unset, .unset, .unset, .unset, .unset, .unset, .unset] [])) _
      refine XS.lloadN X0.here hx rfl (hb hby at_22) rfl ?_
      show Steps p.tables e below (s₁.setTop (mkF m 23 #[.val (.long q0), .second, .val (.long q1), .second, .val (.long q2), .second, .val (.long q3), .second, .val (.int p4), .val (.long (m0_0 q0 q1 q2 q3 p4)), .second, .unset, .unset, .unset, .unset, .unset, .unset, .unset, .unset, .unset, .unset, .unset, .unset, .unset, .unset, .unset, .unset, .unset, .unset] [(.long q1)])) _
      refine XS.goto X0.here hx rfl (pc0 := 23) (pc' := 28) rfl (hb hby at_23) (by decide) (by decide) ?_
      exact kt
  obtain ⟨_, _, ⟨T3, L3, k3, n3⟩, -, X3, ⟨Lc3, hQ3, l3, y3, z3⟩, st3⟩ := Jvm.LawKit.callS X0 hx (y := (⟨"com/example/byteloom/byteloom/ByteRangeEqualsPinLaw", "lo", "(JJ)J"⟩ : MethodName)) hown (mvT hZ (hw _ (List.mem_of_getElem? (i := 0) rfl))) (mvT hZ (hw _ (List.mem_of_getElem? (i := 1) rfl))) (mvT hZ (hw _ (List.mem_of_getElem? (i := 2) rfl))) (mvT hZ (hw _ (List.mem_of_getElem? (i := 3) rfl))) (by decide) (backOf (W := 0) (rm1 l Z aw hw [] q0 q1 h0 n0 Z0 ) hZ (hw _ (List.mem_of_getElem? (i := 3) rfl)) (hw _ (List.mem_of_getElem? (i := 2) rfl)) (by decide) (by decide)) (g := (mkF m 32 #[.val (.long q0), .second, .val (.long q1), .second, .val (.long q2), .second, .val (.long q3), .second, .val (.int p4), .val (.long (m0_0 q0 q1 q2 q3 p4)), .second, .val (.long (m0_1 q0 q1 q2 q3 p4)), .second, .unset, .unset, .unset, .unset, .unset, .unset, .unset, .unset, .unset, .unset, .unset, .unset, .unset, .unset, .unset, .unset] [(.long q1), (.long q0)])) rfl (by rw [hml]; rfl) (argsL := [(.long q0), (.long q1)]) (rest := []) (lenOf pd_0_0 rfl) rfl (by show 2 * 0 + _ ≤ _; exact Nat.le_of_eq rfl) (hb hby at_32) (fun _ _ => ⟨rfl, e0, (by decide : 0 + 0 ≤ _), (by decide : 0 + 0 ≤ _)⟩)
  dsimp only [Pt.U, Pt.locs, Pt.cells, Pt.slots] at X3 l3 y3 z3 st3 hQ3
  subst l3 y3 z3
  obtain ⟨rfl, Nq3, e3⟩ := hQ3
  have N3 := Fr.app N0 Nq3
  obtain ⟨_, _, ⟨T4, L4, k4, n4⟩, -, X4, ⟨Lc4, hQ4, l4, y4, z4⟩, st4⟩ := Jvm.LawKit.callS X3 hx (y := (⟨"com/example/byteloom/byteloom/ByteRangeEqualsPinLaw", "hi", "(JJ)J"⟩ : MethodName)) hown (mvT hZ (hw _ (List.mem_of_getElem? (i := 12) rfl))) (mvT hZ (hw _ (List.mem_of_getElem? (i := 13) rfl))) (mvT hZ (hw _ (List.mem_of_getElem? (i := 2) rfl))) (mvT hZ (hw _ (List.mem_of_getElem? (i := 14) rfl))) (by decide) (backOf (W := 0) (rm4 l Z aw hw [] q0 q1 h0 n0 Z0 ) hZ (hw _ (List.mem_of_getElem? (i := 14) rfl)) (hw _ (List.mem_of_getElem? (i := 2) rfl)) (by decide) (by decide)) (g := (mkF m 39 #[.val (.long q0), .second, .val (.long q1), .second, .val (.long q2), .second, .val (.long q3), .second, .val (.int p4), .val (.long (m0_0 q0 q1 q2 q3 p4)), .second, .val (.long (m0_1 q0 q1 q2 q3 p4)), .second, .val (.long (f1 q0 q1)), .second, .unset, .unset, .unset, .unset, .unset, .unset, .unset, .unset, .unset, .unset, .unset, .unset, .unset, .unset] [(.long q1), (.long q0)])) rfl (by rw [hml]; rfl) (argsL := [(.long q0), (.long q1)]) (rest := []) (lenOf pd_0_0 rfl) rfl (by show 2 * 0 + _ ≤ _; exact Nat.le_of_eq rfl) (hb hby at_39) (fun _ _ => ⟨rfl, e3, (by decide : 0 + 0 ≤ _), (by decide : 0 + 0 ≤ _)⟩)
  dsimp only [Pt.U, Pt.locs, Pt.cells, Pt.slots] at X4 l4 y4 z4 st4 hQ4
  subst l4 y4 z4
  obtain ⟨rfl, Nq4, e4⟩ := hQ4
  have N4 := Fr.app N3 Nq4
  obtain ⟨_, _, ⟨T5, L5, k5, n5⟩, -, X5, ⟨Lc5, hQ5, l5, y5, z5⟩, st5⟩ := Jvm.LawKit.callS X4 hx (y := (⟨"com/example/byteloom/byteloom/ByteRangeEqualsPinLaw", "lo", "(JJ)J"⟩ : MethodName)) hown (mvT hZ (hw _ (List.mem_of_getElem? (i := 0) rfl))) (mvT hZ (hw _ (List.mem_of_getElem? (i := 1) rfl))) (mvT hZ (hw _ (List.mem_of_getElem? (i := 2) rfl))) (mvT hZ (hw _ (List.mem_of_getElem? (i := 3) rfl))) (by decide) (backOf (W := 0) (rm1 l Z aw hw [] (m0_0 q0 q1 q2 q3 p4) (m0_1 q0 q1 q2 q3 p4) h0 n0 Z0 ) hZ (hw _ (List.mem_of_getElem? (i := 3) rfl)) (hw _ (List.mem_of_getElem? (i := 2) rfl)) (by decide) (by decide)) (g := (mkF m 48 #[.val (.long q0), .second, .val (.long q1), .second, .val (.long q2), .second, .val (.long q3), .second, .val (.int p4), .val (.long (m0_0 q0 q1 q2 q3 p4)), .second, .val (.long (m0_1 q0 q1 q2 q3 p4)), .second, .val (.long (f1 q0 q1)), .second, .val (.long (f4 q0 q1)), .second, .unset, .unset, .unset, .unset, .unset, .unset, .unset, .unset, .unset, .unset, .unset, .unset] [(.long (m0_1 q0 q1 q2 q3 p4)), (.long (m0_0 q0 q1 q2 q3 p4))])) rfl (by rw [hml]; rfl) (argsL := [(.long (m0_0 q0 q1 q2 q3 p4)), (.long (m0_1 q0 q1 q2 q3 p4))]) (rest := []) (lenOf pd_0_0 rfl) rfl (by show 2 * 0 + _ ≤ _; exact Nat.le_of_eq rfl) (hb hby at_48) (fun _ _ => ⟨rfl, e4, (by decide : 0 + 0 ≤ _), (by decide : 0 + 0 ≤ _)⟩)
  dsimp only [Pt.U, Pt.locs, Pt.cells, Pt.slots] at X5 l5 y5 z5 st5 hQ5
  subst l5 y5 z5
  obtain ⟨rfl, Nq5, e5⟩ := hQ5
  have N5 := Fr.app N4 Nq5
  obtain ⟨_, _, ⟨T6, L6, k6, n6⟩, -, X6, ⟨Lc6, hQ6, l6, y6, z6⟩, st6⟩ := Jvm.LawKit.callS X5 hx (y := (⟨"com/example/byteloom/byteloom/ByteRangeEqualsPinLaw", "hi", "(JJ)J"⟩ : MethodName)) hown (mvT hZ (hw _ (List.mem_of_getElem? (i := 12) rfl))) (mvT hZ (hw _ (List.mem_of_getElem? (i := 13) rfl))) (mvT hZ (hw _ (List.mem_of_getElem? (i := 2) rfl))) (mvT hZ (hw _ (List.mem_of_getElem? (i := 14) rfl))) (by decide) (backOf (W := 0) (rm4 l Z aw hw [] (m0_0 q0 q1 q2 q3 p4) (m0_1 q0 q1 q2 q3 p4) h0 n0 Z0 ) hZ (hw _ (List.mem_of_getElem? (i := 14) rfl)) (hw _ (List.mem_of_getElem? (i := 2) rfl)) (by decide) (by decide)) (g := (mkF m 57 #[.val (.long q0), .second, .val (.long q1), .second, .val (.long q2), .second, .val (.long q3), .second, .val (.int p4), .val (.long (m0_0 q0 q1 q2 q3 p4)), .second, .val (.long (m0_1 q0 q1 q2 q3 p4)), .second, .val (.long (f1 q0 q1)), .second, .val (.long (f4 q0 q1)), .second, .val (.long (f1 (m0_0 q0 q1 q2 q3 p4) (m0_1 q0 q1 q2 q3 p4))), .second, .unset, .unset, .unset, .unset, .unset, .unset, .unset, .unset, .unset, .unset] [(.long (m0_1 q0 q1 q2 q3 p4)), (.long (m0_0 q0 q1 q2 q3 p4))])) rfl (by rw [hml]; rfl) (argsL := [(.long (m0_0 q0 q1 q2 q3 p4)), (.long (m0_1 q0 q1 q2 q3 p4))]) (rest := []) (lenOf pd_0_0 rfl) rfl (by show 2 * 0 + _ ≤ _; exact Nat.le_of_eq rfl) (hb hby at_57) (fun _ _ => ⟨rfl, e5, (by decide : 0 + 0 ≤ _), (by decide : 0 + 0 ≤ _)⟩)
  dsimp only [Pt.U, Pt.locs, Pt.cells, Pt.slots] at X6 l6 y6 z6 st6 hQ6
  subst l6 y6 z6
  obtain ⟨rfl, Nq6, e6⟩ := hQ6
  have N6 := Fr.app N5 Nq6
  obtain ⟨T7, h7, X7, e7, E7, A7, D7, -, st7⟩ := newO X6 hx hZ hown (hw _ (List.mem_of_getElem? (i := 15) rfl)) (hw _ (List.mem_of_getElem? (i := 16) rfl)) (hw _ (List.mem_of_getElem? (i := 17) rfl)) e6 (g := (mkF m 62 #[.val (.long q0), .second, .val (.long q1), .second, .val (.long q2), .second, .val (.long q3), .second, .val (.int p4), .val (.long (m0_0 q0 q1 q2 q3 p4)), .second, .val (.long (m0_1 q0 q1 q2 q3 p4)), .second, .val (.long (f1 q0 q1)), .second, .val (.long (f4 q0 q1)), .second, .val (.long (f1 (m0_0 q0 q1 q2 q3 p4) (m0_1 q0 q1 q2 q3 p4))), .second, .val (.long (f4 (m0_0 q0 q1 q2 q3 p4) (m0_1 q0 q1 q2 q3 p4))), .second, .unset, .unset, .unset, .unset, .unset, .unset, .unset, .unset] [])) rfl (hb hby at_62) (by decide) (by decide)
  obtain ⟨b7, g7⟩ : ∃ z, z = h0.size := ⟨_, rfl⟩
  rw [← g7] at A7 D7 st7
  have lo7 : n0 ≤ b7 := Nat.le_trans Z0 (Nat.le_of_eq g7.symm)
  have sz7 : h0.size ≤ b7 := Nat.le_trans (Nat.le_refl _) (Nat.le_of_eq g7.symm)
  have K7 : Keep h0 h7 [] := (Keep.refl h0 _).ext E7
  have Z7 : n0 ≤ h7.size := Nat.le_trans Z0 E7.1
  have F7_from : Fld Z h7 b7 "com/example/byteloom/byteloom/ByteRange" "from" "J" (.long (0 : Int64)) := D7 (Or.inr (hw _ (List.mem_of_getElem? (i := 25) rfl))) (ty := .long) (by decide)
  have F7_to : Fld Z h7 b7 "com/example/byteloom/byteloom/ByteRange" "to" "J" (.long (0 : Int64)) := D7 (Or.inr (hw _ (List.mem_of_getElem? (i := 27) rfl))) (ty := .long) (by decide)
  obtain ⟨_, _, ⟨T8, L8, k8, n8⟩, -, X8, ⟨Lc8, hQ8, l8, y8, z8⟩, st8⟩ := X7.specialBack hx (y := (⟨"com/example/byteloom/byteloom/ByteRange", "<init>", "(JJ)V"⟩ : MethodName)) rfl hown (mvT hZ (hw _ (List.mem_of_getElem? (i := 18) rfl))) (mvT hZ (hw _ (List.mem_of_getElem? (i := 19) rfl))) (mvT hZ (hw _ (List.mem_of_getElem? (i := 20) rfl))) (by decide) (backOf (W := 1) (rm5 l Z aw hw [] b7 (f1 q0 q1) (f4 q0 q1) h7 n0 Z7 F7_from F7_to A7 lo7 (own_lohi _ _).1 (own_lohi _ _).2) hZ (hw _ (List.mem_of_getElem? (i := 20) rfl)) (hw _ (List.mem_of_getElem? (i := 17) rfl)) (by decide) (by decide)) (g := (mkF m 70 #[.val (.long q0), .second, .val (.long q1), .second, .val (.long q2), .second, .val (.long q3), .second, .val (.int p4), .val (.long (m0_0 q0 q1 q2 q3 p4)), .second, .val (.long (m0_1 q0 q1 q2 q3 p4)), .second, .val (.long (f1 q0 q1)), .second, .val (.long (f4 q0 q1)), .second, .val (.long (f1 (m0_0 q0 q1 q2 q3 p4) (m0_1 q0 q1 q2 q3 p4))), .second, .val (.long (f4 (m0_0 q0 q1 q2 q3 p4) (m0_1 q0 q1 q2 q3 p4))), .second, .unset, .unset, .unset, .unset, .unset, .unset, .unset, .unset] [(.long (f4 q0 q1)), (.long (f1 q0 q1)), (.ref b7), (.ref b7)])) rfl (by rw [hml]; rfl) (Steps.refl _) (a := b7) (argsL := [(.long (f1 q0 q1)), (.long (f4 q0 q1))]) (rest := [(.ref b7)]) (lenOf pd_0_1 rfl) rfl (by show 2 * 0 + _ ≤ _; exact Nat.le_of_eq rfl) (hb hby at_70) (fun _ _ => ⟨rfl, e7, (by decide : 1 + 0 ≤ _), (by decide : 2 + 0 ≤ _)⟩)
  dsimp only [Pt.U, Pt.locs, Pt.cells, Pt.slots] at X8 l8 y8 z8 st8 hQ8
  subst l8 y8 z8
  obtain ⟨rfl, Nq8, Kq8, P8_0, P8_1, P8_2⟩ := hQ8
  have N8 := Fr.app N6 Nq8
  have K8 : Keep h0 T8.heap [] := K7.trans Kq8 (allS (Or.inr sz7) all0)
  have Z8 : n0 ≤ T8.heap.size := Nat.le_trans Z7 Kq8.1
  obtain ⟨T9, h9, X9, e9, E9, A9, D9, -, st9⟩ := newO X8 hx hZ hown (hw _ (List.mem_of_getElem? (i := 15) rfl)) (hw _ (List.mem_of_getElem? (i := 16) rfl)) (hw _ (List.mem_of_getElem? (i := 17) rfl)) rfl (g := (mkF m 75 #[.val (.long q0), .second, .val (.long q1), .second, .val (.long q2), .second, .val (.long q3), .second, .val (.int p4), .val (.long (m0_0 q0 q1 q2 q3 p4)), .second, .val (.long (m0_1 q0 q1 q2 q3 p4)), .second, .val (.long (f1 q0 q1)), .second, .val (.long (f4 q0 q1)), .second, .val (.long (f1 (m0_0 q0 q1 q2 q3 p4) (m0_1 q0 q1 q2 q3 p4))), .second, .val (.long (f4 (m0_0 q0 q1 q2 q3 p4) (m0_1 q0 q1 q2 q3 p4))), .second, .val (.ref b7), .unset, .unset, .unset, .unset, .unset, .unset, .unset] [])) rfl (hb hby at_75) (by decide) (by decide)
  obtain ⟨b9, g9⟩ : ∃ z, z = T8.heap.size := ⟨_, rfl⟩
  rw [← g9] at A9 D9 st9
  have ne9_b7 : b7 ≠ b9 := Nat.ne_of_lt (Nat.lt_of_lt_of_le P8_0.lt (Nat.le_of_eq g9.symm))
  have lo9 : n0 ≤ b9 := Nat.le_trans Z8 (Nat.le_of_eq g9.symm)
  have sz9 : h0.size ≤ b9 := Nat.le_trans K8.1 (Nat.le_of_eq g9.symm)
  have f9_0 := P8_0.ext E9
  have f9_1 := P8_1.ext E9
  have f9_2 := P8_2.ext E9
  have K9 := K8.ext E9
  have Z9 : n0 ≤ h9.size := Nat.le_trans Z8 E9.1
  have F9_from : Fld Z h9 b9 "com/example/byteloom/byteloom/ByteRange" "from" "J" (.long (0 : Int64)) := D9 (Or.inr (hw _ (List.mem_of_getElem? (i := 25) rfl))) (ty := .long) (by decide)
  have F9_to : Fld Z h9 b9 "com/example/byteloom/byteloom/ByteRange" "to" "J" (.long (0 : Int64)) := D9 (Or.inr (hw _ (List.mem_of_getElem? (i := 27) rfl))) (ty := .long) (by decide)
  obtain ⟨_, _, ⟨T10, L10, k10, n10⟩, -, X10, ⟨Lc10, hQ10, l10, y10, z10⟩, st10⟩ := X9.specialBack hx (y := (⟨"com/example/byteloom/byteloom/ByteRange", "<init>", "(JJ)V"⟩ : MethodName)) rfl hown (mvT hZ (hw _ (List.mem_of_getElem? (i := 18) rfl))) (mvT hZ (hw _ (List.mem_of_getElem? (i := 19) rfl))) (mvT hZ (hw _ (List.mem_of_getElem? (i := 20) rfl))) (by decide) (backOf (W := 1) (rm5 l Z aw hw [] b9 (f1 (m0_0 q0 q1 q2 q3 p4) (m0_1 q0 q1 q2 q3 p4)) (f4 (m0_0 q0 q1 q2 q3 p4) (m0_1 q0 q1 q2 q3 p4)) h9 n0 Z9 F9_from F9_to A9 lo9 (own_lohi _ _).1 (own_lohi _ _).2) hZ (hw _ (List.mem_of_getElem? (i := 20) rfl)) (hw _ (List.mem_of_getElem? (i := 17) rfl)) (by decide) (by decide)) (g := (mkF m 83 #[.val (.long q0), .second, .val (.long q1), .second, .val (.long q2), .second, .val (.long q3), .second, .val (.int p4), .val (.long (m0_0 q0 q1 q2 q3 p4)), .second, .val (.long (m0_1 q0 q1 q2 q3 p4)), .second, .val (.long (f1 q0 q1)), .second, .val (.long (f4 q0 q1)), .second, .val (.long (f1 (m0_0 q0 q1 q2 q3 p4) (m0_1 q0 q1 q2 q3 p4))), .second, .val (.long (f4 (m0_0 q0 q1 q2 q3 p4) (m0_1 q0 q1 q2 q3 p4))), .second, .val (.ref b7), .unset, .unset, .unset, .unset, .unset, .unset, .unset] [(.long (f4 (m0_0 q0 q1 q2 q3 p4) (m0_1 q0 q1 q2 q3 p4))), (.long (f1 (m0_0 q0 q1 q2 q3 p4) (m0_1 q0 q1 q2 q3 p4))), (.ref b9), (.ref b9)])) rfl (by rw [hml]; rfl) (Steps.refl _) (a := b9) (argsL := [(.long (f1 (m0_0 q0 q1 q2 q3 p4) (m0_1 q0 q1 q2 q3 p4))), (.long (f4 (m0_0 q0 q1 q2 q3 p4) (m0_1 q0 q1 q2 q3 p4)))]) (rest := [(.ref b9)]) (lenOf pd_0_1 rfl) rfl (by show 2 * 0 + _ ≤ _; exact Nat.le_of_eq rfl) (hb hby at_83) (fun _ _ => ⟨rfl, e9, (by decide : 2 + 0 ≤ _), (by decide : 4 + 0 ≤ _)⟩)
  dsimp only [Pt.U, Pt.locs, Pt.cells, Pt.slots] at X10 l10 y10 z10 st10 hQ10
  subst l10 y10 z10
  obtain ⟨rfl, Nq10, Kq10, P10_0, P10_1, P10_2⟩ := hQ10
  have N10 := Fr.app N8 Nq10
  have f10_0 := f9_0.keep Kq10
  have f10_1 := f9_1.keep Kq10 (ninS ne9_b7 nin0)
  have f10_2 := f9_2.keep Kq10 (ninS ne9_b7 nin0)
  have K10 : Keep h0 T10.heap [] := K9.trans Kq10 (allS (Or.inr sz9) all0)
  have Z10 : n0 ≤ T10.heap.size := Nat.le_trans Z9 Kq10.1
  refine own_back (b := T10.setTop (mkF m 93 #[.val (.long q0), .second, .val (.long q1), .second, .val (.long q2), .second, .val (.long q3), .second, .val (.int p4), .val (.long (m0_0 q0 q1 q2 q3 p4)), .second, .val (.long (m0_1 q0 q1 q2 q3 p4)), .second, .val (.long (f1 q0 q1)), .second, .val (.long (f4 q0 q1)), .second, .val (.long (f1 (m0_0 q0 q1 q2 q3 p4) (m0_1 q0 q1 q2 q3 p4))), .second, .val (.long (f4 (m0_0 q0 q1 q2 q3 p4) (m0_1 q0 q1 q2 q3 p4))), .second, .val (.ref b7), .val (.ref b9), .unset, .unset, .unset, .unset, .unset, .unset] [(.int (lcmpW (f1 q0 q1) (f1 (m0_0 q0 q1 q2 q3 p4) (m0_1 q0 q1 q2 q3 p4))))])) (fun t kt => ?_) ?_
  · show Steps p.tables e below (s₁.setTop (mkF m 28 #[.val (.long q0), .second, .val (.long q1), .second, .val (.long q2), .second, .val (.long q3), .second, .val (.int p4), .val (.long (m0_0 q0 q1 q2 q3 p4)), .second, .unset, .unset, .unset, .unset, .unset, .unset, .unset, .unset, .unset, .unset, .unset, .unset, .unset, .unset, .unset, .unset, .unset, .unset] [(.long (m0_1 q0 q1 q2 q3 p4))])) _
    refine XS.lstore X0.here hx rfl (hb hby at_28) rfl (l' := #[.val (.long q0), .second, .val (.long q1), .second, .val (.long q2), .second, .val (.long q3), .second, .val (.int p4), .val (.long (m0_0 q0 q1 q2 q3 p4)), .second, .val (.long (m0_1 q0 q1 q2 q3 p4)), .second, .unset, .unset, .unset, .unset, .unset, .unset, .unset, .unset, .unset, .unset, .unset, .unset, .unset, .unset, .unset, .unset]) rfl ?_
    show Steps p.tables e below (s₁.setTop (mkF m 30 #[.val (.long q0), .second, .val (.long q1), .second, .val (.long q2), .second, .val (.long q3), .second, .val (.int p4), .val (.long (m0_0 q0 q1 q2 q3 p4)), .second, .val (.long (m0_1 q0 q1 q2 q3 p4)), .second, .unset, .unset, .unset, .unset, .unset, .unset, .unset, .unset, .unset, .unset, .unset, .unset, .unset, .unset, .unset, .unset] [])) _
    refine XS.lloadN X0.here hx rfl (hb hby at_30) rfl ?_
    show Steps p.tables e below (s₁.setTop (mkF m 31 #[.val (.long q0), .second, .val (.long q1), .second, .val (.long q2), .second, .val (.long q3), .second, .val (.int p4), .val (.long (m0_0 q0 q1 q2 q3 p4)), .second, .val (.long (m0_1 q0 q1 q2 q3 p4)), .second, .unset, .unset, .unset, .unset, .unset, .unset, .unset, .unset, .unset, .unset, .unset, .unset, .unset, .unset, .unset, .unset] [(.long q0)])) _
    refine XS.lloadN X0.here hx rfl (hb hby at_31) rfl ?_
    show Steps p.tables e below (s₁.setTop (mkF m 32 #[.val (.long q0), .second, .val (.long q1), .second, .val (.long q2), .second, .val (.long q3), .second, .val (.int p4), .val (.long (m0_0 q0 q1 q2 q3 p4)), .second, .val (.long (m0_1 q0 q1 q2 q3 p4)), .second, .unset, .unset, .unset, .unset, .unset, .unset, .unset, .unset, .unset, .unset, .unset, .unset, .unset, .unset, .unset, .unset] [(.long q1), (.long q0)])) _
    refine st3 _ ?_
    show Steps p.tables e below (T3.setTop (mkF m 35 #[.val (.long q0), .second, .val (.long q1), .second, .val (.long q2), .second, .val (.long q3), .second, .val (.int p4), .val (.long (m0_0 q0 q1 q2 q3 p4)), .second, .val (.long (m0_1 q0 q1 q2 q3 p4)), .second, .unset, .unset, .unset, .unset, .unset, .unset, .unset, .unset, .unset, .unset, .unset, .unset, .unset, .unset, .unset, .unset] [(.long (f1 q0 q1))])) _
    refine XS.lstore X3.here hx rfl (hb hby at_35) rfl (l' := #[.val (.long q0), .second, .val (.long q1), .second, .val (.long q2), .second, .val (.long q3), .second, .val (.int p4), .val (.long (m0_0 q0 q1 q2 q3 p4)), .second, .val (.long (m0_1 q0 q1 q2 q3 p4)), .second, .val (.long (f1 q0 q1)), .second, .unset, .unset, .unset, .unset, .unset, .unset, .unset, .unset, .unset, .unset, .unset, .unset, .unset, .unset]) rfl ?_
    show Steps p.tables e below (T3.setTop (mkF m 37 #[.val (.long q0), .second, .val (.long q1), .second, .val (.long q2), .second, .val (.long q3), .second, .val (.int p4), .val (.long (m0_0 q0 q1 q2 q3 p4)), .second, .val (.long (m0_1 q0 q1 q2 q3 p4)), .second, .val (.long (f1 q0 q1)), .second, .unset, .unset, .unset, .unset, .unset, .unset, .unset, .unset, .unset, .unset, .unset, .unset, .unset, .unset] [])) _
    refine XS.lloadN X3.here hx rfl (hb hby at_37) rfl ?_
    show Steps p.tables e below (T3.setTop (mkF m 38 #[.val (.long q0), .second, .val (.long q1), .second, .val (.long q2), .second, .val (.long q3), .second, .val (.int p4), .val (.long (m0_0 q0 q1 q2 q3 p4)), .second, .val (.long (m0_1 q0 q1 q2 q3 p4)), .second, .val (.long (f1 q0 q1)), .second, .unset, .unset, .unset, .unset, .unset, .unset, .unset, .unset, .unset, .unset, .unset, .unset, .unset, .unset] [(.long q0)])) _
    refine XS.lloadN X3.here hx rfl (hb hby at_38) rfl ?_
    show Steps p.tables e below (T3.setTop (mkF m 39 #[.val (.long q0), .second, .val (.long q1), .second, .val (.long q2), .second, .val (.long q3), .second, .val (.int p4), .val (.long (m0_0 q0 q1 q2 q3 p4)), .second, .val (.long (m0_1 q0 q1 q2 q3 p4)), .second, .val (.long (f1 q0 q1)), .second, .unset, .unset, .unset, .unset, .unset, .unset, .unset, .unset, .unset, .unset, .unset, .unset, .unset, .unset] [(.long q1), (.long q0)])) _
    refine st4 _ ?_
    show Steps p.tables e below (T4.setTop (mkF m 42 #[.val (.long q0), .second, .val (.long q1), .second, .val (.long q2), .second, .val (.long q3), .second, .val (.int p4), .val (.long (m0_0 q0 q1 q2 q3 p4)), .second, .val (.long (m0_1 q0 q1 q2 q3 p4)), .second, .val (.long (f1 q0 q1)), .second, .unset, .unset, .unset, .unset, .unset, .unset, .unset, .unset, .unset, .unset, .unset, .unset, .unset, .unset] [(.long (f4 q0 q1))])) _
    refine XS.lstore X4.here hx rfl (hb hby at_42) rfl (l' := #[.val (.long q0), .second, .val (.long q1), .second, .val (.long q2), .second, .val (.long q3), .second, .val (.int p4), .val (.long (m0_0 q0 q1 q2 q3 p4)), .second, .val (.long (m0_1 q0 q1 q2 q3 p4)), .second, .val (.long (f1 q0 q1)), .second, .val (.long (f4 q0 q1)), .second, .unset, .unset, .unset, .unset, .unset, .unset, .unset, .unset, .unset, .unset, .unset, .unset]) rfl ?_
    show Steps p.tables e below (T4.setTop (mkF m 44 #[.val (.long q0), .second, .val (.long q1), .second, .val (.long q2), .second, .val (.long q3), .second, .val (.int p4), .val (.long (m0_0 q0 q1 q2 q3 p4)), .second, .val (.long (m0_1 q0 q1 q2 q3 p4)), .second, .val (.long (f1 q0 q1)), .second, .val (.long (f4 q0 q1)), .second, .unset, .unset, .unset, .unset, .unset, .unset, .unset, .unset, .unset, .unset, .unset, .unset] [])) _
    refine XS.lload X4.here hx rfl (hb hby at_44) rfl ?_
    show Steps p.tables e below (T4.setTop (mkF m 46 #[.val (.long q0), .second, .val (.long q1), .second, .val (.long q2), .second, .val (.long q3), .second, .val (.int p4), .val (.long (m0_0 q0 q1 q2 q3 p4)), .second, .val (.long (m0_1 q0 q1 q2 q3 p4)), .second, .val (.long (f1 q0 q1)), .second, .val (.long (f4 q0 q1)), .second, .unset, .unset, .unset, .unset, .unset, .unset, .unset, .unset, .unset, .unset, .unset, .unset] [(.long (m0_0 q0 q1 q2 q3 p4))])) _
    refine XS.lload X4.here hx rfl (hb hby at_46) rfl ?_
    show Steps p.tables e below (T4.setTop (mkF m 48 #[.val (.long q0), .second, .val (.long q1), .second, .val (.long q2), .second, .val (.long q3), .second, .val (.int p4), .val (.long (m0_0 q0 q1 q2 q3 p4)), .second, .val (.long (m0_1 q0 q1 q2 q3 p4)), .second, .val (.long (f1 q0 q1)), .second, .val (.long (f4 q0 q1)), .second, .unset, .unset, .unset, .unset, .unset, .unset, .unset, .unset, .unset, .unset, .unset, .unset] [(.long (m0_1 q0 q1 q2 q3 p4)), (.long (m0_0 q0 q1 q2 q3 p4))])) _
    refine st5 _ ?_
    show Steps p.tables e below (T5.setTop (mkF m 51 #[.val (.long q0), .second, .val (.long q1), .second, .val (.long q2), .second, .val (.long q3), .second, .val (.int p4), .val (.long (m0_0 q0 q1 q2 q3 p4)), .second, .val (.long (m0_1 q0 q1 q2 q3 p4)), .second, .val (.long (f1 q0 q1)), .second, .val (.long (f4 q0 q1)), .second, .unset, .unset, .unset, .unset, .unset, .unset, .unset, .unset, .unset, .unset, .unset, .unset] [(.long (f1 (m0_0 q0 q1 q2 q3 p4) (m0_1 q0 q1 q2 q3 p4)))])) _
    refine XS.lstore X5.here hx rfl (hb hby at_51) rfl (l' := #[.val (.long q0), .second, .val (.long q1), .second, .val (.long q2), .second, .val (.long q3), .second, .val (.int p4), .val (.long (m0_0 q0 q1 q2 q3 p4)), .second, .val (.long (m0_1 q0 q1 q2 q3 p4)), .second, .val (.long (f1 q0 q1)), .second, .val (.long (f4 q0 q1)), .second, .val (.long (f1 (m0_0 q0 q1 q2 q3 p4) (m0_1 q0 q1 q2 q3 p4))), .second, .unset, .unset, .unset, .unset, .unset, .unset, .unset, .unset, .unset, .unset]) rfl ?_
    show Steps p.tables e below (T5.setTop (mkF m 53 #[.val (.long q0), .second, .val (.long q1), .second, .val (.long q2), .second, .val (.long q3), .second, .val (.int p4), .val (.long (m0_0 q0 q1 q2 q3 p4)), .second, .val (.long (m0_1 q0 q1 q2 q3 p4)), .second, .val (.long (f1 q0 q1)), .second, .val (.long (f4 q0 q1)), .second, .val (.long (f1 (m0_0 q0 q1 q2 q3 p4) (m0_1 q0 q1 q2 q3 p4))), .second, .unset, .unset, .unset, .unset, .unset, .unset, .unset, .unset, .unset, .unset] [])) _
    refine XS.lload X5.here hx rfl (hb hby at_53) rfl ?_
    show Steps p.tables e below (T5.setTop (mkF m 55 #[.val (.long q0), .second, .val (.long q1), .second, .val (.long q2), .second, .val (.long q3), .second, .val (.int p4), .val (.long (m0_0 q0 q1 q2 q3 p4)), .second, .val (.long (m0_1 q0 q1 q2 q3 p4)), .second, .val (.long (f1 q0 q1)), .second, .val (.long (f4 q0 q1)), .second, .val (.long (f1 (m0_0 q0 q1 q2 q3 p4) (m0_1 q0 q1 q2 q3 p4))), .second, .unset, .unset, .unset, .unset, .unset, .unset, .unset, .unset, .unset, .unset] [(.long (m0_0 q0 q1 q2 q3 p4))])) _
    refine XS.lload X5.here hx rfl (hb hby at_55) rfl ?_
    show Steps p.tables e below (T5.setTop (mkF m 57 #[.val (.long q0), .second, .val (.long q1), .second, .val (.long q2), .second, .val (.long q3), .second, .val (.int p4), .val (.long (m0_0 q0 q1 q2 q3 p4)), .second, .val (.long (m0_1 q0 q1 q2 q3 p4)), .second, .val (.long (f1 q0 q1)), .second, .val (.long (f4 q0 q1)), .second, .val (.long (f1 (m0_0 q0 q1 q2 q3 p4) (m0_1 q0 q1 q2 q3 p4))), .second, .unset, .unset, .unset, .unset, .unset, .unset, .unset, .unset, .unset, .unset] [(.long (m0_1 q0 q1 q2 q3 p4)), (.long (m0_0 q0 q1 q2 q3 p4))])) _
    refine st6 _ ?_
    show Steps p.tables e below (T6.setTop (mkF m 60 #[.val (.long q0), .second, .val (.long q1), .second, .val (.long q2), .second, .val (.long q3), .second, .val (.int p4), .val (.long (m0_0 q0 q1 q2 q3 p4)), .second, .val (.long (m0_1 q0 q1 q2 q3 p4)), .second, .val (.long (f1 q0 q1)), .second, .val (.long (f4 q0 q1)), .second, .val (.long (f1 (m0_0 q0 q1 q2 q3 p4) (m0_1 q0 q1 q2 q3 p4))), .second, .unset, .unset, .unset, .unset, .unset, .unset, .unset, .unset, .unset, .unset] [(.long (f4 (m0_0 q0 q1 q2 q3 p4) (m0_1 q0 q1 q2 q3 p4)))])) _
    refine XS.lstore X6.here hx rfl (hb hby at_60) rfl (l' := #[.val (.long q0), .second, .val (.long q1), .second, .val (.long q2), .second, .val (.long q3), .second, .val (.int p4), .val (.long (m0_0 q0 q1 q2 q3 p4)), .second, .val (.long (m0_1 q0 q1 q2 q3 p4)), .second, .val (.long (f1 q0 q1)), .second, .val (.long (f4 q0 q1)), .second, .val (.long (f1 (m0_0 q0 q1 q2 q3 p4) (m0_1 q0 q1 q2 q3 p4))), .second, .val (.long (f4 (m0_0 q0 q1 q2 q3 p4) (m0_1 q0 q1 q2 q3 p4))), .second, .unset, .unset, .unset, .unset, .unset, .unset, .unset, .unset]) rfl ?_
    show Steps p.tables e below (T6.setTop (mkF m 62 #[.val (.long q0), .second, .val (.long q1), .second, .val (.long q2), .second, .val (.long q3), .second, .val (.int p4), .val (.long (m0_0 q0 q1 q2 q3 p4)), .second, .val (.long (m0_1 q0 q1 q2 q3 p4)), .second, .val (.long (f1 q0 q1)), .second, .val (.long (f4 q0 q1)), .second, .val (.long (f1 (m0_0 q0 q1 q2 q3 p4) (m0_1 q0 q1 q2 q3 p4))), .second, .val (.long (f4 (m0_0 q0 q1 q2 q3 p4) (m0_1 q0 q1 q2 q3 p4))), .second, .unset, .unset, .unset, .unset, .unset, .unset, .unset, .unset] [])) _
    refine st7 _ ?_
    show Steps p.tables e below (T7.setTop (mkF m 65 #[.val (.long q0), .second, .val (.long q1), .second, .val (.long q2), .second, .val (.long q3), .second, .val (.int p4), .val (.long (m0_0 q0 q1 q2 q3 p4)), .second, .val (.long (m0_1 q0 q1 q2 q3 p4)), .second, .val (.long (f1 q0 q1)), .second, .val (.long (f4 q0 q1)), .second, .val (.long (f1 (m0_0 q0 q1 q2 q3 p4) (m0_1 q0 q1 q2 q3 p4))), .second, .val (.long (f4 (m0_0 q0 q1 q2 q3 p4) (m0_1 q0 q1 q2 q3 p4))), .second, .unset, .unset, .unset, .unset, .unset, .unset, .unset, .unset] [(.ref b7)])) _
    refine XS.dup X7.here hx rfl (hb hby at_65) rfl rfl ?_
    show Steps p.tables e below (T7.setTop (mkF m 66 #[.val (.long q0), .second, .val (.long q1), .second, .val (.long q2), .second, .val (.long q3), .second, .val (.int p4), .val (.long (m0_0 q0 q1 q2 q3 p4)), .second, .val (.long (m0_1 q0 q1 q2 q3 p4)), .second, .val (.long (f1 q0 q1)), .second, .val (.long (f4 q0 q1)), .second, .val (.long (f1 (m0_0 q0 q1 q2 q3 p4) (m0_1 q0 q1 q2 q3 p4))), .second, .val (.long (f4 (m0_0 q0 q1 q2 q3 p4) (m0_1 q0 q1 q2 q3 p4))), .second, .unset, .unset, .unset, .unset, .unset, .unset, .unset, .unset] [(.ref b7), (.ref b7)])) _
    refine XS.lload X7.here hx rfl (hb hby at_66) rfl ?_
    show Steps p.tables e below (T7.setTop (mkF m 68 #[.val (.long q0), .second, .val (.long q1), .second, .val (.long q2), .second, .val (.long q3), .second, .val (.int p4), .val (.long (m0_0 q0 q1 q2 q3 p4)), .second, .val (.long (m0_1 q0 q1 q2 q3 p4)), .second, .val (.long (f1 q0 q1)), .second, .val (.long (f4 q0 q1)), .second, .val (.long (f1 (m0_0 q0 q1 q2 q3 p4) (m0_1 q0 q1 q2 q3 p4))), .second, .val (.long (f4 (m0_0 q0 q1 q2 q3 p4) (m0_1 q0 q1 q2 q3 p4))), .second, .unset, .unset, .unset, .unset, .unset, .unset, .unset, .unset] [(.long (f1 q0 q1)), (.ref b7), (.ref b7)])) _
    refine XS.lload X7.here hx rfl (hb hby at_68) rfl ?_
    show Steps p.tables e below (T7.setTop (mkF m 70 #[.val (.long q0), .second, .val (.long q1), .second, .val (.long q2), .second, .val (.long q3), .second, .val (.int p4), .val (.long (m0_0 q0 q1 q2 q3 p4)), .second, .val (.long (m0_1 q0 q1 q2 q3 p4)), .second, .val (.long (f1 q0 q1)), .second, .val (.long (f4 q0 q1)), .second, .val (.long (f1 (m0_0 q0 q1 q2 q3 p4) (m0_1 q0 q1 q2 q3 p4))), .second, .val (.long (f4 (m0_0 q0 q1 q2 q3 p4) (m0_1 q0 q1 q2 q3 p4))), .second, .unset, .unset, .unset, .unset, .unset, .unset, .unset, .unset] [(.long (f4 q0 q1)), (.long (f1 q0 q1)), (.ref b7), (.ref b7)])) _
    refine st8.trans ?_
    show Steps p.tables e below (T8.setTop (mkF m 73 #[.val (.long q0), .second, .val (.long q1), .second, .val (.long q2), .second, .val (.long q3), .second, .val (.int p4), .val (.long (m0_0 q0 q1 q2 q3 p4)), .second, .val (.long (m0_1 q0 q1 q2 q3 p4)), .second, .val (.long (f1 q0 q1)), .second, .val (.long (f4 q0 q1)), .second, .val (.long (f1 (m0_0 q0 q1 q2 q3 p4) (m0_1 q0 q1 q2 q3 p4))), .second, .val (.long (f4 (m0_0 q0 q1 q2 q3 p4) (m0_1 q0 q1 q2 q3 p4))), .second, .unset, .unset, .unset, .unset, .unset, .unset, .unset, .unset] [(.ref b7)])) _
    refine XS.astore X8.here hx rfl (hb hby at_73) rfl rfl (l' := #[.val (.long q0), .second, .val (.long q1), .second, .val (.long q2), .second, .val (.long q3), .second, .val (.int p4), .val (.long (m0_0 q0 q1 q2 q3 p4)), .second, .val (.long (m0_1 q0 q1 q2 q3 p4)), .second, .val (.long (f1 q0 q1)), .second, .val (.long (f4 q0 q1)), .second, .val (.long (f1 (m0_0 q0 q1 q2 q3 p4) (m0_1 q0 q1 q2 q3 p4))), .second, .val (.long (f4 (m0_0 q0 q1 q2 q3 p4) (m0_1 q0 q1 q2 q3 p4))), .second, .val (.ref b7), .unset, .unset, .unset, .unset, .unset, .unset, .unset]) rfl ?_
    show Steps p.tables e below (T8.setTop (mkF m 75 #[.val (.long q0), .second, .val (.long q1), .second, .val (.long q2), .second, .val (.long q3), .second, .val (.int p4), .val (.long (m0_0 q0 q1 q2 q3 p4)), .second, .val (.long (m0_1 q0 q1 q2 q3 p4)), .second, .val (.long (f1 q0 q1)), .second, .val (.long (f4 q0 q1)), .second, .val (.long (f1 (m0_0 q0 q1 q2 q3 p4) (m0_1 q0 q1 q2 q3 p4))), .second, .val (.long (f4 (m0_0 q0 q1 q2 q3 p4) (m0_1 q0 q1 q2 q3 p4))), .second, .val (.ref b7), .unset, .unset, .unset, .unset, .unset, .unset, .unset] [])) _
    refine st9 _ ?_
    show Steps p.tables e below (T9.setTop (mkF m 78 #[.val (.long q0), .second, .val (.long q1), .second, .val (.long q2), .second, .val (.long q3), .second, .val (.int p4), .val (.long (m0_0 q0 q1 q2 q3 p4)), .second, .val (.long (m0_1 q0 q1 q2 q3 p4)), .second, .val (.long (f1 q0 q1)), .second, .val (.long (f4 q0 q1)), .second, .val (.long (f1 (m0_0 q0 q1 q2 q3 p4) (m0_1 q0 q1 q2 q3 p4))), .second, .val (.long (f4 (m0_0 q0 q1 q2 q3 p4) (m0_1 q0 q1 q2 q3 p4))), .second, .val (.ref b7), .unset, .unset, .unset, .unset, .unset, .unset, .unset] [(.ref b9)])) _
    refine XS.dup X9.here hx rfl (hb hby at_78) rfl rfl ?_
    show Steps p.tables e below (T9.setTop (mkF m 79 #[.val (.long q0), .second, .val (.long q1), .second, .val (.long q2), .second, .val (.long q3), .second, .val (.int p4), .val (.long (m0_0 q0 q1 q2 q3 p4)), .second, .val (.long (m0_1 q0 q1 q2 q3 p4)), .second, .val (.long (f1 q0 q1)), .second, .val (.long (f4 q0 q1)), .second, .val (.long (f1 (m0_0 q0 q1 q2 q3 p4) (m0_1 q0 q1 q2 q3 p4))), .second, .val (.long (f4 (m0_0 q0 q1 q2 q3 p4) (m0_1 q0 q1 q2 q3 p4))), .second, .val (.ref b7), .unset, .unset, .unset, .unset, .unset, .unset, .unset] [(.ref b9), (.ref b9)])) _
    refine XS.lload X9.here hx rfl (hb hby at_79) rfl ?_
    show Steps p.tables e below (T9.setTop (mkF m 81 #[.val (.long q0), .second, .val (.long q1), .second, .val (.long q2), .second, .val (.long q3), .second, .val (.int p4), .val (.long (m0_0 q0 q1 q2 q3 p4)), .second, .val (.long (m0_1 q0 q1 q2 q3 p4)), .second, .val (.long (f1 q0 q1)), .second, .val (.long (f4 q0 q1)), .second, .val (.long (f1 (m0_0 q0 q1 q2 q3 p4) (m0_1 q0 q1 q2 q3 p4))), .second, .val (.long (f4 (m0_0 q0 q1 q2 q3 p4) (m0_1 q0 q1 q2 q3 p4))), .second, .val (.ref b7), .unset, .unset, .unset, .unset, .unset, .unset, .unset] [(.long (f1 (m0_0 q0 q1 q2 q3 p4) (m0_1 q0 q1 q2 q3 p4))), (.ref b9), (.ref b9)])) _
    refine XS.lload X9.here hx rfl (hb hby at_81) rfl ?_
    show Steps p.tables e below (T9.setTop (mkF m 83 #[.val (.long q0), .second, .val (.long q1), .second, .val (.long q2), .second, .val (.long q3), .second, .val (.int p4), .val (.long (m0_0 q0 q1 q2 q3 p4)), .second, .val (.long (m0_1 q0 q1 q2 q3 p4)), .second, .val (.long (f1 q0 q1)), .second, .val (.long (f4 q0 q1)), .second, .val (.long (f1 (m0_0 q0 q1 q2 q3 p4) (m0_1 q0 q1 q2 q3 p4))), .second, .val (.long (f4 (m0_0 q0 q1 q2 q3 p4) (m0_1 q0 q1 q2 q3 p4))), .second, .val (.ref b7), .unset, .unset, .unset, .unset, .unset, .unset, .unset] [(.long (f4 (m0_0 q0 q1 q2 q3 p4) (m0_1 q0 q1 q2 q3 p4))), (.long (f1 (m0_0 q0 q1 q2 q3 p4) (m0_1 q0 q1 q2 q3 p4))), (.ref b9), (.ref b9)])) _
    refine st10.trans ?_
    show Steps p.tables e below (T10.setTop (mkF m 86 #[.val (.long q0), .second, .val (.long q1), .second, .val (.long q2), .second, .val (.long q3), .second, .val (.int p4), .val (.long (m0_0 q0 q1 q2 q3 p4)), .second, .val (.long (m0_1 q0 q1 q2 q3 p4)), .second, .val (.long (f1 q0 q1)), .second, .val (.long (f4 q0 q1)), .second, .val (.long (f1 (m0_0 q0 q1 q2 q3 p4) (m0_1 q0 q1 q2 q3 p4))), .second, .val (.long (f4 (m0_0 q0 q1 q2 q3 p4) (m0_1 q0 q1 q2 q3 p4))), .second, .val (.ref b7), .unset, .unset, .unset, .unset, .unset, .unset, .unset] [(.ref b9)])) _
    refine XS.astore X10.here hx rfl (hb hby at_86) rfl rfl (l' := #[.val (.long q0), .second, .val (.long q1), .second, .val (.long q2), .second, .val (.long q3), .second, .val (.int p4), .val (.long (m0_0 q0 q1 q2 q3 p4)), .second, .val (.long (m0_1 q0 q1 q2 q3 p4)), .second, .val (.long (f1 q0 q1)), .second, .val (.long (f4 q0 q1)), .second, .val (.long (f1 (m0_0 q0 q1 q2 q3 p4) (m0_1 q0 q1 q2 q3 p4))), .second, .val (.long (f4 (m0_0 q0 q1 q2 q3 p4) (m0_1 q0 q1 q2 q3 p4))), .second, .val (.ref b7), .val (.ref b9), .unset, .unset, .unset, .unset, .unset, .unset]) rfl ?_
    show Steps p.tables e below (T10.setTop (mkF m 88 #[.val (.long q0), .second, .val (.long q1), .second, .val (.long q2), .second, .val (.long q3), .second, .val (.int p4), .val (.long (m0_0 q0 q1 q2 q3 p4)), .second, .val (.long (m0_1 q0 q1 q2 q3 p4)), .second, .val (.long (f1 q0 q1)), .second, .val (.long (f4 q0 q1)), .second, .val (.long (f1 (m0_0 q0 q1 q2 q3 p4) (m0_1 q0 q1 q2 q3 p4))), .second, .val (.long (f4 (m0_0 q0 q1 q2 q3 p4) (m0_1 q0 q1 q2 q3 p4))), .second, .val (.ref b7), .val (.ref b9), .unset, .unset, .unset, .unset, .unset, .unset] [])) _
    refine XS.lload X10.here hx rfl (hb hby at_88) rfl ?_
    show Steps p.tables e below (T10.setTop (mkF m 90 #[.val (.long q0), .second, .val (.long q1), .second, .val (.long q2), .second, .val (.long q3), .second, .val (.int p4), .val (.long (m0_0 q0 q1 q2 q3 p4)), .second, .val (.long (m0_1 q0 q1 q2 q3 p4)), .second, .val (.long (f1 q0 q1)), .second, .val (.long (f4 q0 q1)), .second, .val (.long (f1 (m0_0 q0 q1 q2 q3 p4) (m0_1 q0 q1 q2 q3 p4))), .second, .val (.long (f4 (m0_0 q0 q1 q2 q3 p4) (m0_1 q0 q1 q2 q3 p4))), .second, .val (.ref b7), .val (.ref b9), .unset, .unset, .unset, .unset, .unset, .unset] [(.long (f1 q0 q1))])) _
    refine XS.lload X10.here hx rfl (hb hby at_90) rfl ?_
    show Steps p.tables e below (T10.setTop (mkF m 92 #[.val (.long q0), .second, .val (.long q1), .second, .val (.long q2), .second, .val (.long q3), .second, .val (.int p4), .val (.long (m0_0 q0 q1 q2 q3 p4)), .second, .val (.long (m0_1 q0 q1 q2 q3 p4)), .second, .val (.long (f1 q0 q1)), .second, .val (.long (f4 q0 q1)), .second, .val (.long (f1 (m0_0 q0 q1 q2 q3 p4) (m0_1 q0 q1 q2 q3 p4))), .second, .val (.long (f4 (m0_0 q0 q1 q2 q3 p4) (m0_1 q0 q1 q2 q3 p4))), .second, .val (.ref b7), .val (.ref b9), .unset, .unset, .unset, .unset, .unset, .unset] [(.long (f1 (m0_0 q0 q1 q2 q3 p4) (m0_1 q0 q1 q2 q3 p4))), (.long (f1 q0 q1))])) _
    refine XS.lcmp X10.here hx rfl (hb hby at_92) rfl ?_
    exact kt
  refine own_back (b := T10.setTop (mkF m 109 #[.val (.long q0), .second, .val (.long q1), .second, .val (.long q2), .second, .val (.long q3), .second, .val (.int p4), .val (.long (m0_0 q0 q1 q2 q3 p4)), .second, .val (.long (m0_1 q0 q1 q2 q3 p4)), .second, .val (.long (f1 q0 q1)), .second, .val (.long (f4 q0 q1)), .second, .val (.long (f1 (m0_0 q0 q1 q2 q3 p4) (m0_1 q0 q1 q2 q3 p4))), .second, .val (.long (f4 (m0_0 q0 q1 q2 q3 p4) (m0_1 q0 q1 q2 q3 p4))), .second, .val (.ref b7), .val (.ref b9), .unset, .unset, .unset, .unset, .unset, .unset] [(.int (m0_2 q0 q1 q2 q3 p4))])) (fun t kt => ?_) ?_
  · by_cases hm93_11 : (f1 q0 q1) = (f1 (m0_0 q0 q1 q2 q3 p4) (m0_1 q0 q1 q2 q3 p4))
    · by_cases hm101_12 : (f4 q0 q1) = (f4 (m0_0 q0 q1 q2 q3 p4) (m0_1 q0 q1 q2 q3 p4))
      · rw [show (m0_2 q0 q1 q2 q3 p4) = (1 : Int32) from by unfold m0_2; rw [if_pos hm93_11, if_pos hm101_12]] at kt
        show Steps p.tables e below (T10.setTop (mkF m 93 #[.val (.long q0), .second, .val (.long q1), .second, .val (.long q2), .second, .val (.long q3), .second, .val (.int p4), .val (.long (m0_0 q0 q1 q2 q3 p4)), .second, .val (.long (m0_1 q0 q1 q2 q3 p4)), .second, .val (.long (f1 q0 q1)), .second, .val (.long (f4 q0 q1)), .second, .val (.long (f1 (m0_0 q0 q1 q2 q3 p4) (m0_1 q0 q1 q2 q3 p4))), .second, .val (.long (f4 (m0_0 q0 q1 q2 q3 p4) (m0_1 q0 q1 q2 q3 p4))), .second, .val (.ref b7), .val (.ref b9), .unset, .unset, .unset, .unset, .unset, .unset] [(.int (lcmpW (f1 q0 q1) (f1 (m0_0 q0 q1 q2 q3 p4) (m0_1 q0 q1 q2 q3 p4))))])) _
        refine XS.ifNo X10.here hx rfl (hb hby at_93) rfl ((if0 _ _).trans (teq ((lw_eq _ _).mpr hm93_11)).2) ?_
        show Steps p.tables e below (T10.setTop (mkF m 96 #[.val (.long q0), .second, .val (.long q1), .second, .val (.long q2), .second, .val (.long q3), .second, .val (.int p4), .val (.long (m0_0 q0 q1 q2 q3 p4)), .second, .val (.long (m0_1 q0 q1 q2 q3 p4)), .second, .val (.long (f1 q0 q1)), .second, .val (.long (f4 q0 q1)), .second, .val (.long (f1 (m0_0 q0 q1 q2 q3 p4) (m0_1 q0 q1 q2 q3 p4))), .second, .val (.long (f4 (m0_0 q0 q1 q2 q3 p4) (m0_1 q0 q1 q2 q3 p4))), .second, .val (.ref b7), .val (.ref b9), .unset, .unset, .unset, .unset, .unset, .unset] [])) _
        refine XS.lload X10.here hx rfl (hb hby at_96) rfl ?_
        show Steps p.tables e below (T10.setTop (mkF m 98 #[.val (.long q0), .second, .val (.long q1), .second, .val (.long q2), .second, .val (.long q3), .second, .val (.int p4), .val (.long (m0_0 q0 q1 q2 q3 p4)), .second, .val (.long (m0_1 q0 q1 q2 q3 p4)), .second, .val (.long (f1 q0 q1)), .second, .val (.long (f4 q0 q1)), .second, .val (.long (f1 (m0_0 q0 q1 q2 q3 p4) (m0_1 q0 q1 q2 q3 p4))), .second, .val (.long (f4 (m0_0 q0 q1 q2 q3 p4) (m0_1 q0 q1 q2 q3 p4))), .second, .val (.ref b7), .val (.ref b9), .unset, .unset, .unset, .unset, .unset, .unset] [(.long (f4 q0 q1))])) _
        refine XS.lload X10.here hx rfl (hb hby at_98) rfl ?_
        show Steps p.tables e below (T10.setTop (mkF m 100 #[.val (.long q0), .second, .val (.long q1), .second, .val (.long q2), .second, .val (.long q3), .second, .val (.int p4), .val (.long (m0_0 q0 q1 q2 q3 p4)), .second, .val (.long (m0_1 q0 q1 q2 q3 p4)), .second, .val (.long (f1 q0 q1)), .second, .val (.long (f4 q0 q1)), .second, .val (.long (f1 (m0_0 q0 q1 q2 q3 p4) (m0_1 q0 q1 q2 q3 p4))), .second, .val (.long (f4 (m0_0 q0 q1 q2 q3 p4) (m0_1 q0 q1 q2 q3 p4))), .second, .val (.ref b7), .val (.ref b9), .unset, .unset, .unset, .unset, .unset, .unset] [(.long (f4 (m0_0 q0 q1 q2 q3 p4) (m0_1 q0 q1 q2 q3 p4))), (.long (f4 q0 q1))])) _
        refine XS.lcmp X10.here hx rfl (hb hby at_100) rfl ?_
        show Steps p.tables e below (T10.setTop (mkF m 101 #[.val (.long q0), .second, .val (.long q1), .second, .val (.long q2), .second, .val (.long q3), .second, .val (.int p4), .val (.long (m0_0 q0 q1 q2 q3 p4)), .second, .val (.long (m0_1 q0 q1 q2 q3 p4)), .second, .val (.long (f1 q0 q1)), .second, .val (.long (f4 q0 q1)), .second, .val (.long (f1 (m0_0 q0 q1 q2 q3 p4) (m0_1 q0 q1 q2 q3 p4))), .second, .val (.long (f4 (m0_0 q0 q1 q2 q3 p4) (m0_1 q0 q1 q2 q3 p4))), .second, .val (.ref b7), .val (.ref b9), .unset, .unset, .unset, .unset, .unset, .unset] [(.int (lcmpW (f4 q0 q1) (f4 (m0_0 q0 q1 q2 q3 p4) (m0_1 q0 q1 q2 q3 p4))))])) _
        refine XS.ifNo X10.here hx rfl (hb hby at_101) rfl ((if0 _ _).trans (teq ((lw_eq _ _).mpr hm101_12)).2) ?_
        show Steps p.tables e below (T10.setTop (mkF m 104 #[.val (.long q0), .second, .val (.long q1), .second, .val (.long q2), .second, .val (.long q3), .second, .val (.int p4), .val (.long (m0_0 q0 q1 q2 q3 p4)), .second, .val (.long (m0_1 q0 q1 q2 q3 p4)), .second, .val (.long (f1 q0 q1)), .second, .val (.long (f4 q0 q1)), .second, .val (.long (f1 (m0_0 q0 q1 q2 q3 p4) (m0_1 q0 q1 q2 q3 p4))), .second, .val (.long (f4 (m0_0 q0 q1 q2 q3 p4) (m0_1 q0 q1 q2 q3 p4))), .second, .val (.ref b7), .val (.ref b9), .unset, .unset, .unset, .unset, .unset, .unset] [])) _
        refine XS.iconst X10.here hx rfl (hb hby at_104) ?_
        show Steps p.tables e below (T10.setTop (mkF m 105 #[.val (.long q0), .second, .val (.long q1), .second, .val (.long q2), .second, .val (.long q3), .second, .val (.int p4), .val (.long (m0_0 q0 q1 q2 q3 p4)), .second, .val (.long (m0_1 q0 q1 q2 q3 p4)), .second, .val (.long (f1 q0 q1)), .second, .val (.long (f4 q0 q1)), .second, .val (.long (f1 (m0_0 q0 q1 q2 q3 p4) (m0_1 q0 q1 q2 q3 p4))), .second, .val (.long (f4 (m0_0 q0 q1 q2 q3 p4) (m0_1 q0 q1 q2 q3 p4))), .second, .val (.ref b7), .val (.ref b9), .unset, .unset, .unset, .unset, .unset, .unset] [(.int (1 : Int32))])) _
        refine XS.goto X10.here hx rfl (pc0 := 105) (pc' := 109) rfl (hb hby at_105) (by decide) (by decide) ?_
        exact kt
      · rw [show (m0_2 q0 q1 q2 q3 p4) = (0 : Int32) from by unfold m0_2; rw [if_pos hm93_11, if_neg hm101_12]] at kt
        show Steps p.tables e below (T10.setTop (mkF m 93 #[.val (.long q0), .second, .val (.long q1), .second, .val (.long q2), .second, .val (.long q3), .second, .val (.int p4), .val (.long (m0_0 q0 q1 q2 q3 p4)), .second, .val (.long (m0_1 q0 q1 q2 q3 p4)), .second, .val (.long (f1 q0 q1)), .second, .val (.long (f4 q0 q1)), .second, .val (.long (f1 (m0_0 q0 q1 q2 q3 p4) (m0_1 q0 q1 q2 q3 p4))), .second, .val (.long (f4 (m0_0 q0 q1 q2 q3 p4) (m0_1 q0 q1 q2 q3 p4))), .second, .val (.ref b7), .val (.ref b9), .unset, .unset, .unset, .unset, .unset, .unset] [(.int (lcmpW (f1 q0 q1) (f1 (m0_0 q0 q1 q2 q3 p4) (m0_1 q0 q1 q2 q3 p4))))])) _
        refine XS.ifNo X10.here hx rfl (hb hby at_93) rfl ((if0 _ _).trans (teq ((lw_eq _ _).mpr hm93_11)).2) ?_
        show Steps p.tables e below (T10.setTop (mkF m 96 #[.val (.long q0), .second, .val (.long q1), .second, .val (.long q2), .second, .val (.long q3), .second, .val (.int p4), .val (.long (m0_0 q0 q1 q2 q3 p4)), .second, .val (.long (m0_1 q0 q1 q2 q3 p4)), .second, .val (.long (f1 q0 q1)), .second, .val (.long (f4 q0 q1)), .second, .val (.long (f1 (m0_0 q0 q1 q2 q3 p4) (m0_1 q0 q1 q2 q3 p4))), .second, .val (.long (f4 (m0_0 q0 q1 q2 q3 p4) (m0_1 q0 q1 q2 q3 p4))), .second, .val (.ref b7), .val (.ref b9), .unset, .unset, .unset, .unset, .unset, .unset] [])) _
        refine XS.lload X10.here hx rfl (hb hby at_96) rfl ?_
        show Steps p.tables e below (T10.setTop (mkF m 98 #[.val (.long q0), .second, .val (.long q1), .second, .val (.long q2), .second, .val (.long q3), .second, .val (.int p4), .val (.long (m0_0 q0 q1 q2 q3 p4)), .second, .val (.long (m0_1 q0 q1 q2 q3 p4)), .second, .val (.long (f1 q0 q1)), .second, .val (.long (f4 q0 q1)), .second, .val (.long (f1 (m0_0 q0 q1 q2 q3 p4) (m0_1 q0 q1 q2 q3 p4))), .second, .val (.long (f4 (m0_0 q0 q1 q2 q3 p4) (m0_1 q0 q1 q2 q3 p4))), .second, .val (.ref b7), .val (.ref b9), .unset, .unset, .unset, .unset, .unset, .unset] [(.long (f4 q0 q1))])) _
        refine XS.lload X10.here hx rfl (hb hby at_98) rfl ?_
        show Steps p.tables e below (T10.setTop (mkF m 100 #[.val (.long q0), .second, .val (.long q1), .second, .val (.long q2), .second, .val (.long q3), .second, .val (.int p4), .val (.long (m0_0 q0 q1 q2 q3 p4)), .second, .val (.long (m0_1 q0 q1 q2 q3 p4)), .second, .val (.long (f1 q0 q1)), .second, .val (.long (f4 q0 q1)), .second, .val (.long (f1 (m0_0 q0 q1 q2 q3 p4) (m0_1 q0 q1 q2 q3 p4))), .second, .val (.long (f4 (m0_0 q0 q1 q2 q3 p4) (m0_1 q0 q1 q2 q3 p4))), .second, .val (.ref b7), .val (.ref b9), .unset, .unset, .unset, .unset, .unset, .unset] [(.long (f4 (m0_0 q0 q1 q2 q3 p4) (m0_1 q0 q1 q2 q3 p4))), (.long (f4 q0 q1))])) _
        refine XS.lcmp X10.here hx rfl (hb hby at_100) rfl ?_
        show Steps p.tables e below (T10.setTop (mkF m 101 #[.val (.long q0), .second, .val (.long q1), .second, .val (.long q2), .second, .val (.long q3), .second, .val (.int p4), .val (.long (m0_0 q0 q1 q2 q3 p4)), .second, .val (.long (m0_1 q0 q1 q2 q3 p4)), .second, .val (.long (f1 q0 q1)), .second, .val (.long (f4 q0 q1)), .second, .val (.long (f1 (m0_0 q0 q1 q2 q3 p4) (m0_1 q0 q1 q2 q3 p4))), .second, .val (.long (f4 (m0_0 q0 q1 q2 q3 p4) (m0_1 q0 q1 q2 q3 p4))), .second, .val (.ref b7), .val (.ref b9), .unset, .unset, .unset, .unset, .unset, .unset] [(.int (lcmpW (f4 q0 q1) (f4 (m0_0 q0 q1 q2 q3 p4) (m0_1 q0 q1 q2 q3 p4))))])) _
        refine XS.ifYes X10.here hx rfl (pc0 := 101) (pc' := 108) rfl (hb hby at_101) rfl ((if0 _ _).trans (feq (fun q => hm101_12 ((lw_eq _ _).mp q))).2) (by decide) (by decide) ?_
        show Steps p.tables e below (T10.setTop (mkF m 108 #[.val (.long q0), .second, .val (.long q1), .second, .val (.long q2), .second, .val (.long q3), .second, .val (.int p4), .val (.long (m0_0 q0 q1 q2 q3 p4)), .second, .val (.long (m0_1 q0 q1 q2 q3 p4)), .second, .val (.long (f1 q0 q1)), .second, .val (.long (f4 q0 q1)), .second, .val (.long (f1 (m0_0 q0 q1 q2 q3 p4) (m0_1 q0 q1 q2 q3 p4))), .second, .val (.long (f4 (m0_0 q0 q1 q2 q3 p4) (m0_1 q0 q1 q2 q3 p4))), .second, .val (.ref b7), .val (.ref b9), .unset, .unset, .unset, .unset, .unset, .unset] [])) _
        refine XS.iconst X10.here hx rfl (hb hby at_108) ?_
        exact kt
    · rw [show (m0_2 q0 q1 q2 q3 p4) = (0 : Int32) from by unfold m0_2; rw [if_neg hm93_11]] at kt
      show Steps p.tables e below (T10.setTop (mkF m 93 #[.val (.long q0), .second, .val (.long q1), .second, .val (.long q2), .second, .val (.long q3), .second, .val (.int p4), .val (.long (m0_0 q0 q1 q2 q3 p4)), .second, .val (.long (m0_1 q0 q1 q2 q3 p4)), .second, .val (.long (f1 q0 q1)), .second, .val (.long (f4 q0 q1)), .second, .val (.long (f1 (m0_0 q0 q1 q2 q3 p4) (m0_1 q0 q1 q2 q3 p4))), .second, .val (.long (f4 (m0_0 q0 q1 q2 q3 p4) (m0_1 q0 q1 q2 q3 p4))), .second, .val (.ref b7), .val (.ref b9), .unset, .unset, .unset, .unset, .unset, .unset] [(.int (lcmpW (f1 q0 q1) (f1 (m0_0 q0 q1 q2 q3 p4) (m0_1 q0 q1 q2 q3 p4))))])) _
      refine XS.ifYes X10.here hx rfl (pc0 := 93) (pc' := 108) rfl (hb hby at_93) rfl ((if0 _ _).trans (feq (fun q => hm93_11 ((lw_eq _ _).mp q))).2) (by decide) (by decide) ?_
      show Steps p.tables e below (T10.setTop (mkF m 108 #[.val (.long q0), .second, .val (.long q1), .second, .val (.long q2), .second, .val (.long q3), .second, .val (.int p4), .val (.long (m0_0 q0 q1 q2 q3 p4)), .second, .val (.long (m0_1 q0 q1 q2 q3 p4)), .second, .val (.long (f1 q0 q1)), .second, .val (.long (f4 q0 q1)), .second, .val (.long (f1 (m0_0 q0 q1 q2 q3 p4) (m0_1 q0 q1 q2 q3 p4))), .second, .val (.long (f4 (m0_0 q0 q1 q2 q3 p4) (m0_1 q0 q1 q2 q3 p4))), .second, .val (.ref b7), .val (.ref b9), .unset, .unset, .unset, .unset, .unset, .unset] [])) _
      refine XS.iconst X10.here hx rfl (hb hby at_108) ?_
      exact kt
  obtain ⟨cq13, kq13, q13a, q13b, q13c⟩ := isOf hZ rfl f10_0
  obtain ⟨_, _, ⟨T13, L13, k13, n13⟩, -, X13, ⟨Lc13, hQ13, l13, y13, z13⟩, st13⟩ := X10.virtualBack hx (y := (⟨"com/example/byteloom/byteloom/ByteRange", "equals", "(Ljava/lang/Object;)Z"⟩ : MethodName)) (z := (⟨"com/example/byteloom/byteloom/ByteRange", "equals", "(Ljava/lang/Object;)Z"⟩ : MethodName)) hown (mvT hZ (hw _ (List.mem_of_getElem? (i := 28) rfl))) (mvT hZ (hw _ (List.mem_of_getElem? (i := 29) rfl))) (notFace_of_selects (args := #[]) (mvT hZ (hw _ (List.mem_of_getElem? (i := 31) rfl)))) (mvT hZ (hw _ (List.mem_of_getElem? (i := 31) rfl))) (mvT hZ (hw _ (List.mem_of_getElem? (i := 30) rfl))) (by decide) (backOf (W := 0) (rm7a l Z aw hw [] b7 b9 (f1 q0 q1) (f4 q0 q1) (f1 (m0_0 q0 q1 q2 q3 p4) (m0_1 q0 q1 q2 q3 p4)) (f4 (m0_0 q0 q1 q2 q3 p4) (m0_1 q0 q1 q2 q3 p4)) T10.heap n0 Z10 f10_1 f10_2 P10_1 P10_2 P10_0) hZ (hw _ (List.mem_of_getElem? (i := 32) rfl)) (hw _ (List.mem_of_getElem? (i := 17) rfl)) (by decide) (by decide)) q13a q13c (g := (mkF m 115 #[.val (.long q0), .second, .val (.long q1), .second, .val (.long q2), .second, .val (.long q3), .second, .val (.int p4), .val (.long (m0_0 q0 q1 q2 q3 p4)), .second, .val (.long (m0_1 q0 q1 q2 q3 p4)), .second, .val (.long (f1 q0 q1)), .second, .val (.long (f4 q0 q1)), .second, .val (.long (f1 (m0_0 q0 q1 q2 q3 p4) (m0_1 q0 q1 q2 q3 p4))), .second, .val (.long (f4 (m0_0 q0 q1 q2 q3 p4) (m0_1 q0 q1 q2 q3 p4))), .second, .val (.ref b7), .val (.ref b9), .val (.int (m0_2 q0 q1 q2 q3 p4)), .unset, .unset, .unset, .unset, .unset] [(.ref b9), (.ref b7)])) rfl (by rw [hml]; rfl) (Steps.refl _) (argsL := [(.ref b9)]) (rest := []) (lenOf pd_0_2 rfl) rfl (by show 2 * 0 + _ ≤ _; exact Nat.le_of_eq rfl) (hb hby at_115) (fun _ _ => ⟨rfl, rfl, (by decide : 2 + 0 ≤ _), (by decide : 4 + 0 ≤ _)⟩)
  dsimp only [Pt.U, Pt.locs, Pt.cells, Pt.slots] at X13 l13 y13 z13 st13 hQ13
  subst l13 y13 z13
  obtain ⟨rfl, Nq13, e13⟩ := hQ13
  have N13 := Fr.app N10 Nq13
  obtain ⟨cq14, kq14, q14a, q14b, q14c⟩ := isOf hZ e13 P10_0
  obtain ⟨_, _, ⟨T14, L14, k14, n14⟩, -, X14, ⟨Lc14, hQ14, l14, y14, z14⟩, st14⟩ := X13.virtualBack hx (y := (⟨"com/example/byteloom/byteloom/ByteRange", "equals", "(Ljava/lang/Object;)Z"⟩ : MethodName)) (z := (⟨"com/example/byteloom/byteloom/ByteRange", "equals", "(Ljava/lang/Object;)Z"⟩ : MethodName)) hown (mvT hZ (hw _ (List.mem_of_getElem? (i := 28) rfl))) (mvT hZ (hw _ (List.mem_of_getElem? (i := 29) rfl))) (notFace_of_selects (args := #[]) (mvT hZ (hw _ (List.mem_of_getElem? (i := 31) rfl)))) (mvT hZ (hw _ (List.mem_of_getElem? (i := 31) rfl))) (mvT hZ (hw _ (List.mem_of_getElem? (i := 30) rfl))) (by decide) (backOf (W := 0) (rm7a l Z aw hw [] b9 b7 (f1 (m0_0 q0 q1 q2 q3 p4) (m0_1 q0 q1 q2 q3 p4)) (f4 (m0_0 q0 q1 q2 q3 p4) (m0_1 q0 q1 q2 q3 p4)) (f1 q0 q1) (f4 q0 q1) T10.heap n0 Z10 P10_1 P10_2 f10_1 f10_2 f10_0) hZ (hw _ (List.mem_of_getElem? (i := 32) rfl)) (hw _ (List.mem_of_getElem? (i := 17) rfl)) (by decide) (by decide)) q14a q14c (g := (mkF m 124 #[.val (.long q0), .second, .val (.long q1), .second, .val (.long q2), .second, .val (.long q3), .second, .val (.int p4), .val (.long (m0_0 q0 q1 q2 q3 p4)), .second, .val (.long (m0_1 q0 q1 q2 q3 p4)), .second, .val (.long (f1 q0 q1)), .second, .val (.long (f4 q0 q1)), .second, .val (.long (f1 (m0_0 q0 q1 q2 q3 p4) (m0_1 q0 q1 q2 q3 p4))), .second, .val (.long (f4 (m0_0 q0 q1 q2 q3 p4) (m0_1 q0 q1 q2 q3 p4))), .second, .val (.ref b7), .val (.ref b9), .val (.int (m0_2 q0 q1 q2 q3 p4)), .val (.int (f7a (f1 q0 q1) (f4 q0 q1) (f1 (m0_0 q0 q1 q2 q3 p4) (m0_1 q0 q1 q2 q3 p4)) (f4 (m0_0 q0 q1 q2 q3 p4) (m0_1 q0 q1 q2 q3 p4)))), .unset, .unset, .unset, .unset] [(.ref b7), (.ref b9)])) rfl (by rw [hml]; rfl) (Steps.refl _) (argsL := [(.ref b7)]) (rest := []) (lenOf pd_0_2 rfl) rfl (by show 2 * 0 + _ ≤ _; exact Nat.le_of_eq rfl) (hb hby at_124) (fun _ _ => ⟨rfl, e13, (by decide : 2 + 0 ≤ _), (by decide : 4 + 0 ≤ _)⟩)
  dsimp only [Pt.U, Pt.locs, Pt.cells, Pt.slots] at X14 l14 y14 z14 st14 hQ14
  subst l14 y14 z14
  obtain ⟨rfl, Nq14, e14⟩ := hQ14
  have N14 := Fr.app N13 Nq14
  obtain ⟨cq15, kq15, q15a, q15b, q15c⟩ := isOf hZ e14 f10_0
  obtain ⟨_, _, ⟨T15, L15, k15, n15⟩, -, X15, ⟨Lc15, hQ15, l15, y15, z15⟩, st15⟩ := X14.virtualBack hx (y := (⟨"com/example/byteloom/byteloom/ByteRange", "equals", "(Ljava/lang/Object;)Z"⟩ : MethodName)) (z := (⟨"com/example/byteloom/byteloom/ByteRange", "equals", "(Ljava/lang/Object;)Z"⟩ : MethodName)) hown (mvT hZ (hw _ (List.mem_of_getElem? (i := 28) rfl))) (mvT hZ (hw _ (List.mem_of_getElem? (i := 29) rfl))) (notFace_of_selects (args := #[]) (mvT hZ (hw _ (List.mem_of_getElem? (i := 31) rfl)))) (mvT hZ (hw _ (List.mem_of_getElem? (i := 31) rfl))) (mvT hZ (hw _ (List.mem_of_getElem? (i := 30) rfl))) (by decide) (backOf (W := 0) (rm7a l Z aw hw [] b7 b7 (f1 q0 q1) (f4 q0 q1) (f1 q0 q1) (f4 q0 q1) T10.heap n0 Z10 f10_1 f10_2 f10_1 f10_2 f10_0) hZ (hw _ (List.mem_of_getElem? (i := 32) rfl)) (hw _ (List.mem_of_getElem? (i := 17) rfl)) (by decide) (by decide)) q15a q15c (g := (mkF m 133 #[.val (.long q0), .second, .val (.long q1), .second, .val (.long q2), .second, .val (.long q3), .second, .val (.int p4), .val (.long (m0_0 q0 q1 q2 q3 p4)), .second, .val (.long (m0_1 q0 q1 q2 q3 p4)), .second, .val (.long (f1 q0 q1)), .second, .val (.long (f4 q0 q1)), .second, .val (.long (f1 (m0_0 q0 q1 q2 q3 p4) (m0_1 q0 q1 q2 q3 p4))), .second, .val (.long (f4 (m0_0 q0 q1 q2 q3 p4) (m0_1 q0 q1 q2 q3 p4))), .second, .val (.ref b7), .val (.ref b9), .val (.int (m0_2 q0 q1 q2 q3 p4)), .val (.int (f7a (f1 q0 q1) (f4 q0 q1) (f1 (m0_0 q0 q1 q2 q3 p4) (m0_1 q0 q1 q2 q3 p4)) (f4 (m0_0 q0 q1 q2 q3 p4) (m0_1 q0 q1 q2 q3 p4)))), .val (.int (f7a (f1 (m0_0 q0 q1 q2 q3 p4) (m0_1 q0 q1 q2 q3 p4)) (f4 (m0_0 q0 q1 q2 q3 p4) (m0_1 q0 q1 q2 q3 p4)) (f1 q0 q1) (f4 q0 q1))), .unset, .unset, .unset] [(.ref b7), (.ref b7)])) rfl (by rw [hml]; rfl) (Steps.refl _) (argsL := [(.ref b7)]) (rest := []) (lenOf pd_0_2 rfl) rfl (by show 2 * 0 + _ ≤ _; exact Nat.le_of_eq rfl) (hb hby at_133) (fun _ _ => ⟨rfl, e14, (by decide : 2 + 0 ≤ _), (by decide : 4 + 0 ≤ _)⟩)
  dsimp only [Pt.U, Pt.locs, Pt.cells, Pt.slots] at X15 l15 y15 z15 st15 hQ15
  subst l15 y15 z15
  obtain ⟨rfl, Nq15, e15⟩ := hQ15
  have N15 := Fr.app N14 Nq15
  obtain ⟨cq16, kq16, q16a, q16b, q16c⟩ := isOf hZ e15 f10_0
  obtain ⟨_, _, ⟨T16, L16, k16, n16⟩, -, X16, ⟨Lc16, hQ16, l16, y16, z16⟩, st16⟩ := X15.virtualBack hx (y := (⟨"com/example/byteloom/byteloom/ByteRange", "equals", "(Ljava/lang/Object;)Z"⟩ : MethodName)) (z := (⟨"com/example/byteloom/byteloom/ByteRange", "equals", "(Ljava/lang/Object;)Z"⟩ : MethodName)) hown (mvT hZ (hw _ (List.mem_of_getElem? (i := 28) rfl))) (mvT hZ (hw _ (List.mem_of_getElem? (i := 29) rfl))) (notFace_of_selects (args := #[]) (mvT hZ (hw _ (List.mem_of_getElem? (i := 31) rfl)))) (mvT hZ (hw _ (List.mem_of_getElem? (i := 31) rfl))) (mvT hZ (hw _ (List.mem_of_getElem? (i := 30) rfl))) (by decide) (backOf (W := 0) (rm7n l Z aw hw [] b7 T10.heap n0 Z10 ) hZ (hw _ (List.mem_of_getElem? (i := 32) rfl)) (hw _ (List.mem_of_getElem? (i := 17) rfl)) (by decide) (by decide)) q16a q16c (g := (mkF m 141 #[.val (.long q0), .second, .val (.long q1), .second, .val (.long q2), .second, .val (.long q3), .second, .val (.int p4), .val (.long (m0_0 q0 q1 q2 q3 p4)), .second, .val (.long (m0_1 q0 q1 q2 q3 p4)), .second, .val (.long (f1 q0 q1)), .second, .val (.long (f4 q0 q1)), .second, .val (.long (f1 (m0_0 q0 q1 q2 q3 p4) (m0_1 q0 q1 q2 q3 p4))), .second, .val (.long (f4 (m0_0 q0 q1 q2 q3 p4) (m0_1 q0 q1 q2 q3 p4))), .second, .val (.ref b7), .val (.ref b9), .val (.int (m0_2 q0 q1 q2 q3 p4)), .val (.int (f7a (f1 q0 q1) (f4 q0 q1) (f1 (m0_0 q0 q1 q2 q3 p4) (m0_1 q0 q1 q2 q3 p4)) (f4 (m0_0 q0 q1 q2 q3 p4) (m0_1 q0 q1 q2 q3 p4)))), .val (.int (f7a (f1 (m0_0 q0 q1 q2 q3 p4) (m0_1 q0 q1 q2 q3 p4)) (f4 (m0_0 q0 q1 q2 q3 p4) (m0_1 q0 q1 q2 q3 p4)) (f1 q0 q1) (f4 q0 q1))), .val (.int (f7a (f1 q0 q1) (f4 q0 q1) (f1 q0 q1) (f4 q0 q1))), .unset, .unset] [.null, (.ref b7)])) rfl (by rw [hml]; rfl) (Steps.refl _) (argsL := [.null]) (rest := []) (lenOf pd_0_2 rfl) rfl (by show 2 * 0 + _ ≤ _; exact Nat.le_of_eq rfl) (hb hby at_141) (fun _ _ => ⟨rfl, e15, (by decide : 2 + 0 ≤ _), (by decide : 4 + 0 ≤ _)⟩)
  dsimp only [Pt.U, Pt.locs, Pt.cells, Pt.slots] at X16 l16 y16 z16 st16 hQ16
  subst l16 y16 z16
  obtain ⟨rfl, Nq16, e16⟩ := hQ16
  have N16 := Fr.app N15 Nq16
  obtain ⟨_, _, ⟨T17, L17, k17, n17⟩, -, X17, ⟨Lc17, hQ17, l17, y17, z17⟩, st17⟩ := Jvm.LawKit.callS X16 hx (y := (⟨"java/lang/Long", "valueOf", "(J)Ljava/lang/Long;"⟩ : MethodName)) hown (mvT hZ (hw _ (List.mem_of_getElem? (i := 35) rfl))) (mvT hZ (hw _ (List.mem_of_getElem? (i := 36) rfl))) (mvT hZ (hw _ (List.mem_of_getElem? (i := 37) rfl))) (mvT hZ (hw _ (List.mem_of_getElem? (i := 38) rfl))) (by decide) (backOf (W := 1) (rm8 l Z aw hw [] (f1 q0 q1) wc T10.heap n0 Z10 (own_sta_keep S_cache K10) (X_lc.keep K10)) hZ (hw _ (List.mem_of_getElem? (i := 38) rfl)) (hw _ (List.mem_of_getElem? (i := 37) rfl)) (by decide) (by decide)) (g := (mkF m 150 #[.val (.long q0), .second, .val (.long q1), .second, .val (.long q2), .second, .val (.long q3), .second, .val (.int p4), .val (.long (m0_0 q0 q1 q2 q3 p4)), .second, .val (.long (m0_1 q0 q1 q2 q3 p4)), .second, .val (.long (f1 q0 q1)), .second, .val (.long (f4 q0 q1)), .second, .val (.long (f1 (m0_0 q0 q1 q2 q3 p4) (m0_1 q0 q1 q2 q3 p4))), .second, .val (.long (f4 (m0_0 q0 q1 q2 q3 p4) (m0_1 q0 q1 q2 q3 p4))), .second, .val (.ref b7), .val (.ref b9), .val (.int (m0_2 q0 q1 q2 q3 p4)), .val (.int (f7a (f1 q0 q1) (f4 q0 q1) (f1 (m0_0 q0 q1 q2 q3 p4) (m0_1 q0 q1 q2 q3 p4)) (f4 (m0_0 q0 q1 q2 q3 p4) (m0_1 q0 q1 q2 q3 p4)))), .val (.int (f7a (f1 (m0_0 q0 q1 q2 q3 p4) (m0_1 q0 q1 q2 q3 p4)) (f4 (m0_0 q0 q1 q2 q3 p4) (m0_1 q0 q1 q2 q3 p4)) (f1 q0 q1) (f4 q0 q1))), .val (.int (f7a (f1 q0 q1) (f4 q0 q1) (f1 q0 q1) (f4 q0 q1))), .val (.int (0 : Int32)), .unset] [(.long (f1 q0 q1)), (.ref b7)])) rfl (by rw [hml]; rfl) (argsL := [(.long (f1 q0 q1))]) (rest := [(.ref b7)]) (lenOf pd_0_3 rfl) rfl (by show 2 * 0 + _ ≤ _; exact Nat.le_of_eq rfl) (hb hby at_150) (fun _ _ => ⟨rfl, e16, (by decide : 2 + 1 ≤ _), (by decide : 4 + 1 ≤ _)⟩)
  dsimp only [Pt.U, Pt.locs, Pt.cells, Pt.slots] at X17 l17 y17 z17 st17 hQ17
  subst l17 y17 z17
  obtain ⟨b17, hQ17⟩ := hQ17
  obtain ⟨rfl, Nq17, Kq17, P17_0⟩ := hQ17
  have N17 := Fr.app N16 Nq17
  have f17_0 := f10_0.keep Kq17
  have f17_1 := f10_1.keep Kq17 nin0
  have f17_2 := f10_2.keep Kq17 nin0
  have f17_3 := P10_0.keep Kq17
  have f17_4 := P10_1.keep Kq17 nin0
  have f17_5 := P10_2.keep Kq17 nin0
  have K17 : Keep h0 T17.heap [] := K10.trans Kq17 all0
  have Z17 : n0 ≤ T17.heap.size := Nat.le_trans Z10 Kq17.1
  obtain ⟨cq18, kq18, q18a, q18b, q18c⟩ := isOf hZ rfl f17_0
  obtain ⟨_, _, ⟨T18, L18, k18, n18⟩, -, X18, ⟨Lc18, hQ18, l18, y18, z18⟩, st18⟩ := X17.virtualBack hx (y := (⟨"com/example/byteloom/byteloom/ByteRange", "equals", "(Ljava/lang/Object;)Z"⟩ : MethodName)) (z := (⟨"com/example/byteloom/byteloom/ByteRange", "equals", "(Ljava/lang/Object;)Z"⟩ : MethodName)) hown (mvT hZ (hw _ (List.mem_of_getElem? (i := 28) rfl))) (mvT hZ (hw _ (List.mem_of_getElem? (i := 29) rfl))) (notFace_of_selects (args := #[]) (mvT hZ (hw _ (List.mem_of_getElem? (i := 31) rfl)))) (mvT hZ (hw _ (List.mem_of_getElem? (i := 31) rfl))) (mvT hZ (hw _ (List.mem_of_getElem? (i := 30) rfl))) (by decide) (backOf (W := 0) (rm7l l Z aw hw [] b7 b17 T17.heap n0 Z17 P17_0) hZ (hw _ (List.mem_of_getElem? (i := 32) rfl)) (hw _ (List.mem_of_getElem? (i := 17) rfl)) (by decide) (by decide)) q18a q18c (g := (mkF m 153 #[.val (.long q0), .second, .val (.long q1), .second, .val (.long q2), .second, .val (.long q3), .second, .val (.int p4), .val (.long (m0_0 q0 q1 q2 q3 p4)), .second, .val (.long (m0_1 q0 q1 q2 q3 p4)), .second, .val (.long (f1 q0 q1)), .second, .val (.long (f4 q0 q1)), .second, .val (.long (f1 (m0_0 q0 q1 q2 q3 p4) (m0_1 q0 q1 q2 q3 p4))), .second, .val (.long (f4 (m0_0 q0 q1 q2 q3 p4) (m0_1 q0 q1 q2 q3 p4))), .second, .val (.ref b7), .val (.ref b9), .val (.int (m0_2 q0 q1 q2 q3 p4)), .val (.int (f7a (f1 q0 q1) (f4 q0 q1) (f1 (m0_0 q0 q1 q2 q3 p4) (m0_1 q0 q1 q2 q3 p4)) (f4 (m0_0 q0 q1 q2 q3 p4) (m0_1 q0 q1 q2 q3 p4)))), .val (.int (f7a (f1 (m0_0 q0 q1 q2 q3 p4) (m0_1 q0 q1 q2 q3 p4)) (f4 (m0_0 q0 q1 q2 q3 p4) (m0_1 q0 q1 q2 q3 p4)) (f1 q0 q1) (f4 q0 q1))), .val (.int (f7a (f1 q0 q1) (f4 q0 q1) (f1 q0 q1) (f4 q0 q1))), .val (.int (0 : Int32)), .unset] [(.ref b17), (.ref b7)])) rfl (by rw [hml]; rfl) (Steps.refl _) (argsL := [(.ref b17)]) (rest := []) (lenOf pd_0_2 rfl) rfl (by show 2 * 0 + _ ≤ _; exact Nat.le_of_eq rfl) (hb hby at_153) (fun _ _ => ⟨rfl, rfl, (by decide : 3 + 0 ≤ _), (by decide : 5 + 0 ≤ _)⟩)
  dsimp only [Pt.U, Pt.locs, Pt.cells, Pt.slots] at X18 l18 y18 z18 st18 hQ18
  subst l18 y18 z18
  obtain ⟨rfl, Nq18, e18⟩ := hQ18
  have N18 := Fr.app N17 Nq18
  refine own_back (b := T18.setTop (mkF m 162 #[.val (.long q0), .second, .val (.long q1), .second, .val (.long q2), .second, .val (.long q3), .second, .val (.int p4), .val (.long (m0_0 q0 q1 q2 q3 p4)), .second, .val (.long (m0_1 q0 q1 q2 q3 p4)), .second, .val (.long (f1 q0 q1)), .second, .val (.long (f4 q0 q1)), .second, .val (.long (f1 (m0_0 q0 q1 q2 q3 p4) (m0_1 q0 q1 q2 q3 p4))), .second, .val (.long (f4 (m0_0 q0 q1 q2 q3 p4) (m0_1 q0 q1 q2 q3 p4))), .second, .val (.ref b7), .val (.ref b9), .val (.int (m0_2 q0 q1 q2 q3 p4)), .val (.int (f7a (f1 q0 q1) (f4 q0 q1) (f1 (m0_0 q0 q1 q2 q3 p4) (m0_1 q0 q1 q2 q3 p4)) (f4 (m0_0 q0 q1 q2 q3 p4) (m0_1 q0 q1 q2 q3 p4)))), .val (.int (f7a (f1 (m0_0 q0 q1 q2 q3 p4) (m0_1 q0 q1 q2 q3 p4)) (f4 (m0_0 q0 q1 q2 q3 p4) (m0_1 q0 q1 q2 q3 p4)) (f1 q0 q1) (f4 q0 q1))), .val (.int (f7a (f1 q0 q1) (f4 q0 q1) (f1 q0 q1) (f4 q0 q1))), .val (.int (0 : Int32)), .val (.int (0 : Int32))] [(.int (m0_2 q0 q1 q2 q3 p4)), (.int (f7a (f1 q0 q1) (f4 q0 q1) (f1 (m0_0 q0 q1 q2 q3 p4) (m0_1 q0 q1 q2 q3 p4)) (f4 (m0_0 q0 q1 q2 q3 p4) (m0_1 q0 q1 q2 q3 p4))))])) (fun t kt => ?_) ?_
  · show Steps p.tables e below (T10.setTop (mkF m 109 #[.val (.long q0), .second, .val (.long q1), .second, .val (.long q2), .second, .val (.long q3), .second, .val (.int p4), .val (.long (m0_0 q0 q1 q2 q3 p4)), .second, .val (.long (m0_1 q0 q1 q2 q3 p4)), .second, .val (.long (f1 q0 q1)), .second, .val (.long (f4 q0 q1)), .second, .val (.long (f1 (m0_0 q0 q1 q2 q3 p4) (m0_1 q0 q1 q2 q3 p4))), .second, .val (.long (f4 (m0_0 q0 q1 q2 q3 p4) (m0_1 q0 q1 q2 q3 p4))), .second, .val (.ref b7), .val (.ref b9), .unset, .unset, .unset, .unset, .unset, .unset] [(.int (m0_2 q0 q1 q2 q3 p4))])) _
    refine XS.istore X10.here hx rfl (hb hby at_109) rfl (l' := #[.val (.long q0), .second, .val (.long q1), .second, .val (.long q2), .second, .val (.long q3), .second, .val (.int p4), .val (.long (m0_0 q0 q1 q2 q3 p4)), .second, .val (.long (m0_1 q0 q1 q2 q3 p4)), .second, .val (.long (f1 q0 q1)), .second, .val (.long (f4 q0 q1)), .second, .val (.long (f1 (m0_0 q0 q1 q2 q3 p4) (m0_1 q0 q1 q2 q3 p4))), .second, .val (.long (f4 (m0_0 q0 q1 q2 q3 p4) (m0_1 q0 q1 q2 q3 p4))), .second, .val (.ref b7), .val (.ref b9), .val (.int (m0_2 q0 q1 q2 q3 p4)), .unset, .unset, .unset, .unset, .unset]) rfl ?_
    show Steps p.tables e below (T10.setTop (mkF m 111 #[.val (.long q0), .second, .val (.long q1), .second, .val (.long q2), .second, .val (.long q3), .second, .val (.int p4), .val (.long (m0_0 q0 q1 q2 q3 p4)), .second, .val (.long (m0_1 q0 q1 q2 q3 p4)), .second, .val (.long (f1 q0 q1)), .second, .val (.long (f4 q0 q1)), .second, .val (.long (f1 (m0_0 q0 q1 q2 q3 p4) (m0_1 q0 q1 q2 q3 p4))), .second, .val (.long (f4 (m0_0 q0 q1 q2 q3 p4) (m0_1 q0 q1 q2 q3 p4))), .second, .val (.ref b7), .val (.ref b9), .val (.int (m0_2 q0 q1 q2 q3 p4)), .unset, .unset, .unset, .unset, .unset] [])) _
    refine XS.aload X10.here hx rfl (hb hby at_111) rfl rfl ?_
    show Steps p.tables e below (T10.setTop (mkF m 113 #[.val (.long q0), .second, .val (.long q1), .second, .val (.long q2), .second, .val (.long q3), .second, .val (.int p4), .val (.long (m0_0 q0 q1 q2 q3 p4)), .second, .val (.long (m0_1 q0 q1 q2 q3 p4)), .second, .val (.long (f1 q0 q1)), .second, .val (.long (f4 q0 q1)), .second, .val (.long (f1 (m0_0 q0 q1 q2 q3 p4) (m0_1 q0 q1 q2 q3 p4))), .second, .val (.long (f4 (m0_0 q0 q1 q2 q3 p4) (m0_1 q0 q1 q2 q3 p4))), .second, .val (.ref b7), .val (.ref b9), .val (.int (m0_2 q0 q1 q2 q3 p4)), .unset, .unset, .unset, .unset, .unset] [(.ref b7)])) _
    refine XS.aload X10.here hx rfl (hb hby at_113) rfl rfl ?_
    show Steps p.tables e below (T10.setTop (mkF m 115 #[.val (.long q0), .second, .val (.long q1), .second, .val (.long q2), .second, .val (.long q3), .second, .val (.int p4), .val (.long (m0_0 q0 q1 q2 q3 p4)), .second, .val (.long (m0_1 q0 q1 q2 q3 p4)), .second, .val (.long (f1 q0 q1)), .second, .val (.long (f4 q0 q1)), .second, .val (.long (f1 (m0_0 q0 q1 q2 q3 p4) (m0_1 q0 q1 q2 q3 p4))), .second, .val (.long (f4 (m0_0 q0 q1 q2 q3 p4) (m0_1 q0 q1 q2 q3 p4))), .second, .val (.ref b7), .val (.ref b9), .val (.int (m0_2 q0 q1 q2 q3 p4)), .unset, .unset, .unset, .unset, .unset] [(.ref b9), (.ref b7)])) _
    refine st13.trans ?_
    show Steps p.tables e below (T13.setTop (mkF m 118 #[.val (.long q0), .second, .val (.long q1), .second, .val (.long q2), .second, .val (.long q3), .second, .val (.int p4), .val (.long (m0_0 q0 q1 q2 q3 p4)), .second, .val (.long (m0_1 q0 q1 q2 q3 p4)), .second, .val (.long (f1 q0 q1)), .second, .val (.long (f4 q0 q1)), .second, .val (.long (f1 (m0_0 q0 q1 q2 q3 p4) (m0_1 q0 q1 q2 q3 p4))), .second, .val (.long (f4 (m0_0 q0 q1 q2 q3 p4) (m0_1 q0 q1 q2 q3 p4))), .second, .val (.ref b7), .val (.ref b9), .val (.int (m0_2 q0 q1 q2 q3 p4)), .unset, .unset, .unset, .unset, .unset] [(.int (f7a (f1 q0 q1) (f4 q0 q1) (f1 (m0_0 q0 q1 q2 q3 p4) (m0_1 q0 q1 q2 q3 p4)) (f4 (m0_0 q0 q1 q2 q3 p4) (m0_1 q0 q1 q2 q3 p4))))])) _
    refine XS.istore X13.here hx rfl (hb hby at_118) rfl (l' := #[.val (.long q0), .second, .val (.long q1), .second, .val (.long q2), .second, .val (.long q3), .second, .val (.int p4), .val (.long (m0_0 q0 q1 q2 q3 p4)), .second, .val (.long (m0_1 q0 q1 q2 q3 p4)), .second, .val (.long (f1 q0 q1)), .second, .val (.long (f4 q0 q1)), .second, .val (.long (f1 (m0_0 q0 q1 q2 q3 p4) (m0_1 q0 q1 q2 q3 p4))), .second, .val (.long (f4 (m0_0 q0 q1 q2 q3 p4) (m0_1 q0 q1 q2 q3 p4))), .second, .val (.ref b7), .val (.ref b9), .val (.int (m0_2 q0 q1 q2 q3 p4)), .val (.int (f7a (f1 q0 q1) (f4 q0 q1) (f1 (m0_0 q0 q1 q2 q3 p4) (m0_1 q0 q1 q2 q3 p4)) (f4 (m0_0 q0 q1 q2 q3 p4) (m0_1 q0 q1 q2 q3 p4)))), .unset, .unset, .unset, .unset]) rfl ?_
    show Steps p.tables e below (T13.setTop (mkF m 120 #[.val (.long q0), .second, .val (.long q1), .second, .val (.long q2), .second, .val (.long q3), .second, .val (.int p4), .val (.long (m0_0 q0 q1 q2 q3 p4)), .second, .val (.long (m0_1 q0 q1 q2 q3 p4)), .second, .val (.long (f1 q0 q1)), .second, .val (.long (f4 q0 q1)), .second, .val (.long (f1 (m0_0 q0 q1 q2 q3 p4) (m0_1 q0 q1 q2 q3 p4))), .second, .val (.long (f4 (m0_0 q0 q1 q2 q3 p4) (m0_1 q0 q1 q2 q3 p4))), .second, .val (.ref b7), .val (.ref b9), .val (.int (m0_2 q0 q1 q2 q3 p4)), .val (.int (f7a (f1 q0 q1) (f4 q0 q1) (f1 (m0_0 q0 q1 q2 q3 p4) (m0_1 q0 q1 q2 q3 p4)) (f4 (m0_0 q0 q1 q2 q3 p4) (m0_1 q0 q1 q2 q3 p4)))), .unset, .unset, .unset, .unset] [])) _
    refine XS.aload X13.here hx rfl (hb hby at_120) rfl rfl ?_
    show Steps p.tables e below (T13.setTop (mkF m 122 #[.val (.long q0), .second, .val (.long q1), .second, .val (.long q2), .second, .val (.long q3), .second, .val (.int p4), .val (.long (m0_0 q0 q1 q2 q3 p4)), .second, .val (.long (m0_1 q0 q1 q2 q3 p4)), .second, .val (.long (f1 q0 q1)), .second, .val (.long (f4 q0 q1)), .second, .val (.long (f1 (m0_0 q0 q1 q2 q3 p4) (m0_1 q0 q1 q2 q3 p4))), .second, .val (.long (f4 (m0_0 q0 q1 q2 q3 p4) (m0_1 q0 q1 q2 q3 p4))), .second, .val (.ref b7), .val (.ref b9), .val (.int (m0_2 q0 q1 q2 q3 p4)), .val (.int (f7a (f1 q0 q1) (f4 q0 q1) (f1 (m0_0 q0 q1 q2 q3 p4) (m0_1 q0 q1 q2 q3 p4)) (f4 (m0_0 q0 q1 q2 q3 p4) (m0_1 q0 q1 q2 q3 p4)))), .unset, .unset, .unset, .unset] [(.ref b9)])) _
    refine XS.aload X13.here hx rfl (hb hby at_122) rfl rfl ?_
    show Steps p.tables e below (T13.setTop (mkF m 124 #[.val (.long q0), .second, .val (.long q1), .second, .val (.long q2), .second, .val (.long q3), .second, .val (.int p4), .val (.long (m0_0 q0 q1 q2 q3 p4)), .second, .val (.long (m0_1 q0 q1 q2 q3 p4)), .second, .val (.long (f1 q0 q1)), .second, .val (.long (f4 q0 q1)), .second, .val (.long (f1 (m0_0 q0 q1 q2 q3 p4) (m0_1 q0 q1 q2 q3 p4))), .second, .val (.long (f4 (m0_0 q0 q1 q2 q3 p4) (m0_1 q0 q1 q2 q3 p4))), .second, .val (.ref b7), .val (.ref b9), .val (.int (m0_2 q0 q1 q2 q3 p4)), .val (.int (f7a (f1 q0 q1) (f4 q0 q1) (f1 (m0_0 q0 q1 q2 q3 p4) (m0_1 q0 q1 q2 q3 p4)) (f4 (m0_0 q0 q1 q2 q3 p4) (m0_1 q0 q1 q2 q3 p4)))), .unset, .unset, .unset, .unset] [(.ref b7), (.ref b9)])) _
    refine st14.trans ?_
    show Steps p.tables e below (T14.setTop (mkF m 127 #[.val (.long q0), .second, .val (.long q1), .second, .val (.long q2), .second, .val (.long q3), .second, .val (.int p4), .val (.long (m0_0 q0 q1 q2 q3 p4)), .second, .val (.long (m0_1 q0 q1 q2 q3 p4)), .second, .val (.long (f1 q0 q1)), .second, .val (.long (f4 q0 q1)), .second, .val (.long (f1 (m0_0 q0 q1 q2 q3 p4) (m0_1 q0 q1 q2 q3 p4))), .second, .val (.long (f4 (m0_0 q0 q1 q2 q3 p4) (m0_1 q0 q1 q2 q3 p4))), .second, .val (.ref b7), .val (.ref b9), .val (.int (m0_2 q0 q1 q2 q3 p4)), .val (.int (f7a (f1 q0 q1) (f4 q0 q1) (f1 (m0_0 q0 q1 q2 q3 p4) (m0_1 q0 q1 q2 q3 p4)) (f4 (m0_0 q0 q1 q2 q3 p4) (m0_1 q0 q1 q2 q3 p4)))), .unset, .unset, .unset, .unset] [(.int (f7a (f1 (m0_0 q0 q1 q2 q3 p4) (m0_1 q0 q1 q2 q3 p4)) (f4 (m0_0 q0 q1 q2 q3 p4) (m0_1 q0 q1 q2 q3 p4)) (f1 q0 q1) (f4 q0 q1)))])) _
    refine XS.istore X14.here hx rfl (hb hby at_127) rfl (l' := #[.val (.long q0), .second, .val (.long q1), .second, .val (.long q2), .second, .val (.long q3), .second, .val (.int p4), .val (.long (m0_0 q0 q1 q2 q3 p4)), .second, .val (.long (m0_1 q0 q1 q2 q3 p4)), .second, .val (.long (f1 q0 q1)), .second, .val (.long (f4 q0 q1)), .second, .val (.long (f1 (m0_0 q0 q1 q2 q3 p4) (m0_1 q0 q1 q2 q3 p4))), .second, .val (.long (f4 (m0_0 q0 q1 q2 q3 p4) (m0_1 q0 q1 q2 q3 p4))), .second, .val (.ref b7), .val (.ref b9), .val (.int (m0_2 q0 q1 q2 q3 p4)), .val (.int (f7a (f1 q0 q1) (f4 q0 q1) (f1 (m0_0 q0 q1 q2 q3 p4) (m0_1 q0 q1 q2 q3 p4)) (f4 (m0_0 q0 q1 q2 q3 p4) (m0_1 q0 q1 q2 q3 p4)))), .val (.int (f7a (f1 (m0_0 q0 q1 q2 q3 p4) (m0_1 q0 q1 q2 q3 p4)) (f4 (m0_0 q0 q1 q2 q3 p4) (m0_1 q0 q1 q2 q3 p4)) (f1 q0 q1) (f4 q0 q1))), .unset, .unset, .unset]) rfl ?_
    show Steps p.tables e below (T14.setTop (mkF m 129 #[.val (.long q0), .second, .val (.long q1), .second, .val (.long q2), .second, .val (.long q3), .second, .val (.int p4), .val (.long (m0_0 q0 q1 q2 q3 p4)), .second, .val (.long (m0_1 q0 q1 q2 q3 p4)), .second, .val (.long (f1 q0 q1)), .second, .val (.long (f4 q0 q1)), .second, .val (.long (f1 (m0_0 q0 q1 q2 q3 p4) (m0_1 q0 q1 q2 q3 p4))), .second, .val (.long (f4 (m0_0 q0 q1 q2 q3 p4) (m0_1 q0 q1 q2 q3 p4))), .second, .val (.ref b7), .val (.ref b9), .val (.int (m0_2 q0 q1 q2 q3 p4)), .val (.int (f7a (f1 q0 q1) (f4 q0 q1) (f1 (m0_0 q0 q1 q2 q3 p4) (m0_1 q0 q1 q2 q3 p4)) (f4 (m0_0 q0 q1 q2 q3 p4) (m0_1 q0 q1 q2 q3 p4)))), .val (.int (f7a (f1 (m0_0 q0 q1 q2 q3 p4) (m0_1 q0 q1 q2 q3 p4)) (f4 (m0_0 q0 q1 q2 q3 p4) (m0_1 q0 q1 q2 q3 p4)) (f1 q0 q1) (f4 q0 q1))), .unset, .unset, .unset] [])) _
    refine XS.aload X14.here hx rfl (hb hby at_129) rfl rfl ?_
    show Steps p.tables e below (T14.setTop (mkF m 131 #[.val (.long q0), .second, .val (.long q1), .second, .val (.long q2), .second, .val (.long q3), .second, .val (.int p4), .val (.long (m0_0 q0 q1 q2 q3 p4)), .second, .val (.long (m0_1 q0 q1 q2 q3 p4)), .second, .val (.long (f1 q0 q1)), .second, .val (.long (f4 q0 q1)), .second, .val (.long (f1 (m0_0 q0 q1 q2 q3 p4) (m0_1 q0 q1 q2 q3 p4))), .second, .val (.long (f4 (m0_0 q0 q1 q2 q3 p4) (m0_1 q0 q1 q2 q3 p4))), .second, .val (.ref b7), .val (.ref b9), .val (.int (m0_2 q0 q1 q2 q3 p4)), .val (.int (f7a (f1 q0 q1) (f4 q0 q1) (f1 (m0_0 q0 q1 q2 q3 p4) (m0_1 q0 q1 q2 q3 p4)) (f4 (m0_0 q0 q1 q2 q3 p4) (m0_1 q0 q1 q2 q3 p4)))), .val (.int (f7a (f1 (m0_0 q0 q1 q2 q3 p4) (m0_1 q0 q1 q2 q3 p4)) (f4 (m0_0 q0 q1 q2 q3 p4) (m0_1 q0 q1 q2 q3 p4)) (f1 q0 q1) (f4 q0 q1))), .unset, .unset, .unset] [(.ref b7)])) _
    refine XS.aload X14.here hx rfl (hb hby at_131) rfl rfl ?_
    show Steps p.tables e below (T14.setTop (mkF m 133 #[.val (.long q0), .second, .val (.long q1), .second, .val (.long q2), .second, .val (.long q3), .second, .val (.int p4), .val (.long (m0_0 q0 q1 q2 q3 p4)), .second, .val (.long (m0_1 q0 q1 q2 q3 p4)), .second, .val (.long (f1 q0 q1)), .second, .val (.long (f4 q0 q1)), .second, .val (.long (f1 (m0_0 q0 q1 q2 q3 p4) (m0_1 q0 q1 q2 q3 p4))), .second, .val (.long (f4 (m0_0 q0 q1 q2 q3 p4) (m0_1 q0 q1 q2 q3 p4))), .second, .val (.ref b7), .val (.ref b9), .val (.int (m0_2 q0 q1 q2 q3 p4)), .val (.int (f7a (f1 q0 q1) (f4 q0 q1) (f1 (m0_0 q0 q1 q2 q3 p4) (m0_1 q0 q1 q2 q3 p4)) (f4 (m0_0 q0 q1 q2 q3 p4) (m0_1 q0 q1 q2 q3 p4)))), .val (.int (f7a (f1 (m0_0 q0 q1 q2 q3 p4) (m0_1 q0 q1 q2 q3 p4)) (f4 (m0_0 q0 q1 q2 q3 p4) (m0_1 q0 q1 q2 q3 p4)) (f1 q0 q1) (f4 q0 q1))), .unset, .unset, .unset] [(.ref b7), (.ref b7)])) _
    refine st15.trans ?_
    show Steps p.tables e below (T15.setTop (mkF m 136 #[.val (.long q0), .second, .val (.long q1), .second, .val (.long q2), .second, .val (.long q3), .second, .val (.int p4), .val (.long (m0_0 q0 q1 q2 q3 p4)), .second, .val (.long (m0_1 q0 q1 q2 q3 p4)), .second, .val (.long (f1 q0 q1)), .second, .val (.long (f4 q0 q1)), .second, .val (.long (f1 (m0_0 q0 q1 q2 q3 p4) (m0_1 q0 q1 q2 q3 p4))), .second, .val (.long (f4 (m0_0 q0 q1 q2 q3 p4) (m0_1 q0 q1 q2 q3 p4))), .second, .val (.ref b7), .val (.ref b9), .val (.int (m0_2 q0 q1 q2 q3 p4)), .val (.int (f7a (f1 q0 q1) (f4 q0 q1) (f1 (m0_0 q0 q1 q2 q3 p4) (m0_1 q0 q1 q2 q3 p4)) (f4 (m0_0 q0 q1 q2 q3 p4) (m0_1 q0 q1 q2 q3 p4)))), .val (.int (f7a (f1 (m0_0 q0 q1 q2 q3 p4) (m0_1 q0 q1 q2 q3 p4)) (f4 (m0_0 q0 q1 q2 q3 p4) (m0_1 q0 q1 q2 q3 p4)) (f1 q0 q1) (f4 q0 q1))), .unset, .unset, .unset] [(.int (f7a (f1 q0 q1) (f4 q0 q1) (f1 q0 q1) (f4 q0 q1)))])) _
    refine XS.istore X15.here hx rfl (hb hby at_136) rfl (l' := #[.val (.long q0), .second, .val (.long q1), .second, .val (.long q2), .second, .val (.long q3), .second, .val (.int p4), .val (.long (m0_0 q0 q1 q2 q3 p4)), .second, .val (.long (m0_1 q0 q1 q2 q3 p4)), .second, .val (.long (f1 q0 q1)), .second, .val (.long (f4 q0 q1)), .second, .val (.long (f1 (m0_0 q0 q1 q2 q3 p4) (m0_1 q0 q1 q2 q3 p4))), .second, .val (.long (f4 (m0_0 q0 q1 q2 q3 p4) (m0_1 q0 q1 q2 q3 p4))), .second, .val (.ref b7), .val (.ref b9), .val (.int (m0_2 q0 q1 q2 q3 p4)), .val (.int (f7a (f1 q0 q1) (f4 q0 q1) (f1 (m0_0 q0 q1 q2 q3 p4) (m0_1 q0 q1 q2 q3 p4)) (f4 (m0_0 q0 q1 q2 q3 p4) (m0_1 q0 q1 q2 q3 p4)))), .val (.int (f7a (f1 (m0_0 q0 q1 q2 q3 p4) (m0_1 q0 q1 q2 q3 p4)) (f4 (m0_0 q0 q1 q2 q3 p4) (m0_1 q0 q1 q2 q3 p4)) (f1 q0 q1) (f4 q0 q1))), .val (.int (f7a (f1 q0 q1) (f4 q0 q1) (f1 q0 q1) (f4 q0 q1))), .unset, .unset]) rfl ?_
    show Steps p.tables e below (T15.setTop (mkF m 138 #[.val (.long q0), .second, .val (.long q1), .second, .val (.long q2), .second, .val (.long q3), .second, .val (.int p4), .val (.long (m0_0 q0 q1 q2 q3 p4)), .second, .val (.long (m0_1 q0 q1 q2 q3 p4)), .second, .val (.long (f1 q0 q1)), .second, .val (.long (f4 q0 q1)), .second, .val (.long (f1 (m0_0 q0 q1 q2 q3 p4) (m0_1 q0 q1 q2 q3 p4))), .second, .val (.long (f4 (m0_0 q0 q1 q2 q3 p4) (m0_1 q0 q1 q2 q3 p4))), .second, .val (.ref b7), .val (.ref b9), .val (.int (m0_2 q0 q1 q2 q3 p4)), .val (.int (f7a (f1 q0 q1) (f4 q0 q1) (f1 (m0_0 q0 q1 q2 q3 p4) (m0_1 q0 q1 q2 q3 p4)) (f4 (m0_0 q0 q1 q2 q3 p4) (m0_1 q0 q1 q2 q3 p4)))), .val (.int (f7a (f1 (m0_0 q0 q1 q2 q3 p4) (m0_1 q0 q1 q2 q3 p4)) (f4 (m0_0 q0 q1 q2 q3 p4) (m0_1 q0 q1 q2 q3 p4)) (f1 q0 q1) (f4 q0 q1))), .val (.int (f7a (f1 q0 q1) (f4 q0 q1) (f1 q0 q1) (f4 q0 q1))), .unset, .unset] [])) _
    refine XS.aload X15.here hx rfl (hb hby at_138) rfl rfl ?_
    show Steps p.tables e below (T15.setTop (mkF m 140 #[.val (.long q0), .second, .val (.long q1), .second, .val (.long q2), .second, .val (.long q3), .second, .val (.int p4), .val (.long (m0_0 q0 q1 q2 q3 p4)), .second, .val (.long (m0_1 q0 q1 q2 q3 p4)), .second, .val (.long (f1 q0 q1)), .second, .val (.long (f4 q0 q1)), .second, .val (.long (f1 (m0_0 q0 q1 q2 q3 p4) (m0_1 q0 q1 q2 q3 p4))), .second, .val (.long (f4 (m0_0 q0 q1 q2 q3 p4) (m0_1 q0 q1 q2 q3 p4))), .second, .val (.ref b7), .val (.ref b9), .val (.int (m0_2 q0 q1 q2 q3 p4)), .val (.int (f7a (f1 q0 q1) (f4 q0 q1) (f1 (m0_0 q0 q1 q2 q3 p4) (m0_1 q0 q1 q2 q3 p4)) (f4 (m0_0 q0 q1 q2 q3 p4) (m0_1 q0 q1 q2 q3 p4)))), .val (.int (f7a (f1 (m0_0 q0 q1 q2 q3 p4) (m0_1 q0 q1 q2 q3 p4)) (f4 (m0_0 q0 q1 q2 q3 p4) (m0_1 q0 q1 q2 q3 p4)) (f1 q0 q1) (f4 q0 q1))), .val (.int (f7a (f1 q0 q1) (f4 q0 q1) (f1 q0 q1) (f4 q0 q1))), .unset, .unset] [(.ref b7)])) _
    refine XS.aconstNull X15.here hx rfl (hb hby at_140) ?_
    show Steps p.tables e below (T15.setTop (mkF m 141 #[.val (.long q0), .second, .val (.long q1), .second, .val (.long q2), .second, .val (.long q3), .second, .val (.int p4), .val (.long (m0_0 q0 q1 q2 q3 p4)), .second, .val (.long (m0_1 q0 q1 q2 q3 p4)), .second, .val (.long (f1 q0 q1)), .second, .val (.long (f4 q0 q1)), .second, .val (.long (f1 (m0_0 q0 q1 q2 q3 p4) (m0_1 q0 q1 q2 q3 p4))), .second, .val (.long (f4 (m0_0 q0 q1 q2 q3 p4) (m0_1 q0 q1 q2 q3 p4))), .second, .val (.ref b7), .val (.ref b9), .val (.int (m0_2 q0 q1 q2 q3 p4)), .val (.int (f7a (f1 q0 q1) (f4 q0 q1) (f1 (m0_0 q0 q1 q2 q3 p4) (m0_1 q0 q1 q2 q3 p4)) (f4 (m0_0 q0 q1 q2 q3 p4) (m0_1 q0 q1 q2 q3 p4)))), .val (.int (f7a (f1 (m0_0 q0 q1 q2 q3 p4) (m0_1 q0 q1 q2 q3 p4)) (f4 (m0_0 q0 q1 q2 q3 p4) (m0_1 q0 q1 q2 q3 p4)) (f1 q0 q1) (f4 q0 q1))), .val (.int (f7a (f1 q0 q1) (f4 q0 q1) (f1 q0 q1) (f4 q0 q1))), .unset, .unset] [.null, (.ref b7)])) _
    refine st16.trans ?_
    show Steps p.tables e below (T16.setTop (mkF m 144 #[.val (.long q0), .second, .val (.long q1), .second, .val (.long q2), .second, .val (.long q3), .second, .val (.int p4), .val (.long (m0_0 q0 q1 q2 q3 p4)), .second, .val (.long (m0_1 q0 q1 q2 q3 p4)), .second, .val (.long (f1 q0 q1)), .second, .val (.long (f4 q0 q1)), .second, .val (.long (f1 (m0_0 q0 q1 q2 q3 p4) (m0_1 q0 q1 q2 q3 p4))), .second, .val (.long (f4 (m0_0 q0 q1 q2 q3 p4) (m0_1 q0 q1 q2 q3 p4))), .second, .val (.ref b7), .val (.ref b9), .val (.int (m0_2 q0 q1 q2 q3 p4)), .val (.int (f7a (f1 q0 q1) (f4 q0 q1) (f1 (m0_0 q0 q1 q2 q3 p4) (m0_1 q0 q1 q2 q3 p4)) (f4 (m0_0 q0 q1 q2 q3 p4) (m0_1 q0 q1 q2 q3 p4)))), .val (.int (f7a (f1 (m0_0 q0 q1 q2 q3 p4) (m0_1 q0 q1 q2 q3 p4)) (f4 (m0_0 q0 q1 q2 q3 p4) (m0_1 q0 q1 q2 q3 p4)) (f1 q0 q1) (f4 q0 q1))), .val (.int (f7a (f1 q0 q1) (f4 q0 q1) (f1 q0 q1) (f4 q0 q1))), .unset, .unset] [(.int (0 : Int32))])) _
    refine XS.istore X16.here hx rfl (hb hby at_144) rfl (l' := #[.val (.long q0), .second, .val (.long q1), .second, .val (.long q2), .second, .val (.long q3), .second, .val (.int p4), .val (.long (m0_0 q0 q1 q2 q3 p4)), .second, .val (.long (m0_1 q0 q1 q2 q3 p4)), .second, .val (.long (f1 q0 q1)), .second, .val (.long (f4 q0 q1)), .second, .val (.long (f1 (m0_0 q0 q1 q2 q3 p4) (m0_1 q0 q1 q2 q3 p4))), .second, .val (.long (f4 (m0_0 q0 q1 q2 q3 p4) (m0_1 q0 q1 q2 q3 p4))), .second, .val (.ref b7), .val (.ref b9), .val (.int (m0_2 q0 q1 q2 q3 p4)), .val (.int (f7a (f1 q0 q1) (f4 q0 q1) (f1 (m0_0 q0 q1 q2 q3 p4) (m0_1 q0 q1 q2 q3 p4)) (f4 (m0_0 q0 q1 q2 q3 p4) (m0_1 q0 q1 q2 q3 p4)))), .val (.int (f7a (f1 (m0_0 q0 q1 q2 q3 p4) (m0_1 q0 q1 q2 q3 p4)) (f4 (m0_0 q0 q1 q2 q3 p4) (m0_1 q0 q1 q2 q3 p4)) (f1 q0 q1) (f4 q0 q1))), .val (.int (f7a (f1 q0 q1) (f4 q0 q1) (f1 q0 q1) (f4 q0 q1))), .val (.int (0 : Int32)), .unset]) rfl ?_
    show Steps p.tables e below (T16.setTop (mkF m 146 #[.val (.long q0), .second, .val (.long q1), .second, .val (.long q2), .second, .val (.long q3), .second, .val (.int p4), .val (.long (m0_0 q0 q1 q2 q3 p4)), .second, .val (.long (m0_1 q0 q1 q2 q3 p4)), .second, .val (.long (f1 q0 q1)), .second, .val (.long (f4 q0 q1)), .second, .val (.long (f1 (m0_0 q0 q1 q2 q3 p4) (m0_1 q0 q1 q2 q3 p4))), .second, .val (.long (f4 (m0_0 q0 q1 q2 q3 p4) (m0_1 q0 q1 q2 q3 p4))), .second, .val (.ref b7), .val (.ref b9), .val (.int (m0_2 q0 q1 q2 q3 p4)), .val (.int (f7a (f1 q0 q1) (f4 q0 q1) (f1 (m0_0 q0 q1 q2 q3 p4) (m0_1 q0 q1 q2 q3 p4)) (f4 (m0_0 q0 q1 q2 q3 p4) (m0_1 q0 q1 q2 q3 p4)))), .val (.int (f7a (f1 (m0_0 q0 q1 q2 q3 p4) (m0_1 q0 q1 q2 q3 p4)) (f4 (m0_0 q0 q1 q2 q3 p4) (m0_1 q0 q1 q2 q3 p4)) (f1 q0 q1) (f4 q0 q1))), .val (.int (f7a (f1 q0 q1) (f4 q0 q1) (f1 q0 q1) (f4 q0 q1))), .val (.int (0 : Int32)), .unset] [])) _
    refine XS.aload X16.here hx rfl (hb hby at_146) rfl rfl ?_
    show Steps p.tables e below (T16.setTop (mkF m 148 #[.val (.long q0), .second, .val (.long q1), .second, .val (.long q2), .second, .val (.long q3), .second, .val (.int p4), .val (.long (m0_0 q0 q1 q2 q3 p4)), .second, .val (.long (m0_1 q0 q1 q2 q3 p4)), .second, .val (.long (f1 q0 q1)), .second, .val (.long (f4 q0 q1)), .second, .val (.long (f1 (m0_0 q0 q1 q2 q3 p4) (m0_1 q0 q1 q2 q3 p4))), .second, .val (.long (f4 (m0_0 q0 q1 q2 q3 p4) (m0_1 q0 q1 q2 q3 p4))), .second, .val (.ref b7), .val (.ref b9), .val (.int (m0_2 q0 q1 q2 q3 p4)), .val (.int (f7a (f1 q0 q1) (f4 q0 q1) (f1 (m0_0 q0 q1 q2 q3 p4) (m0_1 q0 q1 q2 q3 p4)) (f4 (m0_0 q0 q1 q2 q3 p4) (m0_1 q0 q1 q2 q3 p4)))), .val (.int (f7a (f1 (m0_0 q0 q1 q2 q3 p4) (m0_1 q0 q1 q2 q3 p4)) (f4 (m0_0 q0 q1 q2 q3 p4) (m0_1 q0 q1 q2 q3 p4)) (f1 q0 q1) (f4 q0 q1))), .val (.int (f7a (f1 q0 q1) (f4 q0 q1) (f1 q0 q1) (f4 q0 q1))), .val (.int (0 : Int32)), .unset] [(.ref b7)])) _
    refine XS.lload X16.here hx rfl (hb hby at_148) rfl ?_
    show Steps p.tables e below (T16.setTop (mkF m 150 #[.val (.long q0), .second, .val (.long q1), .second, .val (.long q2), .second, .val (.long q3), .second, .val (.int p4), .val (.long (m0_0 q0 q1 q2 q3 p4)), .second, .val (.long (m0_1 q0 q1 q2 q3 p4)), .second, .val (.long (f1 q0 q1)), .second, .val (.long (f4 q0 q1)), .second, .val (.long (f1 (m0_0 q0 q1 q2 q3 p4) (m0_1 q0 q1 q2 q3 p4))), .second, .val (.long (f4 (m0_0 q0 q1 q2 q3 p4) (m0_1 q0 q1 q2 q3 p4))), .second, .val (.ref b7), .val (.ref b9), .val (.int (m0_2 q0 q1 q2 q3 p4)), .val (.int (f7a (f1 q0 q1) (f4 q0 q1) (f1 (m0_0 q0 q1 q2 q3 p4) (m0_1 q0 q1 q2 q3 p4)) (f4 (m0_0 q0 q1 q2 q3 p4) (m0_1 q0 q1 q2 q3 p4)))), .val (.int (f7a (f1 (m0_0 q0 q1 q2 q3 p4) (m0_1 q0 q1 q2 q3 p4)) (f4 (m0_0 q0 q1 q2 q3 p4) (m0_1 q0 q1 q2 q3 p4)) (f1 q0 q1) (f4 q0 q1))), .val (.int (f7a (f1 q0 q1) (f4 q0 q1) (f1 q0 q1) (f4 q0 q1))), .val (.int (0 : Int32)), .unset] [(.long (f1 q0 q1)), (.ref b7)])) _
    refine st17 _ ?_
    show Steps p.tables e below (T17.setTop (mkF m 153 #[.val (.long q0), .second, .val (.long q1), .second, .val (.long q2), .second, .val (.long q3), .second, .val (.int p4), .val (.long (m0_0 q0 q1 q2 q3 p4)), .second, .val (.long (m0_1 q0 q1 q2 q3 p4)), .second, .val (.long (f1 q0 q1)), .second, .val (.long (f4 q0 q1)), .second, .val (.long (f1 (m0_0 q0 q1 q2 q3 p4) (m0_1 q0 q1 q2 q3 p4))), .second, .val (.long (f4 (m0_0 q0 q1 q2 q3 p4) (m0_1 q0 q1 q2 q3 p4))), .second, .val (.ref b7), .val (.ref b9), .val (.int (m0_2 q0 q1 q2 q3 p4)), .val (.int (f7a (f1 q0 q1) (f4 q0 q1) (f1 (m0_0 q0 q1 q2 q3 p4) (m0_1 q0 q1 q2 q3 p4)) (f4 (m0_0 q0 q1 q2 q3 p4) (m0_1 q0 q1 q2 q3 p4)))), .val (.int (f7a (f1 (m0_0 q0 q1 q2 q3 p4) (m0_1 q0 q1 q2 q3 p4)) (f4 (m0_0 q0 q1 q2 q3 p4) (m0_1 q0 q1 q2 q3 p4)) (f1 q0 q1) (f4 q0 q1))), .val (.int (f7a (f1 q0 q1) (f4 q0 q1) (f1 q0 q1) (f4 q0 q1))), .val (.int (0 : Int32)), .unset] [(.ref b17), (.ref b7)])) _
    refine st18.trans ?_
    show Steps p.tables e below (T18.setTop (mkF m 156 #[.val (.long q0), .second, .val (.long q1), .second, .val (.long q2), .second, .val (.long q3), .second, .val (.int p4), .val (.long (m0_0 q0 q1 q2 q3 p4)), .second, .val (.long (m0_1 q0 q1 q2 q3 p4)), .second, .val (.long (f1 q0 q1)), .second, .val (.long (f4 q0 q1)), .second, .val (.long (f1 (m0_0 q0 q1 q2 q3 p4) (m0_1 q0 q1 q2 q3 p4))), .second, .val (.long (f4 (m0_0 q0 q1 q2 q3 p4) (m0_1 q0 q1 q2 q3 p4))), .second, .val (.ref b7), .val (.ref b9), .val (.int (m0_2 q0 q1 q2 q3 p4)), .val (.int (f7a (f1 q0 q1) (f4 q0 q1) (f1 (m0_0 q0 q1 q2 q3 p4) (m0_1 q0 q1 q2 q3 p4)) (f4 (m0_0 q0 q1 q2 q3 p4) (m0_1 q0 q1 q2 q3 p4)))), .val (.int (f7a (f1 (m0_0 q0 q1 q2 q3 p4) (m0_1 q0 q1 q2 q3 p4)) (f4 (m0_0 q0 q1 q2 q3 p4) (m0_1 q0 q1 q2 q3 p4)) (f1 q0 q1) (f4 q0 q1))), .val (.int (f7a (f1 q0 q1) (f4 q0 q1) (f1 q0 q1) (f4 q0 q1))), .val (.int (0 : Int32)), .unset] [(.int (0 : Int32))])) _
    refine XS.istore X18.here hx rfl (hb hby at_156) rfl (l' := #[.val (.long q0), .second, .val (.long q1), .second, .val (.long q2), .second, .val (.long q3), .second, .val (.int p4), .val (.long (m0_0 q0 q1 q2 q3 p4)), .second, .val (.long (m0_1 q0 q1 q2 q3 p4)), .second, .val (.long (f1 q0 q1)), .second, .val (.long (f4 q0 q1)), .second, .val (.long (f1 (m0_0 q0 q1 q2 q3 p4) (m0_1 q0 q1 q2 q3 p4))), .second, .val (.long (f4 (m0_0 q0 q1 q2 q3 p4) (m0_1 q0 q1 q2 q3 p4))), .second, .val (.ref b7), .val (.ref b9), .val (.int (m0_2 q0 q1 q2 q3 p4)), .val (.int (f7a (f1 q0 q1) (f4 q0 q1) (f1 (m0_0 q0 q1 q2 q3 p4) (m0_1 q0 q1 q2 q3 p4)) (f4 (m0_0 q0 q1 q2 q3 p4) (m0_1 q0 q1 q2 q3 p4)))), .val (.int (f7a (f1 (m0_0 q0 q1 q2 q3 p4) (m0_1 q0 q1 q2 q3 p4)) (f4 (m0_0 q0 q1 q2 q3 p4) (m0_1 q0 q1 q2 q3 p4)) (f1 q0 q1) (f4 q0 q1))), .val (.int (f7a (f1 q0 q1) (f4 q0 q1) (f1 q0 q1) (f4 q0 q1))), .val (.int (0 : Int32)), .val (.int (0 : Int32))]) rfl ?_
    show Steps p.tables e below (T18.setTop (mkF m 158 #[.val (.long q0), .second, .val (.long q1), .second, .val (.long q2), .second, .val (.long q3), .second, .val (.int p4), .val (.long (m0_0 q0 q1 q2 q3 p4)), .second, .val (.long (m0_1 q0 q1 q2 q3 p4)), .second, .val (.long (f1 q0 q1)), .second, .val (.long (f4 q0 q1)), .second, .val (.long (f1 (m0_0 q0 q1 q2 q3 p4) (m0_1 q0 q1 q2 q3 p4))), .second, .val (.long (f4 (m0_0 q0 q1 q2 q3 p4) (m0_1 q0 q1 q2 q3 p4))), .second, .val (.ref b7), .val (.ref b9), .val (.int (m0_2 q0 q1 q2 q3 p4)), .val (.int (f7a (f1 q0 q1) (f4 q0 q1) (f1 (m0_0 q0 q1 q2 q3 p4) (m0_1 q0 q1 q2 q3 p4)) (f4 (m0_0 q0 q1 q2 q3 p4) (m0_1 q0 q1 q2 q3 p4)))), .val (.int (f7a (f1 (m0_0 q0 q1 q2 q3 p4) (m0_1 q0 q1 q2 q3 p4)) (f4 (m0_0 q0 q1 q2 q3 p4) (m0_1 q0 q1 q2 q3 p4)) (f1 q0 q1) (f4 q0 q1))), .val (.int (f7a (f1 q0 q1) (f4 q0 q1) (f1 q0 q1) (f4 q0 q1))), .val (.int (0 : Int32)), .val (.int (0 : Int32))] [])) _
    refine XS.iload X18.here hx rfl (hb hby at_158) rfl ?_
    show Steps p.tables e below (T18.setTop (mkF m 160 #[.val (.long q0), .second, .val (.long q1), .second, .val (.long q2), .second, .val (.long q3), .second, .val (.int p4), .val (.long (m0_0 q0 q1 q2 q3 p4)), .second, .val (.long (m0_1 q0 q1 q2 q3 p4)), .second, .val (.long (f1 q0 q1)), .second, .val (.long (f4 q0 q1)), .second, .val (.long (f1 (m0_0 q0 q1 q2 q3 p4) (m0_1 q0 q1 q2 q3 p4))), .second, .val (.long (f4 (m0_0 q0 q1 q2 q3 p4) (m0_1 q0 q1 q2 q3 p4))), .second, .val (.ref b7), .val (.ref b9), .val (.int (m0_2 q0 q1 q2 q3 p4)), .val (.int (f7a (f1 q0 q1) (f4 q0 q1) (f1 (m0_0 q0 q1 q2 q3 p4) (m0_1 q0 q1 q2 q3 p4)) (f4 (m0_0 q0 q1 q2 q3 p4) (m0_1 q0 q1 q2 q3 p4)))), .val (.int (f7a (f1 (m0_0 q0 q1 q2 q3 p4) (m0_1 q0 q1 q2 q3 p4)) (f4 (m0_0 q0 q1 q2 q3 p4) (m0_1 q0 q1 q2 q3 p4)) (f1 q0 q1) (f4 q0 q1))), .val (.int (f7a (f1 q0 q1) (f4 q0 q1) (f1 q0 q1) (f4 q0 q1))), .val (.int (0 : Int32)), .val (.int (0 : Int32))] [(.int (f7a (f1 q0 q1) (f4 q0 q1) (f1 (m0_0 q0 q1 q2 q3 p4) (m0_1 q0 q1 q2 q3 p4)) (f4 (m0_0 q0 q1 q2 q3 p4) (m0_1 q0 q1 q2 q3 p4))))])) _
    refine XS.iload X18.here hx rfl (hb hby at_160) rfl ?_
    exact kt
  by_cases hc162_19 : (f7a (f1 q0 q1) (f4 q0 q1) (f1 (m0_0 q0 q1 q2 q3 p4) (m0_1 q0 q1 q2 q3 p4)) (f4 (m0_0 q0 q1 q2 q3 p4) (m0_1 q0 q1 q2 q3 p4))) = (m0_2 q0 q1 q2 q3 p4)
  · refine own_back (b := T18.setTop (mkF m 169 #[.val (.long q0), .second, .val (.long q1), .second, .val (.long q2), .second, .val (.long q3), .second, .val (.int p4), .val (.long (m0_0 q0 q1 q2 q3 p4)), .second, .val (.long (m0_1 q0 q1 q2 q3 p4)), .second, .val (.long (f1 q0 q1)), .second, .val (.long (f4 q0 q1)), .second, .val (.long (f1 (m0_0 q0 q1 q2 q3 p4) (m0_1 q0 q1 q2 q3 p4))), .second, .val (.long (f4 (m0_0 q0 q1 q2 q3 p4) (m0_1 q0 q1 q2 q3 p4))), .second, .val (.ref b7), .val (.ref b9), .val (.int (m0_2 q0 q1 q2 q3 p4)), .val (.int (f7a (f1 q0 q1) (f4 q0 q1) (f1 (m0_0 q0 q1 q2 q3 p4) (m0_1 q0 q1 q2 q3 p4)) (f4 (m0_0 q0 q1 q2 q3 p4) (m0_1 q0 q1 q2 q3 p4)))), .val (.int (f7a (f1 (m0_0 q0 q1 q2 q3 p4) (m0_1 q0 q1 q2 q3 p4)) (f4 (m0_0 q0 q1 q2 q3 p4) (m0_1 q0 q1 q2 q3 p4)) (f1 q0 q1) (f4 q0 q1))), .val (.int (f7a (f1 q0 q1) (f4 q0 q1) (f1 q0 q1) (f4 q0 q1))), .val (.int (0 : Int32)), .val (.int (0 : Int32))] [(.int (m0_2 q0 q1 q2 q3 p4)), (.int (f7a (f1 (m0_0 q0 q1 q2 q3 p4) (m0_1 q0 q1 q2 q3 p4)) (f4 (m0_0 q0 q1 q2 q3 p4) (m0_1 q0 q1 q2 q3 p4)) (f1 q0 q1) (f4 q0 q1)))])) (fun t kt => ?_) ?_
    · show Steps p.tables e below (T18.setTop (mkF m 162 #[.val (.long q0), .second, .val (.long q1), .second, .val (.long q2), .second, .val (.long q3), .second, .val (.int p4), .val (.long (m0_0 q0 q1 q2 q3 p4)), .second, .val (.long (m0_1 q0 q1 q2 q3 p4)), .second, .val (.long (f1 q0 q1)), .second, .val (.long (f4 q0 q1)), .second, .val (.long (f1 (m0_0 q0 q1 q2 q3 p4) (m0_1 q0 q1 q2 q3 p4))), .second, .val (.long (f4 (m0_0 q0 q1 q2 q3 p4) (m0_1 q0 q1 q2 q3 p4))), .second, .val (.ref b7), .val (.ref b9), .val (.int (m0_2 q0 q1 q2 q3 p4)), .val (.int (f7a (f1 q0 q1) (f4 q0 q1) (f1 (m0_0 q0 q1 q2 q3 p4) (m0_1 q0 q1 q2 q3 p4)) (f4 (m0_0 q0 q1 q2 q3 p4) (m0_1 q0 q1 q2 q3 p4)))), .val (.int (f7a (f1 (m0_0 q0 q1 q2 q3 p4) (m0_1 q0 q1 q2 q3 p4)) (f4 (m0_0 q0 q1 q2 q3 p4) (m0_1 q0 q1 q2 q3 p4)) (f1 q0 q1) (f4 q0 q1))), .val (.int (f7a (f1 q0 q1) (f4 q0 q1) (f1 q0 q1) (f4 q0 q1))), .val (.int (0 : Int32)), .val (.int (0 : Int32))] [(.int (m0_2 q0 q1 q2 q3 p4)), (.int (f7a (f1 q0 q1) (f4 q0 q1) (f1 (m0_0 q0 q1 q2 q3 p4) (m0_1 q0 q1 q2 q3 p4)) (f4 (m0_0 q0 q1 q2 q3 p4) (m0_1 q0 q1 q2 q3 p4))))])) _
      refine XS.icmpNo X18.here hx rfl (hb hby at_162) rfl (teq hc162_19).2 ?_
      show Steps p.tables e below (T18.setTop (mkF m 165 #[.val (.long q0), .second, .val (.long q1), .second, .val (.long q2), .second, .val (.long q3), .second, .val (.int p4), .val (.long (m0_0 q0 q1 q2 q3 p4)), .second, .val (.long (m0_1 q0 q1 q2 q3 p4)), .second, .val (.long (f1 q0 q1)), .second, .val (.long (f4 q0 q1)), .second, .val (.long (f1 (m0_0 q0 q1 q2 q3 p4) (m0_1 q0 q1 q2 q3 p4))), .second, .val (.long (f4 (m0_0 q0 q1 q2 q3 p4) (m0_1 q0 q1 q2 q3 p4))), .second, .val (.ref b7), .val (.ref b9), .val (.int (m0_2 q0 q1 q2 q3 p4)), .val (.int (f7a (f1 q0 q1) (f4 q0 q1) (f1 (m0_0 q0 q1 q2 q3 p4) (m0_1 q0 q1 q2 q3 p4)) (f4 (m0_0 q0 q1 q2 q3 p4) (m0_1 q0 q1 q2 q3 p4)))), .val (.int (f7a (f1 (m0_0 q0 q1 q2 q3 p4) (m0_1 q0 q1 q2 q3 p4)) (f4 (m0_0 q0 q1 q2 q3 p4) (m0_1 q0 q1 q2 q3 p4)) (f1 q0 q1) (f4 q0 q1))), .val (.int (f7a (f1 q0 q1) (f4 q0 q1) (f1 q0 q1) (f4 q0 q1))), .val (.int (0 : Int32)), .val (.int (0 : Int32))] [])) _
      refine XS.iload X18.here hx rfl (hb hby at_165) rfl ?_
      show Steps p.tables e below (T18.setTop (mkF m 167 #[.val (.long q0), .second, .val (.long q1), .second, .val (.long q2), .second, .val (.long q3), .second, .val (.int p4), .val (.long (m0_0 q0 q1 q2 q3 p4)), .second, .val (.long (m0_1 q0 q1 q2 q3 p4)), .second, .val (.long (f1 q0 q1)), .second, .val (.long (f4 q0 q1)), .second, .val (.long (f1 (m0_0 q0 q1 q2 q3 p4) (m0_1 q0 q1 q2 q3 p4))), .second, .val (.long (f4 (m0_0 q0 q1 q2 q3 p4) (m0_1 q0 q1 q2 q3 p4))), .second, .val (.ref b7), .val (.ref b9), .val (.int (m0_2 q0 q1 q2 q3 p4)), .val (.int (f7a (f1 q0 q1) (f4 q0 q1) (f1 (m0_0 q0 q1 q2 q3 p4) (m0_1 q0 q1 q2 q3 p4)) (f4 (m0_0 q0 q1 q2 q3 p4) (m0_1 q0 q1 q2 q3 p4)))), .val (.int (f7a (f1 (m0_0 q0 q1 q2 q3 p4) (m0_1 q0 q1 q2 q3 p4)) (f4 (m0_0 q0 q1 q2 q3 p4) (m0_1 q0 q1 q2 q3 p4)) (f1 q0 q1) (f4 q0 q1))), .val (.int (f7a (f1 q0 q1) (f4 q0 q1) (f1 q0 q1) (f4 q0 q1))), .val (.int (0 : Int32)), .val (.int (0 : Int32))] [(.int (f7a (f1 (m0_0 q0 q1 q2 q3 p4) (m0_1 q0 q1 q2 q3 p4)) (f4 (m0_0 q0 q1 q2 q3 p4) (m0_1 q0 q1 q2 q3 p4)) (f1 q0 q1) (f4 q0 q1)))])) _
      refine XS.iload X18.here hx rfl (hb hby at_167) rfl ?_
      exact kt
    by_cases hc169_20 : (f7a (f1 (m0_0 q0 q1 q2 q3 p4) (m0_1 q0 q1 q2 q3 p4)) (f4 (m0_0 q0 q1 q2 q3 p4) (m0_1 q0 q1 q2 q3 p4)) (f1 q0 q1) (f4 q0 q1)) = (m0_2 q0 q1 q2 q3 p4)
    · refine own_back (b := T18.setTop (mkF m 174 #[.val (.long q0), .second, .val (.long q1), .second, .val (.long q2), .second, .val (.long q3), .second, .val (.int p4), .val (.long (m0_0 q0 q1 q2 q3 p4)), .second, .val (.long (m0_1 q0 q1 q2 q3 p4)), .second, .val (.long (f1 q0 q1)), .second, .val (.long (f4 q0 q1)), .second, .val (.long (f1 (m0_0 q0 q1 q2 q3 p4) (m0_1 q0 q1 q2 q3 p4))), .second, .val (.long (f4 (m0_0 q0 q1 q2 q3 p4) (m0_1 q0 q1 q2 q3 p4))), .second, .val (.ref b7), .val (.ref b9), .val (.int (m0_2 q0 q1 q2 q3 p4)), .val (.int (f7a (f1 q0 q1) (f4 q0 q1) (f1 (m0_0 q0 q1 q2 q3 p4) (m0_1 q0 q1 q2 q3 p4)) (f4 (m0_0 q0 q1 q2 q3 p4) (m0_1 q0 q1 q2 q3 p4)))), .val (.int (f7a (f1 (m0_0 q0 q1 q2 q3 p4) (m0_1 q0 q1 q2 q3 p4)) (f4 (m0_0 q0 q1 q2 q3 p4) (m0_1 q0 q1 q2 q3 p4)) (f1 q0 q1) (f4 q0 q1))), .val (.int (f7a (f1 q0 q1) (f4 q0 q1) (f1 q0 q1) (f4 q0 q1))), .val (.int (0 : Int32)), .val (.int (0 : Int32))] [(.int (f7a (f1 q0 q1) (f4 q0 q1) (f1 q0 q1) (f4 q0 q1)))])) (fun t kt => ?_) ?_
      · show Steps p.tables e below (T18.setTop (mkF m 169 #[.val (.long q0), .second, .val (.long q1), .second, .val (.long q2), .second, .val (.long q3), .second, .val (.int p4), .val (.long (m0_0 q0 q1 q2 q3 p4)), .second, .val (.long (m0_1 q0 q1 q2 q3 p4)), .second, .val (.long (f1 q0 q1)), .second, .val (.long (f4 q0 q1)), .second, .val (.long (f1 (m0_0 q0 q1 q2 q3 p4) (m0_1 q0 q1 q2 q3 p4))), .second, .val (.long (f4 (m0_0 q0 q1 q2 q3 p4) (m0_1 q0 q1 q2 q3 p4))), .second, .val (.ref b7), .val (.ref b9), .val (.int (m0_2 q0 q1 q2 q3 p4)), .val (.int (f7a (f1 q0 q1) (f4 q0 q1) (f1 (m0_0 q0 q1 q2 q3 p4) (m0_1 q0 q1 q2 q3 p4)) (f4 (m0_0 q0 q1 q2 q3 p4) (m0_1 q0 q1 q2 q3 p4)))), .val (.int (f7a (f1 (m0_0 q0 q1 q2 q3 p4) (m0_1 q0 q1 q2 q3 p4)) (f4 (m0_0 q0 q1 q2 q3 p4) (m0_1 q0 q1 q2 q3 p4)) (f1 q0 q1) (f4 q0 q1))), .val (.int (f7a (f1 q0 q1) (f4 q0 q1) (f1 q0 q1) (f4 q0 q1))), .val (.int (0 : Int32)), .val (.int (0 : Int32))] [(.int (m0_2 q0 q1 q2 q3 p4)), (.int (f7a (f1 (m0_0 q0 q1 q2 q3 p4) (m0_1 q0 q1 q2 q3 p4)) (f4 (m0_0 q0 q1 q2 q3 p4) (m0_1 q0 q1 q2 q3 p4)) (f1 q0 q1) (f4 q0 q1)))])) _
        refine XS.icmpNo X18.here hx rfl (hb hby at_169) rfl (teq hc169_20).2 ?_
        show Steps p.tables e below (T18.setTop (mkF m 172 #[.val (.long q0), .second, .val (.long q1), .second, .val (.long q2), .second, .val (.long q3), .second, .val (.int p4), .val (.long (m0_0 q0 q1 q2 q3 p4)), .second, .val (.long (m0_1 q0 q1 q2 q3 p4)), .second, .val (.long (f1 q0 q1)), .second, .val (.long (f4 q0 q1)), .second, .val (.long (f1 (m0_0 q0 q1 q2 q3 p4) (m0_1 q0 q1 q2 q3 p4))), .second, .val (.long (f4 (m0_0 q0 q1 q2 q3 p4) (m0_1 q0 q1 q2 q3 p4))), .second, .val (.ref b7), .val (.ref b9), .val (.int (m0_2 q0 q1 q2 q3 p4)), .val (.int (f7a (f1 q0 q1) (f4 q0 q1) (f1 (m0_0 q0 q1 q2 q3 p4) (m0_1 q0 q1 q2 q3 p4)) (f4 (m0_0 q0 q1 q2 q3 p4) (m0_1 q0 q1 q2 q3 p4)))), .val (.int (f7a (f1 (m0_0 q0 q1 q2 q3 p4) (m0_1 q0 q1 q2 q3 p4)) (f4 (m0_0 q0 q1 q2 q3 p4) (m0_1 q0 q1 q2 q3 p4)) (f1 q0 q1) (f4 q0 q1))), .val (.int (f7a (f1 q0 q1) (f4 q0 q1) (f1 q0 q1) (f4 q0 q1))), .val (.int (0 : Int32)), .val (.int (0 : Int32))] [])) _
        refine XS.iload X18.here hx rfl (hb hby at_172) rfl ?_
        exact kt
      by_cases hc174_21 : (f7a (f1 q0 q1) (f4 q0 q1) (f1 q0 q1) (f4 q0 q1)) = (0 : Int32)
      · refine own_back (b := T18.setTop (mkF m 192 #[.val (.long q0), .second, .val (.long q1), .second, .val (.long q2), .second, .val (.long q3), .second, .val (.int p4), .val (.long (m0_0 q0 q1 q2 q3 p4)), .second, .val (.long (m0_1 q0 q1 q2 q3 p4)), .second, .val (.long (f1 q0 q1)), .second, .val (.long (f4 q0 q1)), .second, .val (.long (f1 (m0_0 q0 q1 q2 q3 p4) (m0_1 q0 q1 q2 q3 p4))), .second, .val (.long (f4 (m0_0 q0 q1 q2 q3 p4) (m0_1 q0 q1 q2 q3 p4))), .second, .val (.ref b7), .val (.ref b9), .val (.int (m0_2 q0 q1 q2 q3 p4)), .val (.int (f7a (f1 q0 q1) (f4 q0 q1) (f1 (m0_0 q0 q1 q2 q3 p4) (m0_1 q0 q1 q2 q3 p4)) (f4 (m0_0 q0 q1 q2 q3 p4) (m0_1 q0 q1 q2 q3 p4)))), .val (.int (f7a (f1 (m0_0 q0 q1 q2 q3 p4) (m0_1 q0 q1 q2 q3 p4)) (f4 (m0_0 q0 q1 q2 q3 p4) (m0_1 q0 q1 q2 q3 p4)) (f1 q0 q1) (f4 q0 q1))), .val (.int (f7a (f1 q0 q1) (f4 q0 q1) (f1 q0 q1) (f4 q0 q1))), .val (.int (0 : Int32)), .val (.int (0 : Int32))] [(.int (0 : Int32))])) (fun t kt => ?_) ?_
        · show Steps p.tables e below (T18.setTop (mkF m 174 #[.val (.long q0), .second, .val (.long q1), .second, .val (.long q2), .second, .val (.long q3), .second, .val (.int p4), .val (.long (m0_0 q0 q1 q2 q3 p4)), .second, .val (.long (m0_1 q0 q1 q2 q3 p4)), .second, .val (.long (f1 q0 q1)), .second, .val (.long (f4 q0 q1)), .second, .val (.long (f1 (m0_0 q0 q1 q2 q3 p4) (m0_1 q0 q1 q2 q3 p4))), .second, .val (.long (f4 (m0_0 q0 q1 q2 q3 p4) (m0_1 q0 q1 q2 q3 p4))), .second, .val (.ref b7), .val (.ref b9), .val (.int (m0_2 q0 q1 q2 q3 p4)), .val (.int (f7a (f1 q0 q1) (f4 q0 q1) (f1 (m0_0 q0 q1 q2 q3 p4) (m0_1 q0 q1 q2 q3 p4)) (f4 (m0_0 q0 q1 q2 q3 p4) (m0_1 q0 q1 q2 q3 p4)))), .val (.int (f7a (f1 (m0_0 q0 q1 q2 q3 p4) (m0_1 q0 q1 q2 q3 p4)) (f4 (m0_0 q0 q1 q2 q3 p4) (m0_1 q0 q1 q2 q3 p4)) (f1 q0 q1) (f4 q0 q1))), .val (.int (f7a (f1 q0 q1) (f4 q0 q1) (f1 q0 q1) (f4 q0 q1))), .val (.int (0 : Int32)), .val (.int (0 : Int32))] [(.int (f7a (f1 q0 q1) (f4 q0 q1) (f1 q0 q1) (f4 q0 q1)))])) _
          refine XS.ifYes X18.here hx rfl (pc0 := 174) (pc' := 191) rfl (hb hby at_174) rfl ((if0 _ _).trans (teq hc174_21).1) (by decide) (by decide) ?_
          show Steps p.tables e below (T18.setTop (mkF m 191 #[.val (.long q0), .second, .val (.long q1), .second, .val (.long q2), .second, .val (.long q3), .second, .val (.int p4), .val (.long (m0_0 q0 q1 q2 q3 p4)), .second, .val (.long (m0_1 q0 q1 q2 q3 p4)), .second, .val (.long (f1 q0 q1)), .second, .val (.long (f4 q0 q1)), .second, .val (.long (f1 (m0_0 q0 q1 q2 q3 p4) (m0_1 q0 q1 q2 q3 p4))), .second, .val (.long (f4 (m0_0 q0 q1 q2 q3 p4) (m0_1 q0 q1 q2 q3 p4))), .second, .val (.ref b7), .val (.ref b9), .val (.int (m0_2 q0 q1 q2 q3 p4)), .val (.int (f7a (f1 q0 q1) (f4 q0 q1) (f1 (m0_0 q0 q1 q2 q3 p4) (m0_1 q0 q1 q2 q3 p4)) (f4 (m0_0 q0 q1 q2 q3 p4) (m0_1 q0 q1 q2 q3 p4)))), .val (.int (f7a (f1 (m0_0 q0 q1 q2 q3 p4) (m0_1 q0 q1 q2 q3 p4)) (f4 (m0_0 q0 q1 q2 q3 p4) (m0_1 q0 q1 q2 q3 p4)) (f1 q0 q1) (f4 q0 q1))), .val (.int (f7a (f1 q0 q1) (f4 q0 q1) (f1 q0 q1) (f4 q0 q1))), .val (.int (0 : Int32)), .val (.int (0 : Int32))] [])) _
          refine XS.iconst X18.here hx rfl (hb hby at_191) ?_
          exact kt
        obtain ⟨fs, hr, hrun, hended, hW, hsame⟩ := X18.leave (v := some (.int (0 : Int32))) (fun h => by rw [Bd.returns] at h; cases h) (BodyLoose.notSynchronized Bd)
        refine ⟨_, _, ?_, hrun, hended, _, _, rfl, ?_, ⟨_, rfl⟩, hW, hsame.mono (by decide) (by decide)⟩
        · show Steps p.tables e below (T18.setTop (mkF m 192 #[.val (.long q0), .second, .val (.long q1), .second, .val (.long q2), .second, .val (.long q3), .second, .val (.int p4), .val (.long (m0_0 q0 q1 q2 q3 p4)), .second, .val (.long (m0_1 q0 q1 q2 q3 p4)), .second, .val (.long (f1 q0 q1)), .second, .val (.long (f4 q0 q1)), .second, .val (.long (f1 (m0_0 q0 q1 q2 q3 p4) (m0_1 q0 q1 q2 q3 p4))), .second, .val (.long (f4 (m0_0 q0 q1 q2 q3 p4) (m0_1 q0 q1 q2 q3 p4))), .second, .val (.ref b7), .val (.ref b9), .val (.int (m0_2 q0 q1 q2 q3 p4)), .val (.int (f7a (f1 q0 q1) (f4 q0 q1) (f1 (m0_0 q0 q1 q2 q3 p4) (m0_1 q0 q1 q2 q3 p4)) (f4 (m0_0 q0 q1 q2 q3 p4) (m0_1 q0 q1 q2 q3 p4)))), .val (.int (f7a (f1 (m0_0 q0 q1 q2 q3 p4) (m0_1 q0 q1 q2 q3 p4)) (f4 (m0_0 q0 q1 q2 q3 p4) (m0_1 q0 q1 q2 q3 p4)) (f1 q0 q1) (f4 q0 q1))), .val (.int (f7a (f1 q0 q1) (f4 q0 q1) (f1 q0 q1) (f4 q0 q1))), .val (.int (0 : Int32)), .val (.int (0 : Int32))] [(.int (0 : Int32))])) _
          exact retN X18 hx (t := .boolean) Bd.returns (by simp) (hb hby at_192) hr
        · show Q0 Z q0 q1 q2 q3 p4 wc h0 n0 _ T18.heap _
          rw [e18]
          exact ⟨by rw [show f0 q0 q1 q2 q3 p4 = (0 : Int32) from by unfold f0; rw [if_pos hc162_19, if_pos hc169_20, if_pos hc174_21]], N18⟩
      · refine own_back (b := T18.setTop (mkF m 192 #[.val (.long q0), .second, .val (.long q1), .second, .val (.long q2), .second, .val (.long q3), .second, .val (.int p4), .val (.long (m0_0 q0 q1 q2 q3 p4)), .second, .val (.long (m0_1 q0 q1 q2 q3 p4)), .second, .val (.long (f1 q0 q1)), .second, .val (.long (f4 q0 q1)), .second, .val (.long (f1 (m0_0 q0 q1 q2 q3 p4) (m0_1 q0 q1 q2 q3 p4))), .second, .val (.long (f4 (m0_0 q0 q1 q2 q3 p4) (m0_1 q0 q1 q2 q3 p4))), .second, .val (.ref b7), .val (.ref b9), .val (.int (m0_2 q0 q1 q2 q3 p4)), .val (.int (f7a (f1 q0 q1) (f4 q0 q1) (f1 (m0_0 q0 q1 q2 q3 p4) (m0_1 q0 q1 q2 q3 p4)) (f4 (m0_0 q0 q1 q2 q3 p4) (m0_1 q0 q1 q2 q3 p4)))), .val (.int (f7a (f1 (m0_0 q0 q1 q2 q3 p4) (m0_1 q0 q1 q2 q3 p4)) (f4 (m0_0 q0 q1 q2 q3 p4) (m0_1 q0 q1 q2 q3 p4)) (f1 q0 q1) (f4 q0 q1))), .val (.int (f7a (f1 q0 q1) (f4 q0 q1) (f1 q0 q1) (f4 q0 q1))), .val (.int (0 : Int32)), .val (.int (0 : Int32))] [(.int (1 : Int32))])) (fun t kt => ?_) ?_
        · show Steps p.tables e below (T18.setTop (mkF m 174 #[.val (.long q0), .second, .val (.long q1), .second, .val (.long q2), .second, .val (.long q3), .second, .val (.int p4), .val (.long (m0_0 q0 q1 q2 q3 p4)), .second, .val (.long (m0_1 q0 q1 q2 q3 p4)), .second, .val (.long (f1 q0 q1)), .second, .val (.long (f4 q0 q1)), .second, .val (.long (f1 (m0_0 q0 q1 q2 q3 p4) (m0_1 q0 q1 q2 q3 p4))), .second, .val (.long (f4 (m0_0 q0 q1 q2 q3 p4) (m0_1 q0 q1 q2 q3 p4))), .second, .val (.ref b7), .val (.ref b9), .val (.int (m0_2 q0 q1 q2 q3 p4)), .val (.int (f7a (f1 q0 q1) (f4 q0 q1) (f1 (m0_0 q0 q1 q2 q3 p4) (m0_1 q0 q1 q2 q3 p4)) (f4 (m0_0 q0 q1 q2 q3 p4) (m0_1 q0 q1 q2 q3 p4)))), .val (.int (f7a (f1 (m0_0 q0 q1 q2 q3 p4) (m0_1 q0 q1 q2 q3 p4)) (f4 (m0_0 q0 q1 q2 q3 p4) (m0_1 q0 q1 q2 q3 p4)) (f1 q0 q1) (f4 q0 q1))), .val (.int (f7a (f1 q0 q1) (f4 q0 q1) (f1 q0 q1) (f4 q0 q1))), .val (.int (0 : Int32)), .val (.int (0 : Int32))] [(.int (f7a (f1 q0 q1) (f4 q0 q1) (f1 q0 q1) (f4 q0 q1)))])) _
          refine XS.ifNo X18.here hx rfl (hb hby at_174) rfl ((if0 _ _).trans (feq hc174_21).1) ?_
          show Steps p.tables e below (T18.setTop (mkF m 177 #[.val (.long q0), .second, .val (.long q1), .second, .val (.long q2), .second, .val (.long q3), .second, .val (.int p4), .val (.long (m0_0 q0 q1 q2 q3 p4)), .second, .val (.long (m0_1 q0 q1 q2 q3 p4)), .second, .val (.long (f1 q0 q1)), .second, .val (.long (f4 q0 q1)), .second, .val (.long (f1 (m0_0 q0 q1 q2 q3 p4) (m0_1 q0 q1 q2 q3 p4))), .second, .val (.long (f4 (m0_0 q0 q1 q2 q3 p4) (m0_1 q0 q1 q2 q3 p4))), .second, .val (.ref b7), .val (.ref b9), .val (.int (m0_2 q0 q1 q2 q3 p4)), .val (.int (f7a (f1 q0 q1) (f4 q0 q1) (f1 (m0_0 q0 q1 q2 q3 p4) (m0_1 q0 q1 q2 q3 p4)) (f4 (m0_0 q0 q1 q2 q3 p4) (m0_1 q0 q1 q2 q3 p4)))), .val (.int (f7a (f1 (m0_0 q0 q1 q2 q3 p4) (m0_1 q0 q1 q2 q3 p4)) (f4 (m0_0 q0 q1 q2 q3 p4) (m0_1 q0 q1 q2 q3 p4)) (f1 q0 q1) (f4 q0 q1))), .val (.int (f7a (f1 q0 q1) (f4 q0 q1) (f1 q0 q1) (f4 q0 q1))), .val (.int (0 : Int32)), .val (.int (0 : Int32))] [])) _
          refine XS.iload X18.here hx rfl (hb hby at_177) rfl ?_
          show Steps p.tables e below (T18.setTop (mkF m 179 #[.val (.long q0), .second, .val (.long q1), .second, .val (.long q2), .second, .val (.long q3), .second, .val (.int p4), .val (.long (m0_0 q0 q1 q2 q3 p4)), .second, .val (.long (m0_1 q0 q1 q2 q3 p4)), .second, .val (.long (f1 q0 q1)), .second, .val (.long (f4 q0 q1)), .second, .val (.long (f1 (m0_0 q0 q1 q2 q3 p4) (m0_1 q0 q1 q2 q3 p4))), .second, .val (.long (f4 (m0_0 q0 q1 q2 q3 p4) (m0_1 q0 q1 q2 q3 p4))), .second, .val (.ref b7), .val (.ref b9), .val (.int (m0_2 q0 q1 q2 q3 p4)), .val (.int (f7a (f1 q0 q1) (f4 q0 q1) (f1 (m0_0 q0 q1 q2 q3 p4) (m0_1 q0 q1 q2 q3 p4)) (f4 (m0_0 q0 q1 q2 q3 p4) (m0_1 q0 q1 q2 q3 p4)))), .val (.int (f7a (f1 (m0_0 q0 q1 q2 q3 p4) (m0_1 q0 q1 q2 q3 p4)) (f4 (m0_0 q0 q1 q2 q3 p4) (m0_1 q0 q1 q2 q3 p4)) (f1 q0 q1) (f4 q0 q1))), .val (.int (f7a (f1 q0 q1) (f4 q0 q1) (f1 q0 q1) (f4 q0 q1))), .val (.int (0 : Int32)), .val (.int (0 : Int32))] [(.int (0 : Int32))])) _
          refine XS.ifNo X18.here hx rfl (hb hby at_179) rfl ((if0 _ _).trans (teq (by decide : (0 : Int32) = (0 : Int32))).2) ?_
          show Steps p.tables e below (T18.setTop (mkF m 182 #[.val (.long q0), .second, .val (.long q1), .second, .val (.long q2), .second, .val (.long q3), .second, .val (.int p4), .val (.long (m0_0 q0 q1 q2 q3 p4)), .second, .val (.long (m0_1 q0 q1 q2 q3 p4)), .second, .val (.long (f1 q0 q1)), .second, .val (.long (f4 q0 q1)), .second, .val (.long (f1 (m0_0 q0 q1 q2 q3 p4) (m0_1 q0 q1 q2 q3 p4))), .second, .val (.long (f4 (m0_0 q0 q1 q2 q3 p4) (m0_1 q0 q1 q2 q3 p4))), .second, .val (.ref b7), .val (.ref b9), .val (.int (m0_2 q0 q1 q2 q3 p4)), .val (.int (f7a (f1 q0 q1) (f4 q0 q1) (f1 (m0_0 q0 q1 q2 q3 p4) (m0_1 q0 q1 q2 q3 p4)) (f4 (m0_0 q0 q1 q2 q3 p4) (m0_1 q0 q1 q2 q3 p4)))), .val (.int (f7a (f1 (m0_0 q0 q1 q2 q3 p4) (m0_1 q0 q1 q2 q3 p4)) (f4 (m0_0 q0 q1 q2 q3 p4) (m0_1 q0 q1 q2 q3 p4)) (f1 q0 q1) (f4 q0 q1))), .val (.int (f7a (f1 q0 q1) (f4 q0 q1) (f1 q0 q1) (f4 q0 q1))), .val (.int (0 : Int32)), .val (.int (0 : Int32))] [])) _
          refine XS.iload X18.here hx rfl (hb hby at_182) rfl ?_
          show Steps p.tables e below (T18.setTop (mkF m 184 #[.val (.long q0), .second, .val (.long q1), .second, .val (.long q2), .second, .val (.long q3), .second, .val (.int p4), .val (.long (m0_0 q0 q1 q2 q3 p4)), .second, .val (.long (m0_1 q0 q1 q2 q3 p4)), .second, .val (.long (f1 q0 q1)), .second, .val (.long (f4 q0 q1)), .second, .val (.long (f1 (m0_0 q0 q1 q2 q3 p4) (m0_1 q0 q1 q2 q3 p4))), .second, .val (.long (f4 (m0_0 q0 q1 q2 q3 p4) (m0_1 q0 q1 q2 q3 p4))), .second, .val (.ref b7), .val (.ref b9), .val (.int (m0_2 q0 q1 q2 q3 p4)), .val (.int (f7a (f1 q0 q1) (f4 q0 q1) (f1 (m0_0 q0 q1 q2 q3 p4) (m0_1 q0 q1 q2 q3 p4)) (f4 (m0_0 q0 q1 q2 q3 p4) (m0_1 q0 q1 q2 q3 p4)))), .val (.int (f7a (f1 (m0_0 q0 q1 q2 q3 p4) (m0_1 q0 q1 q2 q3 p4)) (f4 (m0_0 q0 q1 q2 q3 p4) (m0_1 q0 q1 q2 q3 p4)) (f1 q0 q1) (f4 q0 q1))), .val (.int (f7a (f1 q0 q1) (f4 q0 q1) (f1 q0 q1) (f4 q0 q1))), .val (.int (0 : Int32)), .val (.int (0 : Int32))] [(.int (0 : Int32))])) _
          refine XS.ifNo X18.here hx rfl (hb hby at_184) rfl ((if0 _ _).trans (teq (by decide : (0 : Int32) = (0 : Int32))).2) ?_
          show Steps p.tables e below (T18.setTop (mkF m 187 #[.val (.long q0), .second, .val (.long q1), .second, .val (.long q2), .second, .val (.long q3), .second, .val (.int p4), .val (.long (m0_0 q0 q1 q2 q3 p4)), .second, .val (.long (m0_1 q0 q1 q2 q3 p4)), .second, .val (.long (f1 q0 q1)), .second, .val (.long (f4 q0 q1)), .second, .val (.long (f1 (m0_0 q0 q1 q2 q3 p4) (m0_1 q0 q1 q2 q3 p4))), .second, .val (.long (f4 (m0_0 q0 q1 q2 q3 p4) (m0_1 q0 q1 q2 q3 p4))), .second, .val (.ref b7), .val (.ref b9), .val (.int (m0_2 q0 q1 q2 q3 p4)), .val (.int (f7a (f1 q0 q1) (f4 q0 q1) (f1 (m0_0 q0 q1 q2 q3 p4) (m0_1 q0 q1 q2 q3 p4)) (f4 (m0_0 q0 q1 q2 q3 p4) (m0_1 q0 q1 q2 q3 p4)))), .val (.int (f7a (f1 (m0_0 q0 q1 q2 q3 p4) (m0_1 q0 q1 q2 q3 p4)) (f4 (m0_0 q0 q1 q2 q3 p4) (m0_1 q0 q1 q2 q3 p4)) (f1 q0 q1) (f4 q0 q1))), .val (.int (f7a (f1 q0 q1) (f4 q0 q1) (f1 q0 q1) (f4 q0 q1))), .val (.int (0 : Int32)), .val (.int (0 : Int32))] [])) _
          refine XS.iconst X18.here hx rfl (hb hby at_187) ?_
          show Steps p.tables e below (T18.setTop (mkF m 188 #[.val (.long q0), .second, .val (.long q1), .second, .val (.long q2), .second, .val (.long q3), .second, .val (.int p4), .val (.long (m0_0 q0 q1 q2 q3 p4)), .second, .val (.long (m0_1 q0 q1 q2 q3 p4)), .second, .val (.long (f1 q0 q1)), .second, .val (.long (f4 q0 q1)), .second, .val (.long (f1 (m0_0 q0 q1 q2 q3 p4) (m0_1 q0 q1 q2 q3 p4))), .second, .val (.long (f4 (m0_0 q0 q1 q2 q3 p4) (m0_1 q0 q1 q2 q3 p4))), .second, .val (.ref b7), .val (.ref b9), .val (.int (m0_2 q0 q1 q2 q3 p4)), .val (.int (f7a (f1 q0 q1) (f4 q0 q1) (f1 (m0_0 q0 q1 q2 q3 p4) (m0_1 q0 q1 q2 q3 p4)) (f4 (m0_0 q0 q1 q2 q3 p4) (m0_1 q0 q1 q2 q3 p4)))), .val (.int (f7a (f1 (m0_0 q0 q1 q2 q3 p4) (m0_1 q0 q1 q2 q3 p4)) (f4 (m0_0 q0 q1 q2 q3 p4) (m0_1 q0 q1 q2 q3 p4)) (f1 q0 q1) (f4 q0 q1))), .val (.int (f7a (f1 q0 q1) (f4 q0 q1) (f1 q0 q1) (f4 q0 q1))), .val (.int (0 : Int32)), .val (.int (0 : Int32))] [(.int (1 : Int32))])) _
          refine XS.goto X18.here hx rfl (pc0 := 188) (pc' := 192) rfl (hb hby at_188) (by decide) (by decide) ?_
          exact kt
        obtain ⟨fs, hr, hrun, hended, hW, hsame⟩ := X18.leave (v := some (.int (1 : Int32))) (fun h => by rw [Bd.returns] at h; cases h) (BodyLoose.notSynchronized Bd)
        refine ⟨_, _, ?_, hrun, hended, _, _, rfl, ?_, ⟨_, rfl⟩, hW, hsame.mono (by decide) (by decide)⟩
        · show Steps p.tables e below (T18.setTop (mkF m 192 #[.val (.long q0), .second, .val (.long q1), .second, .val (.long q2), .second, .val (.long q3), .second, .val (.int p4), .val (.long (m0_0 q0 q1 q2 q3 p4)), .second, .val (.long (m0_1 q0 q1 q2 q3 p4)), .second, .val (.long (f1 q0 q1)), .second, .val (.long (f4 q0 q1)), .second, .val (.long (f1 (m0_0 q0 q1 q2 q3 p4) (m0_1 q0 q1 q2 q3 p4))), .second, .val (.long (f4 (m0_0 q0 q1 q2 q3 p4) (m0_1 q0 q1 q2 q3 p4))), .second, .val (.ref b7), .val (.ref b9), .val (.int (m0_2 q0 q1 q2 q3 p4)), .val (.int (f7a (f1 q0 q1) (f4 q0 q1) (f1 (m0_0 q0 q1 q2 q3 p4) (m0_1 q0 q1 q2 q3 p4)) (f4 (m0_0 q0 q1 q2 q3 p4) (m0_1 q0 q1 q2 q3 p4)))), .val (.int (f7a (f1 (m0_0 q0 q1 q2 q3 p4) (m0_1 q0 q1 q2 q3 p4)) (f4 (m0_0 q0 q1 q2 q3 p4) (m0_1 q0 q1 q2 q3 p4)) (f1 q0 q1) (f4 q0 q1))), .val (.int (f7a (f1 q0 q1) (f4 q0 q1) (f1 q0 q1) (f4 q0 q1))), .val (.int (0 : Int32)), .val (.int (0 : Int32))] [(.int (1 : Int32))])) _
          exact retN X18 hx (t := .boolean) Bd.returns (by simp) (hb hby at_192) hr
        · show Q0 Z q0 q1 q2 q3 p4 wc h0 n0 _ T18.heap _
          rw [e18]
          exact ⟨by rw [show f0 q0 q1 q2 q3 p4 = (1 : Int32) from by unfold f0; rw [if_pos hc162_19, if_pos hc169_20, if_neg hc174_21]], N18⟩
    · refine own_back (b := T18.setTop (mkF m 192 #[.val (.long q0), .second, .val (.long q1), .second, .val (.long q2), .second, .val (.long q3), .second, .val (.int p4), .val (.long (m0_0 q0 q1 q2 q3 p4)), .second, .val (.long (m0_1 q0 q1 q2 q3 p4)), .second, .val (.long (f1 q0 q1)), .second, .val (.long (f4 q0 q1)), .second, .val (.long (f1 (m0_0 q0 q1 q2 q3 p4) (m0_1 q0 q1 q2 q3 p4))), .second, .val (.long (f4 (m0_0 q0 q1 q2 q3 p4) (m0_1 q0 q1 q2 q3 p4))), .second, .val (.ref b7), .val (.ref b9), .val (.int (m0_2 q0 q1 q2 q3 p4)), .val (.int (f7a (f1 q0 q1) (f4 q0 q1) (f1 (m0_0 q0 q1 q2 q3 p4) (m0_1 q0 q1 q2 q3 p4)) (f4 (m0_0 q0 q1 q2 q3 p4) (m0_1 q0 q1 q2 q3 p4)))), .val (.int (f7a (f1 (m0_0 q0 q1 q2 q3 p4) (m0_1 q0 q1 q2 q3 p4)) (f4 (m0_0 q0 q1 q2 q3 p4) (m0_1 q0 q1 q2 q3 p4)) (f1 q0 q1) (f4 q0 q1))), .val (.int (f7a (f1 q0 q1) (f4 q0 q1) (f1 q0 q1) (f4 q0 q1))), .val (.int (0 : Int32)), .val (.int (0 : Int32))] [(.int (0 : Int32))])) (fun t kt => ?_) ?_
      · show Steps p.tables e below (T18.setTop (mkF m 169 #[.val (.long q0), .second, .val (.long q1), .second, .val (.long q2), .second, .val (.long q3), .second, .val (.int p4), .val (.long (m0_0 q0 q1 q2 q3 p4)), .second, .val (.long (m0_1 q0 q1 q2 q3 p4)), .second, .val (.long (f1 q0 q1)), .second, .val (.long (f4 q0 q1)), .second, .val (.long (f1 (m0_0 q0 q1 q2 q3 p4) (m0_1 q0 q1 q2 q3 p4))), .second, .val (.long (f4 (m0_0 q0 q1 q2 q3 p4) (m0_1 q0 q1 q2 q3 p4))), .second, .val (.ref b7), .val (.ref b9), .val (.int (m0_2 q0 q1 q2 q3 p4)), .val (.int (f7a (f1 q0 q1) (f4 q0 q1) (f1 (m0_0 q0 q1 q2 q3 p4) (m0_1 q0 q1 q2 q3 p4)) (f4 (m0_0 q0 q1 q2 q3 p4) (m0_1 q0 q1 q2 q3 p4)))), .val (.int (f7a (f1 (m0_0 q0 q1 q2 q3 p4) (m0_1 q0 q1 q2 q3 p4)) (f4 (m0_0 q0 q1 q2 q3 p4) (m0_1 q0 q1 q2 q3 p4)) (f1 q0 q1) (f4 q0 q1))), .val (.int (f7a (f1 q0 q1) (f4 q0 q1) (f1 q0 q1) (f4 q0 q1))), .val (.int (0 : Int32)), .val (.int (0 : Int32))] [(.int (m0_2 q0 q1 q2 q3 p4)), (.int (f7a (f1 (m0_0 q0 q1 q2 q3 p4) (m0_1 q0 q1 q2 q3 p4)) (f4 (m0_0 q0 q1 q2 q3 p4) (m0_1 q0 q1 q2 q3 p4)) (f1 q0 q1) (f4 q0 q1)))])) _
        refine XS.icmpYes X18.here hx rfl (pc0 := 169) (pc' := 191) rfl (hb hby at_169) rfl (feq hc169_20).2 (by decide) (by decide) ?_
        show Steps p.tables e below (T18.setTop (mkF m 191 #[.val (.long q0), .second, .val (.long q1), .second, .val (.long q2), .second, .val (.long q3), .second, .val (.int p4), .val (.long (m0_0 q0 q1 q2 q3 p4)), .second, .val (.long (m0_1 q0 q1 q2 q3 p4)), .second, .val (.long (f1 q0 q1)), .second, .val (.long (f4 q0 q1)), .second, .val (.long (f1 (m0_0 q0 q1 q2 q3 p4) (m0_1 q0 q1 q2 q3 p4))), .second, .val (.long (f4 (m0_0 q0 q1 q2 q3 p4) (m0_1 q0 q1 q2 q3 p4))), .second, .val (.ref b7), .val (.ref b9), .val (.int (m0_2 q0 q1 q2 q3 p4)), .val (.int (f7a (f1 q0 q1) (f4 q0 q1) (f1 (m0_0 q0 q1 q2 q3 p4) (m0_1 q0 q1 q2 q3 p4)) (f4 (m0_0 q0 q1 q2 q3 p4) (m0_1 q0 q1 q2 q3 p4)))), .val (.int (f7a (f1 (m0_0 q0 q1 q2 q3 p4) (m0_1 q0 q1 q2 q3 p4)) (f4 (m0_0 q0 q1 q2 q3 p4) (m0_1 q0 q1 q2 q3 p4)) (f1 q0 q1) (f4 q0 q1))), .val (.int (f7a (f1 q0 q1) (f4 q0 q1) (f1 q0 q1) (f4 q0 q1))), .val (.int (0 : Int32)), .val (.int (0 : Int32))] [])) _
        refine XS.iconst X18.here hx rfl (hb hby at_191) ?_
        exact kt
      obtain ⟨fs, hr, hrun, hended, hW, hsame⟩ := X18.leave (v := some (.int (0 : Int32))) (fun h => by rw [Bd.returns] at h; cases h) (BodyLoose.notSynchronized Bd)
      refine ⟨_, _, ?_, hrun, hended, _, _, rfl, ?_, ⟨_, rfl⟩, hW, hsame.mono (by decide) (by decide)⟩
      · show Steps p.tables e below (T18.setTop (mkF m 192 #[.val (.long q0), .second, .val (.long q1), .second, .val (.long q2), .second, .val (.long q3), .second, .val (.int p4), .val (.long (m0_0 q0 q1 q2 q3 p4)), .second, .val (.long (m0_1 q0 q1 q2 q3 p4)), .second, .val (.long (f1 q0 q1)), .second, .val (.long (f4 q0 q1)), .second, .val (.long (f1 (m0_0 q0 q1 q2 q3 p4) (m0_1 q0 q1 q2 q3 p4))), .second, .val (.long (f4 (m0_0 q0 q1 q2 q3 p4) (m0_1 q0 q1 q2 q3 p4))), .second, .val (.ref b7), .val (.ref b9), .val (.int (m0_2 q0 q1 q2 q3 p4)), .val (.int (f7a (f1 q0 q1) (f4 q0 q1) (f1 (m0_0 q0 q1 q2 q3 p4) (m0_1 q0 q1 q2 q3 p4)) (f4 (m0_0 q0 q1 q2 q3 p4) (m0_1 q0 q1 q2 q3 p4)))), .val (.int (f7a (f1 (m0_0 q0 q1 q2 q3 p4) (m0_1 q0 q1 q2 q3 p4)) (f4 (m0_0 q0 q1 q2 q3 p4) (m0_1 q0 q1 q2 q3 p4)) (f1 q0 q1) (f4 q0 q1))), .val (.int (f7a (f1 q0 q1) (f4 q0 q1) (f1 q0 q1) (f4 q0 q1))), .val (.int (0 : Int32)), .val (.int (0 : Int32))] [(.int (0 : Int32))])) _
        exact retN X18 hx (t := .boolean) Bd.returns (by simp) (hb hby at_192) hr
      · show Q0 Z q0 q1 q2 q3 p4 wc h0 n0 _ T18.heap _
        rw [e18]
        exact ⟨by rw [show f0 q0 q1 q2 q3 p4 = (0 : Int32) from by unfold f0; rw [if_pos hc162_19, if_neg hc169_20]], N18⟩
  · refine own_back (b := T18.setTop (mkF m 192 #[.val (.long q0), .second, .val (.long q1), .second, .val (.long q2), .second, .val (.long q3), .second, .val (.int p4), .val (.long (m0_0 q0 q1 q2 q3 p4)), .second, .val (.long (m0_1 q0 q1 q2 q3 p4)), .second, .val (.long (f1 q0 q1)), .second, .val (.long (f4 q0 q1)), .second, .val (.long (f1 (m0_0 q0 q1 q2 q3 p4) (m0_1 q0 q1 q2 q3 p4))), .second, .val (.long (f4 (m0_0 q0 q1 q2 q3 p4) (m0_1 q0 q1 q2 q3 p4))), .second, .val (.ref b7), .val (.ref b9), .val (.int (m0_2 q0 q1 q2 q3 p4)), .val (.int (f7a (f1 q0 q1) (f4 q0 q1) (f1 (m0_0 q0 q1 q2 q3 p4) (m0_1 q0 q1 q2 q3 p4)) (f4 (m0_0 q0 q1 q2 q3 p4) (m0_1 q0 q1 q2 q3 p4)))), .val (.int (f7a (f1 (m0_0 q0 q1 q2 q3 p4) (m0_1 q0 q1 q2 q3 p4)) (f4 (m0_0 q0 q1 q2 q3 p4) (m0_1 q0 q1 q2 q3 p4)) (f1 q0 q1) (f4 q0 q1))), .val (.int (f7a (f1 q0 q1) (f4 q0 q1) (f1 q0 q1) (f4 q0 q1))), .val (.int (0 : Int32)), .val (.int (0 : Int32))] [(.int (0 : Int32))])) (fun t kt => ?_) ?_
    · show Steps p.tables e below (T18.setTop (mkF m 162 #[.val (.long q0), .second, .val (.long q1), .second, .val (.long q2), .second, .val (.long q3), .second, .val (.int p4), .val (.long (m0_0 q0 q1 q2 q3 p4)), .second, .val (.long (m0_1 q0 q1 q2 q3 p4)), .second, .val (.long (f1 q0 q1)), .second, .val (.long (f4 q0 q1)), .second, .val (.long (f1 (m0_0 q0 q1 q2 q3 p4) (m0_1 q0 q1 q2 q3 p4))), .second, .val (.long (f4 (m0_0 q0 q1 q2 q3 p4) (m0_1 q0 q1 q2 q3 p4))), .second, .val (.ref b7), .val (.ref b9), .val (.int (m0_2 q0 q1 q2 q3 p4)), .val (.int (f7a (f1 q0 q1) (f4 q0 q1) (f1 (m0_0 q0 q1 q2 q3 p4) (m0_1 q0 q1 q2 q3 p4)) (f4 (m0_0 q0 q1 q2 q3 p4) (m0_1 q0 q1 q2 q3 p4)))), .val (.int (f7a (f1 (m0_0 q0 q1 q2 q3 p4) (m0_1 q0 q1 q2 q3 p4)) (f4 (m0_0 q0 q1 q2 q3 p4) (m0_1 q0 q1 q2 q3 p4)) (f1 q0 q1) (f4 q0 q1))), .val (.int (f7a (f1 q0 q1) (f4 q0 q1) (f1 q0 q1) (f4 q0 q1))), .val (.int (0 : Int32)), .val (.int (0 : Int32))] [(.int (m0_2 q0 q1 q2 q3 p4)), (.int (f7a (f1 q0 q1) (f4 q0 q1) (f1 (m0_0 q0 q1 q2 q3 p4) (m0_1 q0 q1 q2 q3 p4)) (f4 (m0_0 q0 q1 q2 q3 p4) (m0_1 q0 q1 q2 q3 p4))))])) _
      refine XS.icmpYes X18.here hx rfl (pc0 := 162) (pc' := 191) rfl (hb hby at_162) rfl (feq hc162_19).2 (by decide) (by decide) ?_
      show Steps p.tables e below (T18.setTop (mkF m 191 #[.val (.long q0), .second, .val (.long q1), .second, .val (.long q2), .second, .val (.long q3), .second, .val (.int p4), .val (.long (m0_0 q0 q1 q2 q3 p4)), .second, .val (.long (m0_1 q0 q1 q2 q3 p4)), .second, .val (.long (f1 q0 q1)), .second, .val (.long (f4 q0 q1)), .second, .val (.long (f1 (m0_0 q0 q1 q2 q3 p4) (m0_1 q0 q1 q2 q3 p4))), .second, .val (.long (f4 (m0_0 q0 q1 q2 q3 p4) (m0_1 q0 q1 q2 q3 p4))), .second, .val (.ref b7), .val (.ref b9), .val (.int (m0_2 q0 q1 q2 q3 p4)), .val (.int (f7a (f1 q0 q1) (f4 q0 q1) (f1 (m0_0 q0 q1 q2 q3 p4) (m0_1 q0 q1 q2 q3 p4)) (f4 (m0_0 q0 q1 q2 q3 p4) (m0_1 q0 q1 q2 q3 p4)))), .val (.int (f7a (f1 (m0_0 q0 q1 q2 q3 p4) (m0_1 q0 q1 q2 q3 p4)) (f4 (m0_0 q0 q1 q2 q3 p4) (m0_1 q0 q1 q2 q3 p4)) (f1 q0 q1) (f4 q0 q1))), .val (.int (f7a (f1 q0 q1) (f4 q0 q1) (f1 q0 q1) (f4 q0 q1))), .val (.int (0 : Int32)), .val (.int (0 : Int32))] [])) _
      refine XS.iconst X18.here hx rfl (hb hby at_191) ?_
      exact kt
    obtain ⟨fs, hr, hrun, hended, hW, hsame⟩ := X18.leave (v := some (.int (0 : Int32))) (fun h => by rw [Bd.returns] at h; cases h) (BodyLoose.notSynchronized Bd)
    refine ⟨_, _, ?_, hrun, hended, _, _, rfl, ?_, ⟨_, rfl⟩, hW, hsame.mono (by decide) (by decide)⟩
    · show Steps p.tables e below (T18.setTop (mkF m 192 #[.val (.long q0), .second, .val (.long q1), .second, .val (.long q2), .second, .val (.long q3), .second, .val (.int p4), .val (.long (m0_0 q0 q1 q2 q3 p4)), .second, .val (.long (m0_1 q0 q1 q2 q3 p4)), .second, .val (.long (f1 q0 q1)), .second, .val (.long (f4 q0 q1)), .second, .val (.long (f1 (m0_0 q0 q1 q2 q3 p4) (m0_1 q0 q1 q2 q3 p4))), .second, .val (.long (f4 (m0_0 q0 q1 q2 q3 p4) (m0_1 q0 q1 q2 q3 p4))), .second, .val (.ref b7), .val (.ref b9), .val (.int (m0_2 q0 q1 q2 q3 p4)), .val (.int (f7a (f1 q0 q1) (f4 q0 q1) (f1 (m0_0 q0 q1 q2 q3 p4) (m0_1 q0 q1 q2 q3 p4)) (f4 (m0_0 q0 q1 q2 q3 p4) (m0_1 q0 q1 q2 q3 p4)))), .val (.int (f7a (f1 (m0_0 q0 q1 q2 q3 p4) (m0_1 q0 q1 q2 q3 p4)) (f4 (m0_0 q0 q1 q2 q3 p4) (m0_1 q0 q1 q2 q3 p4)) (f1 q0 q1) (f4 q0 q1))), .val (.int (f7a (f1 q0 q1) (f4 q0 q1) (f1 q0 q1) (f4 q0 q1))), .val (.int (0 : Int32)), .val (.int (0 : Int32))] [(.int (0 : Int32))])) _
      exact retN X18 hx (t := .boolean) Bd.returns (by simp) (hb hby at_192) hr
    · show Q0 Z q0 q1 q2 q3 p4 wc h0 n0 _ T18.heap _
      rw [e18]
      exact ⟨by rw [show f0 q0 q1 q2 q3 p4 = (0 : Int32) from by unfold f0; rw [if_neg hc162_19]], N18⟩
theorem own_eq7 (a b c d : Int64) : f7a a b c d = (if a = c then (if b = d then 1 else 0) else 0) := by
  unfold f7a
  by_cases h1 : a = c
  · by_cases h2 : b = d
    · rw [if_pos h1, if_pos h2, if_pos h1.symm, if_pos h2.symm]
    · rw [if_pos h1, if_neg h2, if_pos h1.symm, if_neg (fun q => h2 q.symm)]
  · rw [if_neg h1, if_neg (fun q => h1 q.symm)]
theorem own_law (a b c d : Int64) (e : Int32) : f0 a b c d e = 1 := by
  have e1 : f7a (f1 a b) (f4 a b) (f1 (m0_0 a b c d e) (m0_1 a b c d e)) (f4 (m0_0 a b c d e) (m0_1 a b c d e)) = m0_2 a b c d e := own_eq7 _ _ _ _
  have e2 : f7a (f1 (m0_0 a b c d e) (m0_1 a b c d e)) (f4 (m0_0 a b c d e) (m0_1 a b c d e)) (f1 a b) (f4 a b) = m0_2 a b c d e := rfl
  have e3 : ∀ x y, f7a x y x y = 1 := fun x y => by unfold f7a; rw [if_pos rfl, if_pos rfl]
  unfold f0
  rw [if_pos e1, if_pos e2, e3]
  decide
theorem own_exai {args : Array Value} {s : State} {t : Term} {a : Addr} {C : String} {idx : List Nat} (ev : t.eval args s none idx s = some (.ref a)) (h : (Jvm.Cond.exactly t C).value args s none s idx = some true) : Exa s s.heap a C := by
  have e : (Jvm.Cond.exactly (Term.arg 0) C).value #[.ref a] s none s [] = (Jvm.Cond.exactly t C).value args s none s idx := by
    have ev0 : (Term.arg 0).eval #[.ref a] s none [] s = some (.ref a) := rfl
    simp only [Cond.value, ev, ev0]
  exact Exa.start (t := Term.arg 0) rfl (e.trans h)
theorem own_len {args : Array Value} {s : State} {t : Term} {a : Addr} {cl : Cell} {v : Value} (ex : (Term.length t).eval args s none [] s = some v) (ev : t.eval args s none [] s = some (.ref a)) (hat : s.arrayAt? a = some cl) : cl.slots.size < 2 ^ 31 := by
  by_cases q : cl.slots.size < 2 ^ 31
  · exact q
  · simp [Term.eval, ev, hat, q] at ex
theorem own_cache {args : Array Value} {s : State} (w1 : (Jvm.Cond.initializedFor "java/lang/Long$LongCache" "cache" "[Ljava/lang/Long;").before args s = true)
    (h2 : (Jvm.Cond.arrayOf (Term.static "java/lang/Long$LongCache" "cache" "[Ljava/lang/Long;") (.object "java/lang/Long")).before args s = true)
    (h4 : (Jvm.Cond.eq (Term.length (Term.static "java/lang/Long$LongCache" "cache" "[Ljava/lang/Long;")) (Term.int 256)).before args s = true) {D : Jvm.Cond}
    (h5 : (Jvm.Cond.all (Term.static "java/lang/Long$LongCache" "cache" "[Ljava/lang/Long;") (Jvm.Cond.and (Jvm.Cond.exactly (Term.elem (Term.static "java/lang/Long$LongCache" "cache" "[Ljava/lang/Long;") (Term.index 0)) "java/lang/Long") D)).before args s = true) :
    ∃ wc, Sta s s.heap "java/lang/Long$LongCache" "cache" "[Ljava/lang/Long;" (.ref wc) ∧ LCache s s.heap wc := by
  have v2 := Cond.before_iff.mp h2
  have v4 := Cond.before_iff.mp h4
  have v5 := Cond.before_iff.mp h5
  obtain ⟨wc, ev⟩ := arr_v v2
  obtain ⟨cl, A⟩ := Arr.start ev v2
  have hat : s.arrayAt? wc = some cl := A.fin (State.Warmed39.refl s).alike
  refine ⟨wc, Sta.start ev (Or.inl w1), cl, A, ?_, ?_⟩
  · obtain ⟨x, y, ex, ey, -, -⟩ := cmp_v (Or.inl v4)
    obtain ⟨a', c', e1, e2, rfl⟩ := Term.length_spec ex
    cases ev.symm.trans e1
    cases hat.symm.trans e2
    have e256 := gotT (Cond.eq_ints ex (Term.int_eval 256)) v4
    have hlt : cl.slots.size < 2 ^ 31 := own_len ex ev hat
    have := len_toInt hlt
    rw [e256, show (256 : Int32).toInt = 256 from rfl] at this
    omega
  · intro i hi
    have hsz : i < cl.slots.size := by
      obtain ⟨x, y, ex, ey, -, -⟩ := cmp_v (Or.inl v4)
      obtain ⟨a', c', e1, e2, rfl⟩ := Term.length_spec ex
      cases ev.symm.trans e1
      cases hat.symm.trans e2
      have e256 := gotT (Cond.eq_ints ex (Term.int_eval 256)) v4
      have hlt : cl.slots.size < 2 ^ 31 := own_len ex ev hat
      have := len_toInt hlt
      rw [e256, show (256 : Int32).toInt = 256 from rfl] at this
      omega
    obtain ⟨g1, -⟩ := and_e (Cond.all_elim ev hat v5 i hsz)
    obtain ⟨b, eb⟩ := exa_v g1
    have evi : (Term.static "java/lang/Long$LongCache" "cache" "[Ljava/lang/Long;").eval args s none [i] s = some (.ref wc) := ev
    have hj : (Term.index 0).eval args s none [i] s = some (.int i.toInt32) := rfl
    obtain ⟨q1, q2⟩ := elem_in eb evi hj A.1
    have hi2 : i.toInt32.toNatClampNeg = i := by
      have t := len_toInt (n := i) (by omega)
      have u := nat_of (j := i.toInt32) (fun q => q1 (Or.inl q))
      omega
    rw [hi2] at q2
    exact ⟨b, q2, own_exai eb g1⟩
set_option maxRecDepth 65536 in
set_option maxHeartbeats 40000000 in
theorem comes_1 {Post : Tables → Env → Array Value → State → Outcome → State → Prop} (hpost : ∀ tb e args s v u, (limb_1_1.after args s (.returned v) u = true ∧ limb_1_2.after args s (.returned v) u = true ∧ True) → FrameEnd s (.returned v) u (Jvm.fieldLocs frame_1_writes args s ++ Jvm.arrayLocs frame_1_arrays args s ++ Jvm.staticLocs frame_1_statics s) 16 128 → Post tb e args s (.returned v) u) :
    ArmFor flags0 classFile x code maxLocals ret World_1 tables_1 room_1 Calls_1 rest_1 Pre_1 Post := by
  intro l hfl _ _ p e ha hc hk s m args below hf hA hF happ hP
  obtain ⟨hcalls, hrest, hpre⟩ := hP
  obtain ⟨-, -, -, hnamed, -, -, -, hat⟩ := (Spec.applies_iff hf).mp happ
  obtain ⟨hg, hn⟩ := and_e (Cond.before_iff.mp (show (Jvm.Cond.and given_1 narrow_1).before args s = true from hpre))
  obtain ⟨gc, gr0⟩ := and_e hg
  obtain ⟨ga0, gr1⟩ := and_e gr0
  obtain ⟨ga1, gr2⟩ := and_e gr1
  obtain ⟨ga2, gr3⟩ := and_e gr2
  obtain ⟨ga3, gr4⟩ := and_e gr3
  obtain ⟨w0, w1, w2, w3, w4, rfl⟩ : ∃ w0 w1 w2 w3 w4 : Value, args = #[w0, w1, w2, w3, w4] := by
    have hs : args.size = 5 := by simpa [Cond.value, given_1] using gc
    obtain ⟨L⟩ := args
    match L, hs with
    | [w0, w1, w2, w3, w4], _ => exact ⟨w0, w1, w2, w3, w4, rfl⟩
  have hw := fun d (hd : d ∈ tables_1) => atoms_spec (ws := Jvm.Cond.code x code maxLocals ret :: tables_1) hat d (List.mem_cons_of_mem _ hd)
  have hfit : Fit s := fun {y c} hc i hi => by
    obtain ⟨ha, rfl⟩ := Array.getElem?_eq_some_iff.mp hc
    have q := List.all_eq_true.mp ((Array.all_eq_true_iff_forall_mem.mp hF) _ (Array.getElem_mem ha)) i (List.mem_range.mpr hi)
    simpa [Array.getElem?_eq_getElem hi] using q
  obtain ⟨hsets, hown0⟩ := atoms_of _ (rest_1_c_eq ▸ (show rest_1_c.before _ s = true from hrest))
  have hr0 := Cond.before_iff.mp hown0
  obtain ⟨i0, ei0⟩ := isL_v ga0
  obtain rfl : w0 = (.long i0) := Option.some.inj ei0
  obtain ⟨i1, ei1⟩ := isL_v ga1
  obtain rfl : w1 = (.long i1) := Option.some.inj ei1
  obtain ⟨i2, ei2⟩ := isL_v ga2
  obtain rfl : w2 = (.long i2) := Option.some.inj ei2
  obtain ⟨i3, ei3⟩ := isL_v ga3
  obtain rfl : w3 = (.long i3) := Option.some.inj ei3
  obtain ⟨i4, ei4⟩ := is_v gr4
  obtain rfl : w4 = (.int i4) := Option.some.inj ei4
  obtain ⟨wc, Sc, Lc⟩ := own_cache (hsets _ (List.mem_of_getElem? (i := 1) rfl)) (hsets _ (List.mem_of_getElem? (i := 2) rfl)) (hsets _ (List.mem_of_getElem? (i := 4) rfl)) (hsets _ (List.mem_of_getElem? (i := 5) rfl))
  obtain ⟨n, o, h1, h2, h3, _, L, rfl, ⟨rfl, N⟩, hq⟩ := rm0 l s _ hw tables_1 i0 i1 i2 i3 i4 wc s.heap s.heap.size (Nat.le_refl _) Sc Lc p e ha hc hk s m _ below hf ((Spec.applies_iff_loose hf).mp happ).1 ⟨rfl, State.Warmed39.refl s, rfl⟩ trivial
  refine ⟨n, _, h1, h2, h3, hpost _ _ _ _ _ _ ⟨Cond.after_iff.mpr rfl, Cond.after_iff.mpr (eq_i res_at (Term.int_eval (1)) (congrArg Value.int (own_law i0 i1 i2 i3 i4))), trivial⟩ ⟨hq.1, hq.2.1, (hq.2.2.sift fun y hy => Or.inr (N y hy)).mono (by decide) (by decide)⟩⟩
theorem main_1_1 : Claimed_1_1 := comes_1 fun _ _ _ _ _ _ h hF => ⟨h.1, hF⟩
theorem main_1_2 : Claimed_1_2 := comes_1 fun _ _ _ _ _ _ h hF => ⟨h.2.1, hF⟩
end Jvm.Pilot.@@N@@
namespace Jvm.Pilot.@@N@@
open Jvm Jvm.ClassFile Sem Op Lib Jvm.Free Jvm.Stand Jvm.Pilot.@@N@@.Jvm.D
/-! MADE BY PROGRAM (witnessworld.py) out of the Statement's table words and the real class files: 17 classes; the members and pool entries that the words name. The judged class is class 1, her method 3. -/
namespace start1
open Jvm.ClassFile
def u (s : String) : CpInfo := .utf8 (stringToUtf16 s)
/-- a pool by its gaps: so many unusable entries, then the entry; so many at the end -/
def gap : Nat → List CpInfo → List CpInfo
  | 0, r => r
  | n + 1, r => .unusable :: gap n r
def poolList (es : List (Nat × CpInfo)) (last : Nat) : List CpInfo := es.foldr (fun e r => gap e.1 (e.2 :: r)) (gap last [])
def pool (es : List (Nat × CpInfo)) (last : Nat) : Array CpInfo := ⟨poolList es last⟩
def fileOf (pool : Array CpInfo) (this : Nat) (attrs : Array Attribute := #[]) (ms : Array MethodInfo := #[]) (fl : Nat := 33) (sup : Nat := 0) (ifs : Array Nat := #[]) (fds : Array FieldInfo := #[]) : ClassFile where
  minorVersion := 0
  majorVersion := 65
  constantPool := pool
  accessFlags := fl
  thisClass := this
  superClass := sup
  interfaces := ifs
  fields := fds
  methods := ms
  attributes := attrs
def plain (name : String) (sup : Option ClassId) : Class where
  name := name
  kind := .ordinary
  loader := none
  accessFlags := 33
  super := sup
  interfaces := #[]
  cf := none
  fields := #[]
  methods := #[]
  instanceTypes := #[]
  staticTypes := #[]
  resolved := #[]
  callSites := []
  init := .initialized
  statics := none
  mirror := none

def pool0 : Array CpInfo := pool [(5, u "<init>"), (0, u "()V"), (1, .class_ 10), (1, u "java/lang/Object")] 113

def k0c0 : Code := { maxStack := 0, maxLocals := 1, code := object_method_1_code, exceptionTable := #[], attributes := #[] }
def k0m0 : Method := { name := "<init>", desc := "()V", sig := { parameters := [], returnType := none }, accessFlags := 1, code := some k0c0 }
/-- java/lang/Object -/
def k0 : Class := { plain "java/lang/Object" none with
  accessFlags := 33
  interfaces := #[]
  cf := some (fileOf pool0 8 #[] #[{ accessFlags := 1, nameIndex := 5, descriptorIndex := 6, attributes := #[] }] 33 0 #[] #[])
  fields := #[]
  methods := #[k0m0]
  instanceTypes := #[]
  staticTypes := #[]
  resolved := Array.replicate 124 none
  statics := none }

def pool1 : Array CpInfo := pool [(2, .class_ 4), (1, u "java/lang/Object"), (0, u "<init>"), (0, u "()V"), (0, .class_ 8), (0, u "java/lang/Long"), (0, .long 9223372036854775807), (1, .methodref 12 13), (0, .class_ 14), (0, .nameAndType 15 16), (0, u "java/lang/Math"), (0, u "min"), (0, u "(JJ)J"), (0, .methodref 12 18), (0, .nameAndType 19 16), (0, u "max"), (0, .methodref 21 22), (0, .class_ 23), (0, .nameAndType 24 16), (0, u "com/example/byteloom/byteloom/ByteRangeEqualsPinLaw"), (0, u "lo"), (0, .methodref 21 26), (0, .nameAndType 27 16), (0, u "hi"), (0, .class_ 29), (0, u "com/example/byteloom/byteloom/ByteRange"), (0, .methodref 28 31), (0, .nameAndType 5 32), (0, u "(JJ)V"), (0, .methodref 28 34), (0, .nameAndType 35 36), (0, u "equals"), (0, u "(Ljava/lang/Object;)Z"), (0, .methodref 7 38), (0, .nameAndType 39 40), (0, u "valueOf"), (0, u "(J)Ljava/lang/Long;"), (3, u "law"), (0, u "(JJJJI)Z")] 2

def k1m0 : Method := { name := "<init>", desc := "()V", sig := { parameters := [], returnType := none }, accessFlags := 1, code := none }
def k1c1 : Code := { maxStack := 4, maxLocals := 12, code := method_2_code, exceptionTable := #[], attributes := #[] }
def k1m1 : Method := { name := "lo", desc := "(JJ)J", sig := { parameters := [.long, .long], returnType := some .long }, accessFlags := 10, code := some k1c1 }
def k1c2 : Code := { maxStack := 4, maxLocals := 12, code := method_3_code, exceptionTable := #[], attributes := #[] }
def k1m2 : Method := { name := "hi", desc := "(JJ)J", sig := { parameters := [.long, .long], returnType := some .long }, accessFlags := 10, code := some k1c2 }
def k1c3 : Code := { maxStack := 6, maxLocals := 29, code := code, exceptionTable := #[], attributes := #[] }
def k1m3 : Method := { name := "law", desc := "(JJJJI)Z", sig := { parameters := [.long, .long, .long, .long, .int], returnType := some .boolean }, accessFlags := 9, code := some k1c3 }
/-- com/example/byteloom/byteloom/ByteRangeEqualsPinLaw -/
def k1 : Class := { plain "com/example/byteloom/byteloom/ByteRangeEqualsPinLaw" (some 0) with
  accessFlags := 49
  interfaces := #[]
  cf := some (fileOf pool1 21 #[] #[{ accessFlags := 1, nameIndex := 5, descriptorIndex := 6, attributes := #[] }, { accessFlags := 10, nameIndex := 24, descriptorIndex := 16, attributes := #[] }, { accessFlags := 10, nameIndex := 27, descriptorIndex := 16, attributes := #[] }, { accessFlags := 9, nameIndex := 44, descriptorIndex := 45, attributes := #[] }] 49 2 #[] #[])
  fields := #[]
  methods := #[k1m0, k1m1, k1m2, k1m3]
  instanceTypes := #[]
  staticTypes := #[]
  resolved := Array.replicate 48 none
  statics := none }

def pool2 : Array CpInfo := pool [(1, .class_ 2), (0, u "java/lang/Math"), (1, .class_ 6), (1, u "java/lang/Object"), (0, u "<init>"), (0, u "()V"), (89, .class_ 100), (1, u "java/lang/Math$RandomNumberGeneratorHolder"), (20, u "(JJ)J"), (50, u "negativeZeroFloatBits"), (0, u "J"), (2, u "negativeZeroDoubleBits"), (21, u "max"), (2, u "min"), (43, u "$assertionsDisabled"), (0, u "Z"), (91, u "twoToTheDoubleScaleDown"), (0, u "D"), (4, u "twoToTheDoubleScaleUp"), (9, u "E"), (3, u "PI"), (2, u "TAU"), (2, u "DEGREES_TO_RADIANS"), (0, u "RADIANS_TO_DEGREES")] 94

def k2m0 : Method := { name := "<init>", desc := "()V", sig := { parameters := [], returnType := none }, accessFlags := 2, code := none }
def k2c1 : Code := { maxStack := 4, maxLocals := 4, code := jdk_29_method_66_code, exceptionTable := #[], attributes := #[] }
def k2m1 : Method := { name := "max", desc := "(JJ)J", sig := { parameters := [.long, .long], returnType := some .long }, accessFlags := 9, code := some k2c1 }
def k2c2 : Code := { maxStack := 4, maxLocals := 4, code := jdk_29_method_70_code, exceptionTable := #[], attributes := #[] }
def k2m2 : Method := { name := "min", desc := "(JJ)J", sig := { parameters := [.long, .long], returnType := some .long }, accessFlags := 9, code := some k2c2 }
/-- java/lang/Math -/
def k2 : Class := { plain "java/lang/Math" (some 0) with
  accessFlags := 49
  interfaces := #[]
  cf := some (fileOf pool2 1 #[.nestMembers #[98]] #[{ accessFlags := 2, nameIndex := 7, descriptorIndex := 8, attributes := #[] }, { accessFlags := 9, nameIndex := 198, descriptorIndex := 121, attributes := #[] }, { accessFlags := 9, nameIndex := 201, descriptorIndex := 121, attributes := #[] }] 49 4 #[] #[{ accessFlags := 25, nameIndex := 354, descriptorIndex := 339, attributes := #[] }, { accessFlags := 25, nameIndex := 358, descriptorIndex := 339, attributes := #[] }, { accessFlags := 25, nameIndex := 361, descriptorIndex := 339, attributes := #[] }, { accessFlags := 26, nameIndex := 364, descriptorIndex := 339, attributes := #[] }, { accessFlags := 26, nameIndex := 365, descriptorIndex := 339, attributes := #[] }, { accessFlags := 26, nameIndex := 172, descriptorIndex := 173, attributes := #[] }, { accessFlags := 26, nameIndex := 176, descriptorIndex := 173, attributes := #[] }, { accessFlags := 8, nameIndex := 344, descriptorIndex := 339, attributes := #[] }, { accessFlags := 8, nameIndex := 338, descriptorIndex := 339, attributes := #[] }, { accessFlags := 4120, nameIndex := 245, descriptorIndex := 246, attributes := #[] }])
  fields := #[{ name := "E", type := .double, accessFlags := 25, slot := 0, constantValue := 0 }, { name := "PI", type := .double, accessFlags := 25, slot := 1, constantValue := 0 }, { name := "TAU", type := .double, accessFlags := 25, slot := 2, constantValue := 0 }, { name := "DEGREES_TO_RADIANS", type := .double, accessFlags := 26, slot := 3, constantValue := 0 }, { name := "RADIANS_TO_DEGREES", type := .double, accessFlags := 26, slot := 4, constantValue := 0 }, { name := "negativeZeroFloatBits", type := .long, accessFlags := 26, slot := 5, constantValue := 0 }, { name := "negativeZeroDoubleBits", type := .long, accessFlags := 26, slot := 6, constantValue := 0 }, { name := "twoToTheDoubleScaleUp", type := .double, accessFlags := 8, slot := 7, constantValue := 0 }, { name := "twoToTheDoubleScaleDown", type := .double, accessFlags := 8, slot := 8, constantValue := 0 }, { name := "$assertionsDisabled", type := .boolean, accessFlags := 4120, slot := 9, constantValue := 0 }]
  methods := #[k2m0, k2m1, k2m2]
  instanceTypes := #[]
  staticTypes := #[.double, .double, .double, .double, .double, .long, .long, .double, .double, .boolean]
  resolved := Array.replicate 460 none
  statics := none }

def pool3 : Array CpInfo := pool [(1, .methodref 2 3), (0, .class_ 4), (0, .nameAndType 5 6), (0, u "java/lang/Object"), (0, u "<init>"), (0, u "()V"), (9, .fieldref 17 18), (0, .class_ 19), (0, .nameAndType 20 21), (0, u "com/example/byteloom/byteloom/ByteRange"), (0, u "from"), (0, u "J"), (0, .fieldref 17 23), (0, .nameAndType 24 21), (0, u "to"), (7, u "(JJ)V"), (5, u "equals"), (0, u "(Ljava/lang/Object;)Z")] 22

def k3c0 : Code := { maxStack := 6, maxLocals := 5, code := prog_3_method_1_code, exceptionTable := #[], attributes := #[] }
def k3m0 : Method := { name := "<init>", desc := "(JJ)V", sig := { parameters := [.long, .long], returnType := none }, accessFlags := 1, code := some k3c0 }
def k3c1 : Code := { maxStack := 4, maxLocals := 2, code := prog_3_method_5_code, exceptionTable := #[], attributes := #[] }
def k3m1 : Method := { name := "equals", desc := "(Ljava/lang/Object;)Z", sig := { parameters := [(.object "java/lang/Object")], returnType := some .boolean }, accessFlags := 1, code := some k3c1 }
/-- com/example/byteloom/byteloom/ByteRange -/
def k3 : Class := { plain "com/example/byteloom/byteloom/ByteRange" (some 0) with
  accessFlags := 49
  interfaces := #[]
  cf := some (fileOf pool3 17 #[] #[{ accessFlags := 1, nameIndex := 5, descriptorIndex := 32, attributes := #[] }, { accessFlags := 1, nameIndex := 38, descriptorIndex := 39, attributes := #[] }] 49 2 #[] #[{ accessFlags := 18, nameIndex := 20, descriptorIndex := 21, attributes := #[] }, { accessFlags := 18, nameIndex := 24, descriptorIndex := 21, attributes := #[] }])
  fields := #[{ name := "from", type := .long, accessFlags := 18, slot := 0, constantValue := 0 }, { name := "to", type := .long, accessFlags := 18, slot := 1, constantValue := 0 }]
  methods := #[k3m0, k3m1]
  instanceTypes := #[.long, .long]
  staticTypes := #[]
  resolved := Array.replicate 62 none
  statics := none }

def pool4 : Array CpInfo := pool [(1, .class_ 2), (0, u "java/io/Serializable"), (0, .class_ 4), (0, u "java/lang/Object")] 2

/-- java/io/Serializable -/
def k4 : Class := { plain "java/io/Serializable" (some 0) with
  accessFlags := 1537
  interfaces := #[]
  cf := some (fileOf pool4 1 #[] #[] 1537 3 #[] #[])
  fields := #[]
  methods := #[]
  instanceTypes := #[]
  staticTypes := #[]
  resolved := Array.replicate 7 none
  statics := none }

def pool5 : Array CpInfo := pool [(1, .methodref 2 3), (0, .class_ 4), (0, .nameAndType 5 6), (0, u "java/lang/Object"), (0, u "<init>"), (0, u "()V"), (1, .class_ 10), (1, u "java/lang/Number"), (2, .class_ 14), (0, u "java/io/Serializable"), (0, u "serialVersionUID"), (0, u "J")] 20

def k5c0 : Code := { maxStack := 1, maxLocals := 1, code := jdk_18_method_1_code, exceptionTable := #[], attributes := #[] }
def k5m0 : Method := { name := "<init>", desc := "()V", sig := { parameters := [], returnType := none }, accessFlags := 1, code := some k5c0 }
/-- java/lang/Number -/
def k5 : Class := { plain "java/lang/Number" (some 0) with
  accessFlags := 1057
  interfaces := #[4]
  cf := some (fileOf pool5 8 #[] #[{ accessFlags := 1, nameIndex := 5, descriptorIndex := 6, attributes := #[] }] 1057 2 #[13] #[{ accessFlags := 26, nameIndex := 15, descriptorIndex := 16, attributes := #[] }])
  fields := #[{ name := "serialVersionUID", type := .long, accessFlags := 26, slot := 0, constantValue := 0 }]
  methods := #[k5m0]
  instanceTypes := #[]
  staticTypes := #[.long]
  resolved := Array.replicate 37 none
  statics := none }

def pool6 : Array CpInfo := pool [(1, .class_ 2), (0, u "java/lang/Comparable"), (0, .class_ 4), (0, u "java/lang/Object")] 7

/-- java/lang/Comparable -/
def k6 : Class := { plain "java/lang/Comparable" (some 0) with
  accessFlags := 1537
  interfaces := #[]
  cf := some (fileOf pool6 1 #[] #[] 1537 3 #[] #[])
  fields := #[]
  methods := #[]
  instanceTypes := #[]
  staticTypes := #[]
  resolved := Array.replicate 12 none
  statics := none }

def pool7 : Array CpInfo := pool [(1, .class_ 2), (0, u "java/lang/constant/Constable"), (0, .class_ 4), (0, u "java/lang/Object")] 6

/-- java/lang/constant/Constable -/
def k7 : Class := { plain "java/lang/constant/Constable" (some 0) with
  accessFlags := 1537
  interfaces := #[]
  cf := some (fileOf pool7 1 #[] #[] 1537 3 #[] #[])
  fields := #[]
  methods := #[]
  instanceTypes := #[]
  staticTypes := #[]
  resolved := Array.replicate 11 none
  statics := none }

def pool8 : Array CpInfo := pool [(1, .class_ 2), (0, u "java/lang/constant/ConstantDesc"), (0, .class_ 4), (0, u "java/lang/Object")] 32

/-- java/lang/constant/ConstantDesc -/
def k8 : Class := { plain "java/lang/constant/ConstantDesc" (some 0) with
  accessFlags := 1537
  interfaces := #[]
  cf := some (fileOf pool8 1 #[] #[] 1537 3 #[] #[])
  fields := #[]
  methods := #[]
  instanceTypes := #[]
  staticTypes := #[]
  resolved := Array.replicate 37 none
  statics := none }

def pool9 : Array CpInfo := pool [(1, .class_ 2), (0, u "java/lang/Long"), (55, .nameAndType 59 60), (0, u "<init>"), (0, u "()V"), (24, u "valueOf"), (143, u "(J)Ljava/lang/Long;"), (0, .long 18446744073709551488), (1, .long 127), (1, .fieldref 235 236), (0, .class_ 237), (0, .nameAndType 238 239), (0, u "java/lang/Long$LongCache"), (0, u "cache"), (0, u "[Ljava/lang/Long;"), (0, .methodref 1 241), (0, .nameAndType 59 242), (0, u "(J)V"), (27, .methodref 271 58), (0, .class_ 272), (0, u "java/lang/Number"), (0, .fieldref 1 274), (0, .nameAndType 275 276), (0, u "value"), (0, u "J"), (84, u "TYPE"), (0, u "Ljava/lang/Class;"), (0, .class_ 364), (0, u "java/lang/Comparable"), (0, .class_ 366), (0, u "java/lang/constant/Constable"), (0, .class_ 368), (0, u "java/lang/constant/ConstantDesc"), (0, u "MIN_VALUE"), (1, u "MAX_VALUE"), (4, u "SIZE"), (0, u "I"), (1, u "BYTES"), (1, u "serialVersionUID")] 142

def k9c0 : Code := { maxStack := 4, maxLocals := 3, code := jdk_35_method_24_code, exceptionTable := #[], attributes := #[] }
def k9m0 : Method := { name := "valueOf", desc := "(J)Ljava/lang/Long;", sig := { parameters := [.long], returnType := some (.object "java/lang/Long") }, accessFlags := 9, code := some k9c0 }
def k9c1 : Code := { maxStack := 3, maxLocals := 3, code := jdk_35_method_26_code, exceptionTable := #[], attributes := #[] }
def k9m1 : Method := { name := "<init>", desc := "(J)V", sig := { parameters := [.long], returnType := none }, accessFlags := 1, code := some k9c1 }
/-- java/lang/Long -/
def k9 : Class := { plain "java/lang/Long" (some 5) with
  accessFlags := 49
  interfaces := #[6, 7, 8]
  cf := some (fileOf pool9 1 #[.nestMembers #[235]] #[{ accessFlags := 9, nameIndex := 85, descriptorIndex := 229, attributes := #[] }, { accessFlags := 1, nameIndex := 59, descriptorIndex := 242, attributes := #[] }] 49 271 #[363, 365, 367] #[{ accessFlags := 25, nameIndex := 369, descriptorIndex := 276, attributes := #[] }, { accessFlags := 25, nameIndex := 371, descriptorIndex := 276, attributes := #[] }, { accessFlags := 25, nameIndex := 361, descriptorIndex := 362, attributes := #[] }, { accessFlags := 18, nameIndex := 275, descriptorIndex := 276, attributes := #[] }, { accessFlags := 25, nameIndex := 376, descriptorIndex := 377, attributes := #[] }, { accessFlags := 25, nameIndex := 379, descriptorIndex := 377, attributes := #[] }, { accessFlags := 26, nameIndex := 381, descriptorIndex := 276, attributes := #[] }])
  fields := #[{ name := "MIN_VALUE", type := .long, accessFlags := 25, slot := 0, constantValue := 0 }, { name := "MAX_VALUE", type := .long, accessFlags := 25, slot := 1, constantValue := 0 }, { name := "TYPE", type := (.object "java/lang/Class"), accessFlags := 25, slot := 2, constantValue := 0 }, { name := "value", type := .long, accessFlags := 18, slot := 0, constantValue := 0 }, { name := "SIZE", type := .int, accessFlags := 25, slot := 3, constantValue := 0 }, { name := "BYTES", type := .int, accessFlags := 25, slot := 4, constantValue := 0 }, { name := "serialVersionUID", type := .long, accessFlags := 26, slot := 5, constantValue := 0 }]
  methods := #[k9m0, k9m1]
  instanceTypes := #[.long]
  staticTypes := #[.long, .long, (.object "java/lang/Class"), .int, .int, .long]
  resolved := Array.replicate 524 none
  statics := none }

def pool10 : Array CpInfo := pool [(2, .class_ 4), (1, u "java/lang/Object"), (0, u "<init>"), (0, u "()V"), (0, .class_ 8), (0, u "java/lang/Long"), (7, .class_ 18), (1, u "java/lang/Long$LongCache"), (0, u "$assertionsDisabled"), (0, u "Z"), (8, u "archivedCache"), (0, u "[Ljava/lang/Long;"), (7, u "cache")] 24

def k10m0 : Method := { name := "<init>", desc := "()V", sig := { parameters := [], returnType := none }, accessFlags := 2, code := none }
/-- java/lang/Long$LongCache -/
def k10 : Class := { plain "java/lang/Long$LongCache" (some 0) with
  accessFlags := 48
  interfaces := #[]
  cf := some (fileOf pool10 16 #[.nestHost 7] #[{ accessFlags := 2, nameIndex := 5, descriptorIndex := 6, attributes := #[] }] 48 2 #[] #[{ accessFlags := 24, nameIndex := 38, descriptorIndex := 30, attributes := #[] }, { accessFlags := 8, nameIndex := 29, descriptorIndex := 30, attributes := #[] }, { accessFlags := 4120, nameIndex := 19, descriptorIndex := 20, attributes := #[] }])
  fields := #[{ name := "cache", type := (.array (.object "java/lang/Long")), accessFlags := 24, slot := 0, constantValue := 0 }, { name := "archivedCache", type := (.array (.object "java/lang/Long")), accessFlags := 8, slot := 1, constantValue := 0 }, { name := "$assertionsDisabled", type := .boolean, accessFlags := 4120, slot := 2, constantValue := 0 }]
  methods := #[k10m0]
  instanceTypes := #[]
  staticTypes := #[(.array (.object "java/lang/Long")), (.array (.object "java/lang/Long")), .boolean]
  resolved := Array.replicate 63 none
  statics := some 0 }

def pool11 : Array CpInfo := pool [(1, u "java/lang/Cloneable"), (0, .class_ 1), (0, u "java/lang/Object"), (0, .class_ 3)] 3

/-- java/lang/Cloneable -/
def k11 : Class := { plain "java/lang/Cloneable" (some 0) with
  accessFlags := 1537
  interfaces := #[]
  cf := some (fileOf pool11 2 #[] #[] 1537 4 #[] #[])
  fields := #[]
  methods := #[]
  instanceTypes := #[]
  staticTypes := #[]
  resolved := Array.replicate 8 none
  statics := none }

/-- the primitive byte -/
def k12 : Class := { plain "byte" none with kind := .primitive 'B', accessFlags := 0x411 }
/-- [B -/
def k13 : Class := { plain "[B" (some 0) with kind := .array 12 .byte, interfaces := #[11, 4], accessFlags := 1041 }

/-- the primitive int -/
def k14 : Class := { plain "int" none with kind := .primitive 'I', accessFlags := 0x411 }
/-- [I -/
def k15 : Class := { plain "[I" (some 0) with kind := .array 14 .int, interfaces := #[11, 4], accessFlags := 1041 }

/-- [Ljava/lang/Long; -/
def k16 : Class := { plain "[Ljava/lang/Long;" (some 0) with kind := .array 9 (.object "java/lang/Long"), interfaces := #[11, 4], accessFlags := 1041 }

def heap : Heap := #[{ cls := 10, slots := #[.ref 1, .null, .int 0], vm := .statics 10 },
  { cls := 16, slots := #[.ref 2, .ref 3, .ref 4, .ref 5, .ref 6, .ref 7, .ref 8, .ref 9, .ref 10, .ref 11, .ref 12, .ref 13, .ref 14, .ref 15, .ref 16, .ref 17, .ref 18, .ref 19, .ref 20, .ref 21, .ref 22, .ref 23, .ref 24, .ref 25, .ref 26, .ref 27, .ref 28, .ref 29, .ref 30, .ref 31, .ref 32, .ref 33, .ref 34, .ref 35, .ref 36, .ref 37, .ref 38, .ref 39, .ref 40, .ref 41, .ref 42, .ref 43, .ref 44, .ref 45, .ref 46, .ref 47, .ref 48, .ref 49, .ref 50, .ref 51, .ref 52, .ref 53, .ref 54, .ref 55, .ref 56, .ref 57, .ref 58, .ref 59, .ref 60, .ref 61, .ref 62, .ref 63, .ref 64, .ref 65, .ref 66, .ref 67, .ref 68, .ref 69, .ref 70, .ref 71, .ref 72, .ref 73, .ref 74, .ref 75, .ref 76, .ref 77, .ref 78, .ref 79, .ref 80, .ref 81, .ref 82, .ref 83, .ref 84, .ref 85, .ref 86, .ref 87, .ref 88, .ref 89, .ref 90, .ref 91, .ref 92, .ref 93, .ref 94, .ref 95, .ref 96, .ref 97, .ref 98, .ref 99, .ref 100, .ref 101, .ref 102, .ref 103, .ref 104, .ref 105, .ref 106, .ref 107, .ref 108, .ref 109, .ref 110, .ref 111, .ref 112, .ref 113, .ref 114, .ref 115, .ref 116, .ref 117, .ref 118, .ref 119, .ref 120, .ref 121, .ref 122, .ref 123, .ref 124, .ref 125, .ref 126, .ref 127, .ref 128, .ref 129, .ref 130, .ref 131, .ref 132, .ref 133, .ref 134, .ref 135, .ref 136, .ref 137, .ref 138, .ref 139, .ref 140, .ref 141, .ref 142, .ref 143, .ref 144, .ref 145, .ref 146, .ref 147, .ref 148, .ref 149, .ref 150, .ref 151, .ref 152, .ref 153, .ref 154, .ref 155, .ref 156, .ref 157, .ref 158, .ref 159, .ref 160, .ref 161, .ref 162, .ref 163, .ref 164, .ref 165, .ref 166, .ref 167, .ref 168, .ref 169, .ref 170, .ref 171, .ref 172, .ref 173, .ref 174, .ref 175, .ref 176, .ref 177, .ref 178, .ref 179, .ref 180, .ref 181, .ref 182, .ref 183, .ref 184, .ref 185, .ref 186, .ref 187, .ref 188, .ref 189, .ref 190, .ref 191, .ref 192, .ref 193, .ref 194, .ref 195, .ref 196, .ref 197, .ref 198, .ref 199, .ref 200, .ref 201, .ref 202, .ref 203, .ref 204, .ref 205, .ref 206, .ref 207, .ref 208, .ref 209, .ref 210, .ref 211, .ref 212, .ref 213, .ref 214, .ref 215, .ref 216, .ref 217, .ref 218, .ref 219, .ref 220, .ref 221, .ref 222, .ref 223, .ref 224, .ref 225, .ref 226, .ref 227, .ref 228, .ref 229, .ref 230, .ref 231, .ref 232, .ref 233, .ref 234, .ref 235, .ref 236, .ref 237, .ref 238, .ref 239, .ref 240, .ref 241, .ref 242, .ref 243, .ref 244, .ref 245, .ref 246, .ref 247, .ref 248, .ref 249, .ref 250, .ref 251, .ref 252, .ref 253, .ref 254, .ref 255, .ref 256, .ref 257], vm := .none },
  { cls := 9, slots := #[.long (-128)], vm := .none },
  { cls := 9, slots := #[.long (-127)], vm := .none },
  { cls := 9, slots := #[.long (-126)], vm := .none },
  { cls := 9, slots := #[.long (-125)], vm := .none },
  { cls := 9, slots := #[.long (-124)], vm := .none },
  { cls := 9, slots := #[.long (-123)], vm := .none },
  { cls := 9, slots := #[.long (-122)], vm := .none },
  { cls := 9, slots := #[.long (-121)], vm := .none },
  { cls := 9, slots := #[.long (-120)], vm := .none },
  { cls := 9, slots := #[.long (-119)], vm := .none },
  { cls := 9, slots := #[.long (-118)], vm := .none },
  { cls := 9, slots := #[.long (-117)], vm := .none },
  { cls := 9, slots := #[.long (-116)], vm := .none },
  { cls := 9, slots := #[.long (-115)], vm := .none },
  { cls := 9, slots := #[.long (-114)], vm := .none },
  { cls := 9, slots := #[.long (-113)], vm := .none },
  { cls := 9, slots := #[.long (-112)], vm := .none },
  { cls := 9, slots := #[.long (-111)], vm := .none },
  { cls := 9, slots := #[.long (-110)], vm := .none },
  { cls := 9, slots := #[.long (-109)], vm := .none },
  { cls := 9, slots := #[.long (-108)], vm := .none },
  { cls := 9, slots := #[.long (-107)], vm := .none },
  { cls := 9, slots := #[.long (-106)], vm := .none },
  { cls := 9, slots := #[.long (-105)], vm := .none },
  { cls := 9, slots := #[.long (-104)], vm := .none },
  { cls := 9, slots := #[.long (-103)], vm := .none },
  { cls := 9, slots := #[.long (-102)], vm := .none },
  { cls := 9, slots := #[.long (-101)], vm := .none },
  { cls := 9, slots := #[.long (-100)], vm := .none },
  { cls := 9, slots := #[.long (-99)], vm := .none },
  { cls := 9, slots := #[.long (-98)], vm := .none },
  { cls := 9, slots := #[.long (-97)], vm := .none },
  { cls := 9, slots := #[.long (-96)], vm := .none },
  { cls := 9, slots := #[.long (-95)], vm := .none },
  { cls := 9, slots := #[.long (-94)], vm := .none },
  { cls := 9, slots := #[.long (-93)], vm := .none },
  { cls := 9, slots := #[.long (-92)], vm := .none },
  { cls := 9, slots := #[.long (-91)], vm := .none },
  { cls := 9, slots := #[.long (-90)], vm := .none },
  { cls := 9, slots := #[.long (-89)], vm := .none },
  { cls := 9, slots := #[.long (-88)], vm := .none },
  { cls := 9, slots := #[.long (-87)], vm := .none },
  { cls := 9, slots := #[.long (-86)], vm := .none },
  { cls := 9, slots := #[.long (-85)], vm := .none },
  { cls := 9, slots := #[.long (-84)], vm := .none },
  { cls := 9, slots := #[.long (-83)], vm := .none },
  { cls := 9, slots := #[.long (-82)], vm := .none },
  { cls := 9, slots := #[.long (-81)], vm := .none },
  { cls := 9, slots := #[.long (-80)], vm := .none },
  { cls := 9, slots := #[.long (-79)], vm := .none },
  { cls := 9, slots := #[.long (-78)], vm := .none },
  { cls := 9, slots := #[.long (-77)], vm := .none },
  { cls := 9, slots := #[.long (-76)], vm := .none },
  { cls := 9, slots := #[.long (-75)], vm := .none },
  { cls := 9, slots := #[.long (-74)], vm := .none },
  { cls := 9, slots := #[.long (-73)], vm := .none },
  { cls := 9, slots := #[.long (-72)], vm := .none },
  { cls := 9, slots := #[.long (-71)], vm := .none },
  { cls := 9, slots := #[.long (-70)], vm := .none },
  { cls := 9, slots := #[.long (-69)], vm := .none },
  { cls := 9, slots := #[.long (-68)], vm := .none },
  { cls := 9, slots := #[.long (-67)], vm := .none },
  { cls := 9, slots := #[.long (-66)], vm := .none },
  { cls := 9, slots := #[.long (-65)], vm := .none },
  { cls := 9, slots := #[.long (-64)], vm := .none },
  { cls := 9, slots := #[.long (-63)], vm := .none },
  { cls := 9, slots := #[.long (-62)], vm := .none },
  { cls := 9, slots := #[.long (-61)], vm := .none },
  { cls := 9, slots := #[.long (-60)], vm := .none },
  { cls := 9, slots := #[.long (-59)], vm := .none },
  { cls := 9, slots := #[.long (-58)], vm := .none },
  { cls := 9, slots := #[.long (-57)], vm := .none },
  { cls := 9, slots := #[.long (-56)], vm := .none },
  { cls := 9, slots := #[.long (-55)], vm := .none },
  { cls := 9, slots := #[.long (-54)], vm := .none },
  { cls := 9, slots := #[.long (-53)], vm := .none },
  { cls := 9, slots := #[.long (-52)], vm := .none },
  { cls := 9, slots := #[.long (-51)], vm := .none },
  { cls := 9, slots := #[.long (-50)], vm := .none },
  { cls := 9, slots := #[.long (-49)], vm := .none },
  { cls := 9, slots := #[.long (-48)], vm := .none },
  { cls := 9, slots := #[.long (-47)], vm := .none },
  { cls := 9, slots := #[.long (-46)], vm := .none },
  { cls := 9, slots := #[.long (-45)], vm := .none },
  { cls := 9, slots := #[.long (-44)], vm := .none },
  { cls := 9, slots := #[.long (-43)], vm := .none },
  { cls := 9, slots := #[.long (-42)], vm := .none },
  { cls := 9, slots := #[.long (-41)], vm := .none },
  { cls := 9, slots := #[.long (-40)], vm := .none },
  { cls := 9, slots := #[.long (-39)], vm := .none },
  { cls := 9, slots := #[.long (-38)], vm := .none },
  { cls := 9, slots := #[.long (-37)], vm := .none },
  { cls := 9, slots := #[.long (-36)], vm := .none },
  { cls := 9, slots := #[.long (-35)], vm := .none },
  { cls := 9, slots := #[.long (-34)], vm := .none },
  { cls := 9, slots := #[.long (-33)], vm := .none },
  { cls := 9, slots := #[.long (-32)], vm := .none },
  { cls := 9, slots := #[.long (-31)], vm := .none },
  { cls := 9, slots := #[.long (-30)], vm := .none },
  { cls := 9, slots := #[.long (-29)], vm := .none },
  { cls := 9, slots := #[.long (-28)], vm := .none },
  { cls := 9, slots := #[.long (-27)], vm := .none },
  { cls := 9, slots := #[.long (-26)], vm := .none },
  { cls := 9, slots := #[.long (-25)], vm := .none },
  { cls := 9, slots := #[.long (-24)], vm := .none },
  { cls := 9, slots := #[.long (-23)], vm := .none },
  { cls := 9, slots := #[.long (-22)], vm := .none },
  { cls := 9, slots := #[.long (-21)], vm := .none },
  { cls := 9, slots := #[.long (-20)], vm := .none },
  { cls := 9, slots := #[.long (-19)], vm := .none },
  { cls := 9, slots := #[.long (-18)], vm := .none },
  { cls := 9, slots := #[.long (-17)], vm := .none },
  { cls := 9, slots := #[.long (-16)], vm := .none },
  { cls := 9, slots := #[.long (-15)], vm := .none },
  { cls := 9, slots := #[.long (-14)], vm := .none },
  { cls := 9, slots := #[.long (-13)], vm := .none },
  { cls := 9, slots := #[.long (-12)], vm := .none },
  { cls := 9, slots := #[.long (-11)], vm := .none },
  { cls := 9, slots := #[.long (-10)], vm := .none },
  { cls := 9, slots := #[.long (-9)], vm := .none },
  { cls := 9, slots := #[.long (-8)], vm := .none },
  { cls := 9, slots := #[.long (-7)], vm := .none },
  { cls := 9, slots := #[.long (-6)], vm := .none },
  { cls := 9, slots := #[.long (-5)], vm := .none },
  { cls := 9, slots := #[.long (-4)], vm := .none },
  { cls := 9, slots := #[.long (-3)], vm := .none },
  { cls := 9, slots := #[.long (-2)], vm := .none },
  { cls := 9, slots := #[.long (-1)], vm := .none },
  { cls := 9, slots := #[.long 0], vm := .none },
  { cls := 9, slots := #[.long 1], vm := .none },
  { cls := 9, slots := #[.long 2], vm := .none },
  { cls := 9, slots := #[.long 3], vm := .none },
  { cls := 9, slots := #[.long 4], vm := .none },
  { cls := 9, slots := #[.long 5], vm := .none },
  { cls := 9, slots := #[.long 6], vm := .none },
  { cls := 9, slots := #[.long 7], vm := .none },
  { cls := 9, slots := #[.long 8], vm := .none },
  { cls := 9, slots := #[.long 9], vm := .none },
  { cls := 9, slots := #[.long 10], vm := .none },
  { cls := 9, slots := #[.long 11], vm := .none },
  { cls := 9, slots := #[.long 12], vm := .none },
  { cls := 9, slots := #[.long 13], vm := .none },
  { cls := 9, slots := #[.long 14], vm := .none },
  { cls := 9, slots := #[.long 15], vm := .none },
  { cls := 9, slots := #[.long 16], vm := .none },
  { cls := 9, slots := #[.long 17], vm := .none },
  { cls := 9, slots := #[.long 18], vm := .none },
  { cls := 9, slots := #[.long 19], vm := .none },
  { cls := 9, slots := #[.long 20], vm := .none },
  { cls := 9, slots := #[.long 21], vm := .none },
  { cls := 9, slots := #[.long 22], vm := .none },
  { cls := 9, slots := #[.long 23], vm := .none },
  { cls := 9, slots := #[.long 24], vm := .none },
  { cls := 9, slots := #[.long 25], vm := .none },
  { cls := 9, slots := #[.long 26], vm := .none },
  { cls := 9, slots := #[.long 27], vm := .none },
  { cls := 9, slots := #[.long 28], vm := .none },
  { cls := 9, slots := #[.long 29], vm := .none },
  { cls := 9, slots := #[.long 30], vm := .none },
  { cls := 9, slots := #[.long 31], vm := .none },
  { cls := 9, slots := #[.long 32], vm := .none },
  { cls := 9, slots := #[.long 33], vm := .none },
  { cls := 9, slots := #[.long 34], vm := .none },
  { cls := 9, slots := #[.long 35], vm := .none },
  { cls := 9, slots := #[.long 36], vm := .none },
  { cls := 9, slots := #[.long 37], vm := .none },
  { cls := 9, slots := #[.long 38], vm := .none },
  { cls := 9, slots := #[.long 39], vm := .none },
  { cls := 9, slots := #[.long 40], vm := .none },
  { cls := 9, slots := #[.long 41], vm := .none },
  { cls := 9, slots := #[.long 42], vm := .none },
  { cls := 9, slots := #[.long 43], vm := .none },
  { cls := 9, slots := #[.long 44], vm := .none },
  { cls := 9, slots := #[.long 45], vm := .none },
  { cls := 9, slots := #[.long 46], vm := .none },
  { cls := 9, slots := #[.long 47], vm := .none },
  { cls := 9, slots := #[.long 48], vm := .none },
  { cls := 9, slots := #[.long 49], vm := .none },
  { cls := 9, slots := #[.long 50], vm := .none },
  { cls := 9, slots := #[.long 51], vm := .none },
  { cls := 9, slots := #[.long 52], vm := .none },
  { cls := 9, slots := #[.long 53], vm := .none },
  { cls := 9, slots := #[.long 54], vm := .none },
  { cls := 9, slots := #[.long 55], vm := .none },
  { cls := 9, slots := #[.long 56], vm := .none },
  { cls := 9, slots := #[.long 57], vm := .none },
  { cls := 9, slots := #[.long 58], vm := .none },
  { cls := 9, slots := #[.long 59], vm := .none },
  { cls := 9, slots := #[.long 60], vm := .none },
  { cls := 9, slots := #[.long 61], vm := .none },
  { cls := 9, slots := #[.long 62], vm := .none },
  { cls := 9, slots := #[.long 63], vm := .none },
  { cls := 9, slots := #[.long 64], vm := .none },
  { cls := 9, slots := #[.long 65], vm := .none },
  { cls := 9, slots := #[.long 66], vm := .none },
  { cls := 9, slots := #[.long 67], vm := .none },
  { cls := 9, slots := #[.long 68], vm := .none },
  { cls := 9, slots := #[.long 69], vm := .none },
  { cls := 9, slots := #[.long 70], vm := .none },
  { cls := 9, slots := #[.long 71], vm := .none },
  { cls := 9, slots := #[.long 72], vm := .none },
  { cls := 9, slots := #[.long 73], vm := .none },
  { cls := 9, slots := #[.long 74], vm := .none },
  { cls := 9, slots := #[.long 75], vm := .none },
  { cls := 9, slots := #[.long 76], vm := .none },
  { cls := 9, slots := #[.long 77], vm := .none },
  { cls := 9, slots := #[.long 78], vm := .none },
  { cls := 9, slots := #[.long 79], vm := .none },
  { cls := 9, slots := #[.long 80], vm := .none },
  { cls := 9, slots := #[.long 81], vm := .none },
  { cls := 9, slots := #[.long 82], vm := .none },
  { cls := 9, slots := #[.long 83], vm := .none },
  { cls := 9, slots := #[.long 84], vm := .none },
  { cls := 9, slots := #[.long 85], vm := .none },
  { cls := 9, slots := #[.long 86], vm := .none },
  { cls := 9, slots := #[.long 87], vm := .none },
  { cls := 9, slots := #[.long 88], vm := .none },
  { cls := 9, slots := #[.long 89], vm := .none },
  { cls := 9, slots := #[.long 90], vm := .none },
  { cls := 9, slots := #[.long 91], vm := .none },
  { cls := 9, slots := #[.long 92], vm := .none },
  { cls := 9, slots := #[.long 93], vm := .none },
  { cls := 9, slots := #[.long 94], vm := .none },
  { cls := 9, slots := #[.long 95], vm := .none },
  { cls := 9, slots := #[.long 96], vm := .none },
  { cls := 9, slots := #[.long 97], vm := .none },
  { cls := 9, slots := #[.long 98], vm := .none },
  { cls := 9, slots := #[.long 99], vm := .none },
  { cls := 9, slots := #[.long 100], vm := .none },
  { cls := 9, slots := #[.long 101], vm := .none },
  { cls := 9, slots := #[.long 102], vm := .none },
  { cls := 9, slots := #[.long 103], vm := .none },
  { cls := 9, slots := #[.long 104], vm := .none },
  { cls := 9, slots := #[.long 105], vm := .none },
  { cls := 9, slots := #[.long 106], vm := .none },
  { cls := 9, slots := #[.long 107], vm := .none },
  { cls := 9, slots := #[.long 108], vm := .none },
  { cls := 9, slots := #[.long 109], vm := .none },
  { cls := 9, slots := #[.long 110], vm := .none },
  { cls := 9, slots := #[.long 111], vm := .none },
  { cls := 9, slots := #[.long 112], vm := .none },
  { cls := 9, slots := #[.long 113], vm := .none },
  { cls := 9, slots := #[.long 114], vm := .none },
  { cls := 9, slots := #[.long 115], vm := .none },
  { cls := 9, slots := #[.long 116], vm := .none },
  { cls := 9, slots := #[.long 117], vm := .none },
  { cls := 9, slots := #[.long 118], vm := .none },
  { cls := 9, slots := #[.long 119], vm := .none },
  { cls := 9, slots := #[.long 120], vm := .none },
  { cls := 9, slots := #[.long 121], vm := .none },
  { cls := 9, slots := #[.long 122], vm := .none },
  { cls := 9, slots := #[.long 123], vm := .none },
  { cls := 9, slots := #[.long 124], vm := .none },
  { cls := 9, slots := #[.long 125], vm := .none },
  { cls := 9, slots := #[.long 126], vm := .none },
  { cls := 9, slots := #[.long 127], vm := .none }]
def classes : Array Class := #[k0, k1, k2, k3, k4, k5, k6, k7, k8, k9, k10, k11, k12, k13, k14, k15, k16]
def interned : List (Array UInt16 × Addr) := []
def slotsUsed : Nat := 515
def theMethod : MethodId := ⟨1, 3⟩
def args0 : Array Value := #[.long 10, .long 5, .long 7, .long 8, .int 3]
def aboutOver (below : List Frame) : State where
  vm := { classes := classes, interned := interned.toArray }
  heap := heap
  slotsUsed := slotsUsed
  threads := #[{ frames := .invoking theMethod args0 :: below }]
def below0 : List Frame := [.native { method := ⟨0, 0⟩, args := #[] }]
def about1 : State := aboutOver below0
def p0 : Program := .bare "" "" ""
def e0 : Env := launch0.env 0 0 0
theorem w_frames : about1.frames = Frame.invoking theMethod args0 :: below0 := rfl
set_option maxRecDepth 65536 in
theorem w_args : argsFit about1.vm theMethod args0 = true := by decide +kernel
set_option maxRecDepth 65536 in
theorem w_heap : heapFits about1 = true := by decide +kernel
set_option maxRecDepth 65536 in
theorem w_runnable : about1.curStatus? = some .runnable := by decide +kernel
set_option maxRecDepth 65536 in
theorem w_alone : about1.alone = true := by decide +kernel
set_option maxRecDepth 65536 in
theorem w_named : about1.methodNamed? x = some theMethod := by decide +kernel
set_option maxRecDepth 65536 in
theorem w_hears : about1.hears theMethod below0 = true := by decide +kernel
set_option maxRecDepth 65536 in
theorem w_ripe : about1.ripe theMethod args0 below0 = true := by decide +kernel
theorem w_running : about1.status = .running := rfl
set_option maxRecDepth 65536 in
theorem w_room : about1.hasRoom e0.platform room_1 = true :=
  launch0.hasRoom_least _ room_1 (by decide +kernel) (by decide +kernel) (by decide +kernel) (by decide +kernel) (by decide +kernel) (by decide +kernel)
theorem allAtoms_all (ts : List Jvm.Cond) (a : Array Jvm.Value) (st : Jvm.State) : (allAtoms ts).before a st = ts.all (fun c => c.before a st) := by
  induction ts with
  | nil => rfl
  | cons c t ih =>
    show (Jvm.Cond.and c (allAtoms t)).before a st = _
    rw [Jvm.Cond.before_and, ih, List.all_cons]
def words1 : List Jvm.Cond := Jvm.Cond.code x code maxLocals ret :: tables_1
/-- a 'code' word, met by the world's own term for the bytes: nothing is compared byte by byte -/
theorem code_word {y : MethodName} {bytes : ByteArray} {mx : Nat} {rt : Option FieldType} {a : Array Value} {s : State} {m : MethodId} {meth : Method} {c : Code} (h1 : s.methodNamed? y = some m) (h2 : s.vm.method? m = some meth) (h3 : meth.code = some c) (h4 : c.code = bytes)
    (h5 : (c.maxLocals == mx && c.exceptionTable.isEmpty && decide (c.maxStack ≤ mostOperands) && decide (meth.sig.returnType = rt) && !meth.locks && decide (parseMethodDescriptor y.desc = some meth.sig)) = true) : (Jvm.Cond.code y bytes mx rt).before a s = true := by
  simp only [Bool.and_eq_true, beq_iff_eq, Bool.not_eq_true', decide_eq_true_eq] at h5
  obtain ⟨⟨⟨⟨⟨g1, g2⟩, g3⟩, g4⟩, g5⟩, g6⟩ := h5
  simp [Cond.before, Cond.holds, Cond.value, h1, h2, h3, h4, g1, g2, g3, g4, g5, g6]
def isCode : Jvm.Cond → Bool
  | .code _ _ _ _ => true
  | _ => false
theorem all_split {L : List Jvm.Cond} {P : Jvm.Cond → Bool} (h1 : L.all (fun c => isCode c || P c) = true) (h2 : ∀ c ∈ L.filter isCode, P c = true) : L.all P = true := by
  refine List.all_eq_true.mpr fun c hc => ?_
  have h := List.all_eq_true.mp h1 c hc
  rcases Bool.eq_false_or_eq_true (isCode c) with hi | hi
  · exact h2 c (List.mem_filter.mpr ⟨hc, hi⟩)
  · simpa [hi] using h
set_option maxRecDepth 65536 in
theorem w_c0 : (Jvm.Cond.code x code maxLocals ret).before args0 about1 = true := code_word (m := ⟨1, 3⟩) (meth := k1m3) (c := k1c3) (by decide +kernel) rfl rfl rfl (by decide +kernel)
set_option maxRecDepth 65536 in
theorem w_c1 : (Jvm.Cond.code ({ cls := "com/example/byteloom/byteloom/ByteRangeEqualsPinLaw", name := "lo", desc := "(JJ)J" } : Jvm.MethodName) method_2_code (12 : Nat) (Option.some Jvm.ClassFile.FieldType.long)).before args0 about1 = true := code_word (m := ⟨1, 1⟩) (meth := k1m1) (c := k1c1) (by decide +kernel) rfl rfl rfl (by decide +kernel)
set_option maxRecDepth 65536 in
theorem w_c2 : (Jvm.Cond.code ({ cls := "java/lang/Math", name := "min", desc := "(JJ)J" } : Jvm.MethodName) jdk_29_method_70_code (4 : Nat) (Option.some Jvm.ClassFile.FieldType.long)).before args0 about1 = true := code_word (m := ⟨2, 2⟩) (meth := k2m2) (c := k2c2) (by decide +kernel) rfl rfl rfl (by decide +kernel)
set_option maxRecDepth 65536 in
theorem w_c3 : (Jvm.Cond.code ({ cls := "java/lang/Math", name := "max", desc := "(JJ)J" } : Jvm.MethodName) jdk_29_method_66_code (4 : Nat) (Option.some Jvm.ClassFile.FieldType.long)).before args0 about1 = true := code_word (m := ⟨2, 1⟩) (meth := k2m1) (c := k2c1) (by decide +kernel) rfl rfl rfl (by decide +kernel)
set_option maxRecDepth 65536 in
theorem w_c4 : (Jvm.Cond.code ({ cls := "com/example/byteloom/byteloom/ByteRangeEqualsPinLaw", name := "hi", desc := "(JJ)J" } : Jvm.MethodName) method_3_code (12 : Nat) (Option.some Jvm.ClassFile.FieldType.long)).before args0 about1 = true := code_word (m := ⟨1, 2⟩) (meth := k1m2) (c := k1c2) (by decide +kernel) rfl rfl rfl (by decide +kernel)
set_option maxRecDepth 65536 in
theorem w_c5 : (Jvm.Cond.code ({ cls := "com/example/byteloom/byteloom/ByteRange", name := "<init>", desc := "(JJ)V" } : Jvm.MethodName) prog_3_method_1_code (5 : Nat) (Option.none : Option Jvm.ClassFile.FieldType)).before args0 about1 = true := code_word (m := ⟨3, 0⟩) (meth := k3m0) (c := k3c0) (by decide +kernel) rfl rfl rfl (by decide +kernel)
set_option maxRecDepth 65536 in
theorem w_c6 : (Jvm.Cond.code ({ cls := "java/lang/Object", name := "<init>", desc := "()V" } : Jvm.MethodName) object_method_1_code (1 : Nat) (Option.none : Option Jvm.ClassFile.FieldType)).before args0 about1 = true := code_word (m := ⟨0, 0⟩) (meth := k0m0) (c := k0c0) (by decide +kernel) rfl rfl rfl (by decide +kernel)
set_option maxRecDepth 65536 in
theorem w_c7 : (Jvm.Cond.code ({ cls := "com/example/byteloom/byteloom/ByteRange", name := "equals", desc := "(Ljava/lang/Object;)Z" } : Jvm.MethodName) prog_3_method_5_code (2 : Nat) (Option.some Jvm.ClassFile.FieldType.boolean)).before args0 about1 = true := code_word (m := ⟨3, 1⟩) (meth := k3m1) (c := k3c1) (by decide +kernel) rfl rfl rfl (by decide +kernel)
set_option maxRecDepth 65536 in
theorem w_c8 : (Jvm.Cond.code ({ cls := "java/lang/Long", name := "valueOf", desc := "(J)Ljava/lang/Long;" } : Jvm.MethodName) jdk_35_method_24_code (3 : Nat) (Option.some (Jvm.ClassFile.FieldType.object "java/lang/Long"))).before args0 about1 = true := code_word (m := ⟨9, 0⟩) (meth := k9m0) (c := k9c0) (by decide +kernel) rfl rfl rfl (by decide +kernel)
set_option maxRecDepth 65536 in
theorem w_c9 : (Jvm.Cond.code ({ cls := "java/lang/Long", name := "<init>", desc := "(J)V" } : Jvm.MethodName) jdk_35_method_26_code (3 : Nat) (Option.none : Option Jvm.ClassFile.FieldType)).before args0 about1 = true := code_word (m := ⟨9, 1⟩) (meth := k9m1) (c := k9c1) (by decide +kernel) rfl rfl rfl (by decide +kernel)
set_option maxRecDepth 65536 in
theorem w_c10 : (Jvm.Cond.code ({ cls := "java/lang/Number", name := "<init>", desc := "()V" } : Jvm.MethodName) jdk_18_method_1_code (1 : Nat) (Option.none : Option Jvm.ClassFile.FieldType)).before args0 about1 = true := code_word (m := ⟨5, 0⟩) (meth := k5m0) (c := k5c0) (by decide +kernel) rfl rfl rfl (by decide +kernel)
def codes1 : List Jvm.Cond := [Jvm.Cond.code x code maxLocals ret, Jvm.Cond.code ({ cls := "com/example/byteloom/byteloom/ByteRangeEqualsPinLaw", name := "lo", desc := "(JJ)J" } : Jvm.MethodName) method_2_code (12 : Nat) (Option.some Jvm.ClassFile.FieldType.long), Jvm.Cond.code ({ cls := "java/lang/Math", name := "min", desc := "(JJ)J" } : Jvm.MethodName) jdk_29_method_70_code (4 : Nat) (Option.some Jvm.ClassFile.FieldType.long), Jvm.Cond.code ({ cls := "java/lang/Math", name := "max", desc := "(JJ)J" } : Jvm.MethodName) jdk_29_method_66_code (4 : Nat) (Option.some Jvm.ClassFile.FieldType.long), Jvm.Cond.code ({ cls := "com/example/byteloom/byteloom/ByteRangeEqualsPinLaw", name := "hi", desc := "(JJ)J" } : Jvm.MethodName) method_3_code (12 : Nat) (Option.some Jvm.ClassFile.FieldType.long), Jvm.Cond.code ({ cls := "com/example/byteloom/byteloom/ByteRange", name := "<init>", desc := "(JJ)V" } : Jvm.MethodName) prog_3_method_1_code (5 : Nat) (Option.none : Option Jvm.ClassFile.FieldType), Jvm.Cond.code ({ cls := "java/lang/Object", name := "<init>", desc := "()V" } : Jvm.MethodName) object_method_1_code (1 : Nat) (Option.none : Option Jvm.ClassFile.FieldType), Jvm.Cond.code ({ cls := "com/example/byteloom/byteloom/ByteRange", name := "equals", desc := "(Ljava/lang/Object;)Z" } : Jvm.MethodName) prog_3_method_5_code (2 : Nat) (Option.some Jvm.ClassFile.FieldType.boolean), Jvm.Cond.code ({ cls := "java/lang/Long", name := "valueOf", desc := "(J)Ljava/lang/Long;" } : Jvm.MethodName) jdk_35_method_24_code (3 : Nat) (Option.some (Jvm.ClassFile.FieldType.object "java/lang/Long")), Jvm.Cond.code ({ cls := "java/lang/Long", name := "<init>", desc := "(J)V" } : Jvm.MethodName) jdk_35_method_26_code (3 : Nat) (Option.none : Option Jvm.ClassFile.FieldType), Jvm.Cond.code ({ cls := "java/lang/Number", name := "<init>", desc := "()V" } : Jvm.MethodName) jdk_18_method_1_code (1 : Nat) (Option.none : Option Jvm.ClassFile.FieldType)]
set_option maxRecDepth 65536 in
theorem codes_eq : words1.filter isCode = codes1 := rfl
theorem w_codes : ∀ c ∈ words1.filter isCode, c.before args0 about1 = true := by
  rw [codes_eq]
  intro c hc
  simp only [codes1, List.mem_cons, List.not_mem_nil, or_false] at hc
  rcases hc with rfl | rfl | rfl | rfl | rfl | rfl | rfl | rfl | rfl | rfl | rfl
  · exact w_c0
  · exact w_c1
  · exact w_c2
  · exact w_c3
  · exact w_c4
  · exact w_c5
  · exact w_c6
  · exact w_c7
  · exact w_c8
  · exact w_c9
  · exact w_c10
set_option maxRecDepth 65536 in
theorem w_t1 : (words1.take 24).all (fun c => isCode c || c.before args0 about1) = true := by decide +kernel
set_option maxRecDepth 65536 in
theorem w_t2 : ((words1.drop 24).take 24).all (fun c => isCode c || c.before args0 about1) = true := by decide +kernel
set_option maxRecDepth 65536 in
theorem w_t3 : ((words1.drop 24).drop 24).all (fun c => isCode c || c.before args0 about1) = true := by decide +kernel
theorem w_tables : (allAtoms (Jvm.Cond.code x code maxLocals ret :: tables_1)).before args0 about1 = true := by
  rw [allAtoms_all]
  show words1.all (fun c => c.before args0 about1) = true
  refine all_split ?_ w_codes
  rw [← List.take_append_drop 24 words1, List.all_append, w_t1, ← List.take_append_drop 24 (words1.drop 24), List.all_append, w_t2, w_t3]
  rfl
set_option maxRecDepth 65536 in
theorem w_rest : rest_1_c.before args0 about1 = true := by decide +kernel
set_option maxRecDepth 65536 in
theorem w_case : (Jvm.Cond.and given_1 narrow_1).before args0 about1 = true := by decide +kernel
theorem w_applies : (headSpec (Jvm.Cond.code x code maxLocals ret :: tables_1) room_1).applies x e0.platform about1 = true :=
  (Spec.applies_iff w_frames).mpr ⟨w_running, w_runnable, w_alone, w_named, w_hears, w_ripe, w_room, w_tables⟩
theorem atStart : AtStart classFile x code maxLocals ret World_1 tables_1 room_1 Calls_1 rest_1 Pre_1 launch0 p0 e0 about1 theMethod args0 below0 :=
  ⟨lists_1, trivial, launch0.admits_env _ _ _, launch0.least_env, fairChoices_fair.cas, fairChoices_fair.clock, w_frames, w_args, w_heap, w_applies, trivial, w_rest, w_case⟩
end start1
theorem witness_1 : WitnessClaimed_1 := ⟨start1.p0, start1.e0, start1.about1, start1.theMethod, start1.args0, start1.below0, start1.atStart⟩
end Jvm.Pilot.@@N@@
