import JvmDerived
import JvmDerived.Pilot.@@N@@Statement
import JvmDerived.Pilot.@@N@@Code
set_option linter.unusedVariables false
set_option linter.unusedSimpArgs false

namespace Jvm.RoadKit
open Sem ClassFile Op Lib Jvm.Stand Jvm.Free Jvm.LawKit
section New
variable {p : Program} {l : Launch} {e : Env} {R : Room} {s : State} {m : MethodId} {args : Array Value} {below : List Frame} {meth : Method} {c : Code} {T : State} {locs : List Loc} {cells slots : Nat}
theorem retI (X : Stand p l e R s m args below meth c T locs cells slots) (hx : p.tables.exec = Jvm.exec) {pc : Nat} {Ls : Array Slot} {z : Int32} {rest : List Value} (hret : meth.sig.returnType = some .int) (hd : decode c.code pc = .ok (.ireturn, 1)) {fs : List Frame}
    (hl : ∀ (f : JFrame) (acts : List Action), f.method = m → f.locked = none → f.entered = [] → (doReturn e (T.setTop f) acts (some (.int z))).1 = T.setFrames fs) : Steps p.tables e below (T.setTop (mkF m pc Ls (.int z :: rest))) (T.setFrames fs) :=
  retOut X hx hret rfl (Or.inl ⟨rfl, Or.inl rfl, z, rfl⟩) hd hl
theorem own_retL (X : Stand p l e R s m args below meth c T locs cells slots) (hx : p.tables.exec = Jvm.exec) {pc : Nat} {Ls : Array Slot} {z : Int64} {rest : List Value} (hret : meth.sig.returnType = some .long) (hd : decode c.code pc = .ok (.lreturn, 1)) {fs : List Frame}
    (hl : ∀ (f : JFrame) (acts : List Action), f.method = m → f.locked = none → f.entered = [] → (doReturn e (T.setTop f) acts (some (.long z))).1 = T.setFrames fs) : Steps p.tables e below (T.setTop (mkF m pc Ls (.long z :: rest))) (T.setFrames fs) :=
  retOut X hx hret rfl (Or.inr (Or.inl ⟨rfl, rfl, z, rfl⟩)) hd hl
theorem own_retA (X : Stand p l e R s m args below meth c T locs cells slots) (hx : p.tables.exec = Jvm.exec) {pc : Nat} {Ls : Array Slot} {w : Value} {t : FieldType} {rest : List Value} (hret : meth.sig.returnType = some t) (ht : t.isReference = true) (hw : w.isRef = true) (hd : decode c.code pc = .ok (.areturn, 1)) {fs : List Frame}
    (hl : ∀ (f : JFrame) (acts : List Action), f.method = m → f.locked = none → f.entered = [] → (doReturn e (T.setTop f) acts (some w)).1 = T.setFrames fs) : Steps p.tables e below (T.setTop (mkF m pc Ls (w :: rest))) (T.setFrames fs) :=
  retOut X hx hret (by cases t <;> first | (cases ht; done) | (cases w <;> first | rfl | cases hw)) (Or.inr (Or.inr (Or.inr (Or.inr ⟨rfl, ht, hw⟩)))) hd hl
theorem own_back {tb : Tables} {e : Env} {below : List Frame} {a b : State} {P : State → Outcome → Prop} (h : ∀ t, Steps tb e below b t → Steps tb e below a t) (k : ∃ t o, Steps tb e below b t ∧ P t o) : ∃ t o, Steps tb e below a t ∧ P t o := by
  obtain ⟨t, o, k1, k2⟩ := k
  exact ⟨t, o, h t k1, k2⟩
theorem own_sta_keep {Z : State} {h h' : Heap} {C n d : String} {v : Value} (F : Sta Z h C n d v) (K : Keep h h' []) : Sta Z h' C n d v := by
  obtain ⟨cf, i, k, f, st, cell, h1, h2, h3, h4, h5, r⟩ := F
  exact ⟨cf, i, k, f, st, cell, h1, h2, h3, h4, K.2.1 _ _ h5 nin0, r⟩
def ElA (Z : State) (h : Heap) (a : Addr) (ty : FieldType) (j : Int32) (v : Value) : Prop := ∃ c : Cell, Arr Z h a c ty ∧ ¬ (j < 0 ∨ c.slots.size ≤ j.toNatClampNeg) ∧ c.slots[j.toNatClampNeg]? = some v
theorem ElA.lt {Z : State} {h : Heap} {a : Addr} {ty : FieldType} {j : Int32} {v : Value} (F : ElA Z h a ty j v) : a < h.size := by obtain ⟨c, A, -⟩ := F; exact A.lt
theorem ElA.ext {Z : State} {h h' : Heap} {a : Addr} {ty : FieldType} {j : Int32} {v : Value} (F : ElA Z h a ty j v) (E : Ext h h') : ElA Z h' a ty j v := by obtain ⟨c, A, r⟩ := F; exact ⟨c, A.ext E, r⟩
theorem ElA.other {Z : State} {h h' : Heap} {a b : Addr} {ty : FieldType} {j : Int32} {v w : Value} {sl : Nat} (F : ElA Z h b ty j v) (W : Wr h h' a sl w) (q : b ≠ a) : ElA Z h' b ty j v := by obtain ⟨c, A, r⟩ := F; exact ⟨c, A.other W q, r⟩
theorem ElA.keep {Z : State} {h h' : Heap} {a : Addr} {ty : FieldType} {j : Int32} {v : Value} {ws : List Addr} (F : ElA Z h a ty j v) (K : Keep h h' ws) (q : a ∉ ws) : ElA Z h' a ty j v := by obtain ⟨c, A, r⟩ := F; exact ⟨c, ⟨K.2.1 a c A.1 q, A.2⟩, r⟩
theorem ElA.store {Z : State} {h h' : Heap} {a : Addr} {ty : FieldType} {j : Int32} {v : Value} {c : Cell} (A : Arr Z h a c ty) (hj : ¬ (j < 0 ∨ c.slots.size ≤ j.toNatClampNeg)) (W : Wr h h' a j.toNatClampNeg v) : ElA Z h' a ty j v :=
  ⟨_, A.same W, by rw [sz_set]; exact hj, get_hit hj rfl⟩
theorem own_endW {s t : State} {o : Outcome} {L : List Loc} {k n k' n' : Nat} (h : ReturnedEndW s o t L k n) (hk : k ≤ k') (hn : n ≤ n') : ReturnedEndW s o t L k' n' := ⟨h.1, h.2.1, h.2.2.1, h.2.2.2.mono hk hn⟩
theorem own_same {P : Prop} (h : P) : P := h
theorem own_irr (x : Int32) : ¬ x < x := by rw [Int32.lt_iff_toInt_lt]; omega
theorem own_irrL (x : Int64) : ¬ x < x := by rw [Int64.lt_iff_toInt_lt]; omega
end New
end Jvm.RoadKit
namespace Jvm.Pilot.@@N@@
open Jvm Jvm.ClassFile Sem Op Lib Jvm.Free Jvm.Stand Jvm.LawKit Jvm.RoadKit Bundle Jvm.Pilot.@@N@@.Jvm.D

theorem d6_0 : decode prog_5_method_15_code 0 = .ok (.iload_n 0, 1) := by decide +kernel
theorem d6_1 : decode prog_5_method_15_code 1 = .ok (.bipush 48, 2) := by decide +kernel
theorem d6_3 : decode prog_5_method_15_code 3 = .ok (.if_icmp .lt 13, 3) := by decide +kernel
theorem d6_6 : decode prog_5_method_15_code 6 = .ok (.iload_n 0, 1) := by decide +kernel
theorem d6_7 : decode prog_5_method_15_code 7 = .ok (.bipush 57, 2) := by decide +kernel
theorem d6_9 : decode prog_5_method_15_code 9 = .ok (.if_icmp .gt 7, 3) := by decide +kernel
theorem d6_12 : decode prog_5_method_15_code 12 = .ok (.iconst 1, 1) := by decide +kernel
theorem d6_13 : decode prog_5_method_15_code 13 = .ok (.goto 4, 3) := by decide +kernel
theorem d6_16 : decode prog_5_method_15_code 16 = .ok (.iconst 0, 1) := by decide +kernel
theorem d6_17 : decode prog_5_method_15_code 17 = .ok (.ireturn, 1) := by decide +kernel
theorem pn_6 : plainName "com/example/kinetic_model_check/kineticmodelcheck/dynamics/FormulaTokens" = true := by first | (simp [plainName, overriddenIn]; done) | decide +kernel
theorem ef_6 (m : MethodId) (x0 : Int32) : entryFrame m #[(.int x0)] 1 = mkF m 0 #[.val (.int x0)] [] := by first | (simp [entryFrame, mkF, argsToLocals, Value.category]; done) | rfl
def f6 (p0 : Int32) : Int32 := (if p0 < (48 : Int32) then (0 : Int32) else (if (57 : Int32) < p0 then (0 : Int32) else (1 : Int32)))
def Q6 (Z : State) (p0 : Int32) (h0 : Heap) (n0 : Nat) (v : Option Value) (h : Heap) (L : List Loc) : Prop := v = some (.int (f6 p0)) ∧ Fr n0 L ∧ h = h0
set_option maxRecDepth 65536 in
set_option maxHeartbeats 40000000 in
theorem rm6 (l : Launch) (Z : State) (aw : Array Value) (hw : ∀ d ∈ tables_1, d.before aw Z = true) (ws : List Jvm.Cond) (p0 : Int32) (h0 : Heap) (n0 : Nat) (Z0 : n0 ≤ h0.size) :
    MetFree l (⟨"com/example/kinetic_model_check/kineticmodelcheck/dynamics/FormulaTokens", "isDigit", "(C)Z"⟩ : MethodName) (head1 (Jvm.Cond.code (⟨"com/example/kinetic_model_check/kineticmodelcheck/dynamics/FormulaTokens", "isDigit", "(C)Z"⟩ : MethodName) prog_5_method_15_code 1 (some .boolean) :: ws) ({ frames := 0, cells := 0, slots := 0, locals := 0 } : Room)) (fun a U => a = #[(.int p0)] ∧ Z.Warmed39 U.vm ∧ U.heap = h0) (fun _ _ _ _ _ => True) (fun _ U o U' => ∃ v L, o = .returned v ∧ Q6 Z p0 h0 n0 v U'.heap L ∧ FrameEnd U o U' L ({ frames := 0, cells := 0, slots := 0, locals := 0 } : Room).cells ({ frames := 0, cells := 0, slots := 0, locals := 0 } : Room).slots) := by
  refine MetFree.of_bodySF (plainFor_of_name pn_6) hisR ?_
  intro p e s m args below meth c s₁ Bd hml0 hP hK
  obtain ⟨rfl, hZ, hh⟩ := hP
  have hx := Bd.exec
  have hby := Bd.bytes
  have hml : c.maxLocals = 1 := hml0
  have hown : s.vm.findClass "com/example/kinetic_model_check/kineticmodelcheck/dynamics/FormulaTokens" = some m.cls := findClass_of_methodNamed Bd.named
  have hnm := (name_of_methodNamed Bd.named Bd.method).1
  have X0 : Stand p l e ({ frames := 0, cells := 0, slots := 0, locals := 0 } : Room) s m #[(.int p0)] below meth c s₁ [] 0 0 := Stand.of_body Bd
  have e0 : s₁.heap = h0 := by rw [← hh, Bd.state]; rfl
  have N0 := Fr.nil n0
  refine own_back (b := s₁.setTop (mkF m 0 #[.val (.int p0)] [])) (fun t kt => castTop (ef_6 m p0) kt) ?_
  refine own_back (b := s₁.setTop (mkF m 3 #[.val (.int p0)] [(.int (48 : Int32)), (.int p0)])) (fun t kt => ?_) ?_
  · show Steps p.tables e below (s₁.setTop (mkF m 0 #[.val (.int p0)] [])) _
    refine XS.iloadN X0.here hx rfl (hb hby d6_0) rfl ?_
    show Steps p.tables e below (s₁.setTop (mkF m 1 #[.val (.int p0)] [(.int p0)])) _
    refine XS.bipush X0.here hx rfl (hb hby d6_1) ?_
    exact kt
  by_cases hc3_1 : p0 < (48 : Int32)
  · refine own_back (b := s₁.setTop (mkF m 17 #[.val (.int p0)] [(.int (0 : Int32))])) (fun t kt => ?_) ?_
    · show Steps p.tables e below (s₁.setTop (mkF m 3 #[.val (.int p0)] [(.int (48 : Int32)), (.int p0)])) _
      refine XS.icmpYes X0.here hx rfl (pc0 := 3) (pc' := 16) rfl (hb hby d6_3) rfl (tlt hc3_1).1 (by decide) (by decide) ?_
      show Steps p.tables e below (s₁.setTop (mkF m 16 #[.val (.int p0)] [])) _
      refine XS.iconst X0.here hx rfl (hb hby d6_16) ?_
      exact kt
    obtain ⟨fs, hr, hrun, hended, hW, hsame⟩ := X0.leave (v := some (.int (0 : Int32))) (fun h => by rw [Bd.returns] at h; cases h) (BodyLoose.notSynchronized Bd)
    refine ⟨_, _, ?_, hrun, hended, _, _, rfl, ?_, ⟨_, rfl⟩, hW, hsame.mono (by decide) (by decide)⟩
    · show Steps p.tables e below (s₁.setTop (mkF m 17 #[.val (.int p0)] [(.int (0 : Int32))])) _
      exact retN X0 hx (t := .boolean) Bd.returns (by simp) (hb hby d6_17) hr
    · show Q6 Z p0 h0 n0 _ s₁.heap _
      rw [e0]
      exact ⟨by rw [show f6 p0 = (0 : Int32) from by unfold f6; rw [if_pos hc3_1]], N0, rfl⟩
  · refine own_back (b := s₁.setTop (mkF m 9 #[.val (.int p0)] [(.int (57 : Int32)), (.int p0)])) (fun t kt => ?_) ?_
    · show Steps p.tables e below (s₁.setTop (mkF m 3 #[.val (.int p0)] [(.int (48 : Int32)), (.int p0)])) _
      refine XS.icmpNo X0.here hx rfl (hb hby d6_3) rfl (flt hc3_1).1 ?_
      show Steps p.tables e below (s₁.setTop (mkF m 6 #[.val (.int p0)] [])) _
      refine XS.iloadN X0.here hx rfl (hb hby d6_6) rfl ?_
      show Steps p.tables e below (s₁.setTop (mkF m 7 #[.val (.int p0)] [(.int p0)])) _
      refine XS.bipush X0.here hx rfl (hb hby d6_7) ?_
      exact kt
    by_cases hc9_2 : (57 : Int32) < p0
    · refine own_back (b := s₁.setTop (mkF m 17 #[.val (.int p0)] [(.int (0 : Int32))])) (fun t kt => ?_) ?_
      · show Steps p.tables e below (s₁.setTop (mkF m 9 #[.val (.int p0)] [(.int (57 : Int32)), (.int p0)])) _
        refine XS.icmpYes X0.here hx rfl (pc0 := 9) (pc' := 16) rfl (hb hby d6_9) rfl (tlt hc9_2).2.2.1 (by decide) (by decide) ?_
        show Steps p.tables e below (s₁.setTop (mkF m 16 #[.val (.int p0)] [])) _
        refine XS.iconst X0.here hx rfl (hb hby d6_16) ?_
        exact kt
      obtain ⟨fs, hr, hrun, hended, hW, hsame⟩ := X0.leave (v := some (.int (0 : Int32))) (fun h => by rw [Bd.returns] at h; cases h) (BodyLoose.notSynchronized Bd)
      refine ⟨_, _, ?_, hrun, hended, _, _, rfl, ?_, ⟨_, rfl⟩, hW, hsame.mono (by decide) (by decide)⟩
      · show Steps p.tables e below (s₁.setTop (mkF m 17 #[.val (.int p0)] [(.int (0 : Int32))])) _
        exact retN X0 hx (t := .boolean) Bd.returns (by simp) (hb hby d6_17) hr
      · show Q6 Z p0 h0 n0 _ s₁.heap _
        rw [e0]
        exact ⟨by rw [show f6 p0 = (0 : Int32) from by unfold f6; rw [if_neg hc3_1, if_pos hc9_2]], N0, rfl⟩
    · refine own_back (b := s₁.setTop (mkF m 17 #[.val (.int p0)] [(.int (1 : Int32))])) (fun t kt => ?_) ?_
      · show Steps p.tables e below (s₁.setTop (mkF m 9 #[.val (.int p0)] [(.int (57 : Int32)), (.int p0)])) _
        refine XS.icmpNo X0.here hx rfl (hb hby d6_9) rfl (flt hc9_2).2.2.1 ?_
        show Steps p.tables e below (s₁.setTop (mkF m 12 #[.val (.int p0)] [])) _
        refine XS.iconst X0.here hx rfl (hb hby d6_12) ?_
        show Steps p.tables e below (s₁.setTop (mkF m 13 #[.val (.int p0)] [(.int (1 : Int32))])) _
        refine XS.goto X0.here hx rfl (pc0 := 13) (pc' := 17) rfl (hb hby d6_13) (by decide) (by decide) ?_
        exact kt
      obtain ⟨fs, hr, hrun, hended, hW, hsame⟩ := X0.leave (v := some (.int (1 : Int32))) (fun h => by rw [Bd.returns] at h; cases h) (BodyLoose.notSynchronized Bd)
      refine ⟨_, _, ?_, hrun, hended, _, _, rfl, ?_, ⟨_, rfl⟩, hW, hsame.mono (by decide) (by decide)⟩
      · show Steps p.tables e below (s₁.setTop (mkF m 17 #[.val (.int p0)] [(.int (1 : Int32))])) _
        exact retN X0 hx (t := .boolean) Bd.returns (by simp) (hb hby d6_17) hr
      · show Q6 Z p0 h0 n0 _ s₁.heap _
        rw [e0]
        exact ⟨by rw [show f6 p0 = (1 : Int32) from by unfold f6; rw [if_neg hc3_1, if_neg hc9_2]], N0, rfl⟩
theorem d5_0 : decode jdk_41_method_11_code 0 = .ok (.iload_n 0, 1) := by decide +kernel
theorem d5_1 : decode jdk_41_method_11_code 1 = .ok (.ifCond .lt 8, 3) := by decide +kernel
theorem d5_4 : decode jdk_41_method_11_code 4 = .ok (.iload_n 0, 1) := by decide +kernel
theorem d5_5 : decode jdk_41_method_11_code 5 = .ok (.iload_n 1, 1) := by decide +kernel
theorem d5_6 : decode jdk_41_method_11_code 6 = .ok (.if_icmp .lt 10, 3) := by decide +kernel
theorem d5_16 : decode jdk_41_method_11_code 16 = .ok (.iload_n 0, 1) := by decide +kernel
theorem d5_17 : decode jdk_41_method_11_code 17 = .ok (.ireturn, 1) := by decide +kernel
theorem pn_5 : plainName "jdk/internal/util/Preconditions" = true := by first | (simp [plainName, overriddenIn]; done) | decide +kernel
theorem ef_5 (m : MethodId) (x0 : Int32) (x1 : Int32) (x2 : Value) (hx2 : x2.isRef = true) : entryFrame m #[(.int x0), (.int x1), x2] 3 = mkF m 0 #[.val (.int x0), .val (.int x1), .val x2] [] := by
  cases x2 <;> first | (cases hx2; done) | (simp [entryFrame, mkF, argsToLocals, Value.category]; done) | rfl
def f5 (p0 : Int32) (p1 : Int32) : Int32 := p0
def Q5 (Z : State) (p0 : Int32) (p1 : Int32) (a2 : Value) (h0 : Heap) (n0 : Nat) (v : Option Value) (h : Heap) (L : List Loc) : Prop := v = some (.int (f5 p0 p1)) ∧ Fr n0 L ∧ h = h0
set_option maxRecDepth 65536 in
set_option maxHeartbeats 40000000 in
theorem rm5 (l : Launch) (Z : State) (aw : Array Value) (hw : ∀ d ∈ tables_1, d.before aw Z = true) (ws : List Jvm.Cond) (p0 : Int32) (p1 : Int32) (a2 : Value) (h0 : Heap) (n0 : Nat) (Z0 : n0 ≤ h0.size) (ha2 : a2.isRef = true) (h0p : ¬ (p0 < (0 : Int32))) (h1p : p0 < p1) :
    MetFree l (⟨"jdk/internal/util/Preconditions", "checkIndex", "(IILjava/util/function/BiFunction;)I"⟩ : MethodName) (head1 (Jvm.Cond.code (⟨"jdk/internal/util/Preconditions", "checkIndex", "(IILjava/util/function/BiFunction;)I"⟩ : MethodName) jdk_41_method_11_code 3 (some .int) :: ws) ({ frames := 0, cells := 0, slots := 0, locals := 0 } : Room)) (fun a U => a = #[(.int p0), (.int p1), a2] ∧ Z.Warmed39 U.vm ∧ U.heap = h0) (fun _ _ _ _ _ => True) (fun _ U o U' => ∃ v L, o = .returned v ∧ Q5 Z p0 p1 a2 h0 n0 v U'.heap L ∧ FrameEnd U o U' L ({ frames := 0, cells := 0, slots := 0, locals := 0 } : Room).cells ({ frames := 0, cells := 0, slots := 0, locals := 0 } : Room).slots) := by
  refine MetFree.of_bodySF (plainFor_of_name pn_5) hisR ?_
  intro p e s m args below meth c s₁ Bd hml0 hP hK
  obtain ⟨rfl, hZ, hh⟩ := hP
  have hx := Bd.exec
  have hby := Bd.bytes
  have hml : c.maxLocals = 3 := hml0
  have hown : s.vm.findClass "jdk/internal/util/Preconditions" = some m.cls := findClass_of_methodNamed Bd.named
  have hnm := (name_of_methodNamed Bd.named Bd.method).1
  have X0 : Stand p l e ({ frames := 0, cells := 0, slots := 0, locals := 0 } : Room) s m #[(.int p0), (.int p1), a2] below meth c s₁ [] 0 0 := Stand.of_body Bd
  have e0 : s₁.heap = h0 := by rw [← hh, Bd.state]; rfl
  have N0 := Fr.nil n0
  refine own_back (b := s₁.setTop (mkF m 0 #[.val (.int p0), .val (.int p1), .val a2] [])) (fun t kt => castTop (ef_5 m p0 p1 a2 ha2) kt) ?_
  refine own_back (b := s₁.setTop (mkF m 17 #[.val (.int p0), .val (.int p1), .val a2] [(.int p0)])) (fun t kt => ?_) ?_
  · show Steps p.tables e below (s₁.setTop (mkF m 0 #[.val (.int p0), .val (.int p1), .val a2] [])) _
    refine XS.iloadN X0.here hx rfl (hb hby d5_0) rfl ?_
    show Steps p.tables e below (s₁.setTop (mkF m 1 #[.val (.int p0), .val (.int p1), .val a2] [(.int p0)])) _
    refine XS.ifNo X0.here hx rfl (hb hby d5_1) rfl ((if0 _ _).trans (flt h0p).1) ?_
    show Steps p.tables e below (s₁.setTop (mkF m 4 #[.val (.int p0), .val (.int p1), .val a2] [])) _
    refine XS.iloadN X0.here hx rfl (hb hby d5_4) rfl ?_
    show Steps p.tables e below (s₁.setTop (mkF m 5 #[.val (.int p0), .val (.int p1), .val a2] [(.int p0)])) _
    refine XS.iloadN X0.here hx rfl (hb hby d5_5) rfl ?_
    show Steps p.tables e below (s₁.setTop (mkF m 6 #[.val (.int p0), .val (.int p1), .val a2] [(.int p1), (.int p0)])) _
    refine XS.icmpYes X0.here hx rfl (pc0 := 6) (pc' := 16) rfl (hb hby d5_6) rfl (tlt h1p).1 (by decide) (by decide) ?_
    show Steps p.tables e below (s₁.setTop (mkF m 16 #[.val (.int p0), .val (.int p1), .val a2] [])) _
    refine XS.iloadN X0.here hx rfl (hb hby d5_16) rfl ?_
    exact kt
  obtain ⟨fs, hr, hrun, hended, hW, hsame⟩ := X0.leave (v := some (.int p0)) (fun h => by rw [Bd.returns] at h; cases h) (BodyLoose.notSynchronized Bd)
  refine ⟨_, _, ?_, hrun, hended, _, _, rfl, ?_, ⟨_, rfl⟩, hW, hsame.mono (by decide) (by decide)⟩
  · show Steps p.tables e below (s₁.setTop (mkF m 17 #[.val (.int p0), .val (.int p1), .val a2] [(.int p0)])) _
    exact retI X0 hx Bd.returns (hb hby d5_17) hr
  · show Q5 Z p0 p1 a2 h0 n0 _ s₁.heap _
    rw [e0]
    exact ⟨by rw [show f5 p0 p1 = p0 from by unfold f5; rfl], N0, rfl⟩
theorem d4_0 : decode jdk_42_method_155_code 0 = .ok (.iload_n 0, 1) := by decide +kernel
theorem d4_1 : decode jdk_42_method_155_code 1 = .ok (.iload_n 1, 1) := by decide +kernel
theorem d4_2 : decode jdk_42_method_155_code 2 = .ok (.getstatic 1053, 3) := by decide +kernel
theorem d4_5 : decode jdk_42_method_155_code 5 = .ok (.invokestatic 1059, 3) := by decide +kernel
theorem d4_8 : decode jdk_42_method_155_code 8 = .ok (.pop, 1) := by decide +kernel
theorem d4_9 : decode jdk_42_method_155_code 9 = .ok (.return_, 1) := by decide +kernel
theorem pn_4 : plainName "java/lang/String" = true := by first | (simp [plainName, overriddenIn]; done) | decide +kernel
theorem pd_4_0 : parseMethodDescriptor "(IILjava/util/function/BiFunction;)I" = some ⟨[.int, .int, (.object "java/util/function/BiFunction")], some .int⟩ := by decide +kernel
theorem ef_4 (m : MethodId) (x0 : Int32) (x1 : Int32) : entryFrame m #[(.int x0), (.int x1)] 2 = mkF m 0 #[.val (.int x0), .val (.int x1)] [] := by first | (simp [entryFrame, mkF, argsToLocals, Value.category]; done) | rfl
def Q4 (Z : State) (p0 : Int32) (p1 : Int32) (wf : Value) (h0 : Heap) (n0 : Nat) (v : Option Value) (h : Heap) (L : List Loc) : Prop := v = none ∧ Fr n0 L ∧ h = h0
set_option maxRecDepth 65536 in
set_option maxHeartbeats 40000000 in
theorem rm4 (l : Launch) (Z : State) (aw : Array Value) (hw : ∀ d ∈ tables_1, d.before aw Z = true) (ws : List Jvm.Cond) (p0 : Int32) (p1 : Int32) (wf : Value) (h0 : Heap) (n0 : Nat) (Z0 : n0 ≤ h0.size) (S_SIOOBE_FORMATTER : Sta Z h0 "jdk/internal/util/Preconditions" "SIOOBE_FORMATTER" "Ljava/util/function/BiFunction;" wf) (hwf : wf.isRef = true) (h0p : ¬ (p0 < (0 : Int32))) (h1p : p0 < p1) :
    MetFree l (⟨"java/lang/String", "checkIndex", "(II)V"⟩ : MethodName) (head1 (Jvm.Cond.code (⟨"java/lang/String", "checkIndex", "(II)V"⟩ : MethodName) jdk_42_method_155_code 2 none :: ws) ({ frames := 1, cells := 0, slots := 0, locals := 14 } : Room)) (fun a U => a = #[(.int p0), (.int p1)] ∧ Z.Warmed39 U.vm ∧ U.heap = h0) (fun _ _ _ _ _ => True) (fun _ U o U' => ∃ v L, o = .returned v ∧ Q4 Z p0 p1 wf h0 n0 v U'.heap L ∧ FrameEnd U o U' L ({ frames := 1, cells := 0, slots := 0, locals := 14 } : Room).cells ({ frames := 1, cells := 0, slots := 0, locals := 14 } : Room).slots) := by
  refine MetFree.of_bodySF (plainFor_of_name pn_4) hisR ?_
  intro p e s m args below meth c s₁ Bd hml0 hP hK
  obtain ⟨rfl, hZ, hh⟩ := hP
  have hx := Bd.exec
  have hby := Bd.bytes
  have hml : c.maxLocals = 2 := hml0
  have hown : s.vm.findClass "java/lang/String" = some m.cls := findClass_of_methodNamed Bd.named
  have hnm := (name_of_methodNamed Bd.named Bd.method).1
  have X0 : Stand p l e ({ frames := 1, cells := 0, slots := 0, locals := 14 } : Room) s m #[(.int p0), (.int p1)] below meth c s₁ [] 0 0 := Stand.of_body Bd
  have e0 : s₁.heap = h0 := by rw [← hh, Bd.state]; rfl
  have N0 := Fr.nil n0
  refine own_back (b := s₁.setTop (mkF m 0 #[.val (.int p0), .val (.int p1)] [])) (fun t kt => castTop (ef_4 m p0 p1) kt) ?_
  obtain ⟨T1, X1, e1, st1⟩ := getS2 X0 hx hZ hown (host := "") (Or.inl (hw _ (List.mem_of_getElem? (i := 29) rfl))) Via.refl e0 S_SIOOBE_FORMATTER (g := (mkF m 2 #[.val (.int p0), .val (.int p1)] [(.int p1), (.int p0)])) rfl (hb hby d4_2)
  obtain ⟨_, _, ⟨T2, L2, k2, n2⟩, -, X2, ⟨Lc2, hQ2, l2, y2, z2⟩, st2⟩ := Jvm.LawKit.callS X1 hx (y := (⟨"jdk/internal/util/Preconditions", "checkIndex", "(IILjava/util/function/BiFunction;)I"⟩ : MethodName)) hown (mvT hZ (hw _ (List.mem_of_getElem? (i := 31) rfl))) (mvT hZ (hw _ (List.mem_of_getElem? (i := 32) rfl))) (mvT hZ (hw _ (List.mem_of_getElem? (i := 30) rfl))) (mvT hZ (hw _ (List.mem_of_getElem? (i := 33) rfl))) (by decide) (backOf (W := 0) (rm5 l Z aw hw [] p0 p1 wf h0 n0 Z0 hwf h0p h1p) hZ (hw _ (List.mem_of_getElem? (i := 33) rfl)) (hw _ (List.mem_of_getElem? (i := 30) rfl)) (by decide) (by decide)) (g := (mkF m 5 #[.val (.int p0), .val (.int p1)] [wf, (.int p1), (.int p0)])) rfl (by rw [hml]; rfl) (argsL := [(.int p0), (.int p1), wf]) (rest := []) (lenOf pd_4_0 rfl) rfl (by show 2 * 0 + _ ≤ _; exact Nat.le_of_eq rfl) (hb hby d4_5) (fun _ _ => ⟨rfl, e1, (by decide : 0 + 0 ≤ _), (by decide : 0 + 0 ≤ _)⟩)
  dsimp only [Pt.U, Pt.locs, Pt.cells, Pt.slots] at X2 l2 y2 z2 st2 hQ2
  rw [l2, y2, z2] at X2
  obtain ⟨rfl, Nq2, e2⟩ := hQ2
  have N2 := Fr.app N0 Nq2
  refine own_back (b := T2.setTop (mkF m 9 #[.val (.int p0), .val (.int p1)] [])) (fun t kt => ?_) ?_
  · show Steps p.tables e below (s₁.setTop (mkF m 0 #[.val (.int p0), .val (.int p1)] [])) _
    refine XS.iloadN X0.here hx rfl (hb hby d4_0) rfl ?_
    show Steps p.tables e below (s₁.setTop (mkF m 1 #[.val (.int p0), .val (.int p1)] [(.int p0)])) _
    refine XS.iloadN X0.here hx rfl (hb hby d4_1) rfl ?_
    show Steps p.tables e below (s₁.setTop (mkF m 2 #[.val (.int p0), .val (.int p1)] [(.int p1), (.int p0)])) _
    refine st1 _ ?_
    show Steps p.tables e below (T1.setTop (mkF m 5 #[.val (.int p0), .val (.int p1)] [wf, (.int p1), (.int p0)])) _
    refine st2 _ ?_
    show Steps p.tables e below (T2.setTop (mkF m 8 #[.val (.int p0), .val (.int p1)] [(.int (f5 p0 p1))])) _
    refine XS.pop X2.here hx rfl (hb hby d4_8) rfl rfl ?_
    exact kt
  obtain ⟨fs, hr, hrun, hended, hW, hsame⟩ := X2.leave (v := none) (fun _ => rfl) (BodyLoose.notSynchronized Bd)
  refine ⟨_, _, ?_, hrun, hended, _, _, rfl, ?_, ⟨_, rfl⟩, hW, hsame.mono (by decide) (by decide)⟩
  · show Steps p.tables e below (T2.setTop (mkF m 9 #[.val (.int p0), .val (.int p1)] [])) _
    exact X2.returnOut hx Bd.returns (hb hby d4_9) hr
  · show Q4 Z p0 p1 wf h0 n0 _ T2.heap _
    rw [e2]
    exact ⟨rfl, N2, rfl⟩
theorem own_10 (P : Int32 → Prop) (k : Int32) (h0 : ¬ k < (0 : Int32)) (h1 : k < (10 : Int32)) (hP : ∀ n : Fin 10, P (Int32.ofNat n.val)) : P k := by
  have k0 : (0 : Int32).toInt = 0 := rfl
  have k1 : (10 : Int32).toInt = 10 := rfl
  rw [Int32.lt_iff_toInt_lt, k0] at h0
  rw [Int32.lt_iff_toInt_lt, k1] at h1
  have e : k = Int32.ofNat k.toInt.toNat := by
    apply Int32.toInt_inj.mp
    rw [Int32.toInt_ofNat_of_lt (by omega)]; omega
  rw [e]
  exact hP ⟨k.toInt.toNat, by omega⟩
theorem own_at (k : Int32) (h0 : ¬ k < (0 : Int32)) (h1 : k < (10 : Int32)) : ([(.int (48 : Int32)), (.int (49 : Int32)), (.int (50 : Int32)), (.int (51 : Int32)), (.int (52 : Int32)), (.int (53 : Int32)), (.int (54 : Int32)), (.int (55 : Int32)), (.int (56 : Int32)), (.int (57 : Int32))] : List Value).getD k.toNatClampNeg (.int (0 : Int32)) = .int (k + 48) :=
  own_10 (fun k => ([(.int (48 : Int32)), (.int (49 : Int32)), (.int (50 : Int32)), (.int (51 : Int32)), (.int (52 : Int32)), (.int (53 : Int32)), (.int (54 : Int32)), (.int (55 : Int32)), (.int (56 : Int32)), (.int (57 : Int32))] : List Value).getD k.toNatClampNeg (.int (0 : Int32)) = .int (k + 48)) k h0 h1 (by decide +kernel)
theorem d3_0 : decode jdk_43_method_2_code 0 = .ok (.iload_n 1, 1) := by decide +kernel
theorem d3_1 : decode jdk_43_method_2_code 1 = .ok (.aload_n 0, 1) := by decide +kernel
theorem d3_2 : decode jdk_43_method_2_code 2 = .ok (.arraylength, 1) := by decide +kernel
theorem d3_3 : decode jdk_43_method_2_code 3 = .ok (.invokestatic 9, 3) := by decide +kernel
theorem d3_6 : decode jdk_43_method_2_code 6 = .ok (.aload_n 0, 1) := by decide +kernel
theorem d3_7 : decode jdk_43_method_2_code 7 = .ok (.iload_n 1, 1) := by decide +kernel
theorem d3_8 : decode jdk_43_method_2_code 8 = .ok (.baload, 1) := by decide +kernel
theorem d3_9 : decode jdk_43_method_2_code 9 = .ok (.sipush 255, 3) := by decide +kernel
theorem d3_12 : decode jdk_43_method_2_code 12 = .ok (.iand, 1) := by decide +kernel
theorem d3_13 : decode jdk_43_method_2_code 13 = .ok (.i2c, 1) := by decide +kernel
theorem d3_14 : decode jdk_43_method_2_code 14 = .ok (.ireturn, 1) := by decide +kernel
theorem pn_3 : plainName "java/lang/StringLatin1" = true := by first | (simp [plainName, overriddenIn]; done) | decide +kernel
theorem pd_3_0 : parseMethodDescriptor "(II)V" = some ⟨[.int, .int], none⟩ := by decide +kernel
theorem ef_3 (m : MethodId) (x0 : Addr) (x1 : Int32) : entryFrame m #[(.ref x0), (.int x1)] 2 = mkF m 0 #[.val (.ref x0), .val (.int x1)] [] := by first | (simp [entryFrame, mkF, argsToLocals, Value.category]; done) | rfl
def f3 (p1 : Int32) : Int32 := (nar .char (((p1 + 48) &&& (255 : Int32)).toUInt32.toUInt16.toUInt32.toInt32))
def Q3 (Z : State) (a0 : Addr) (p1 : Int32) (kA : ClassId) (wf : Value) (h0 : Heap) (n0 : Nat) (v : Option Value) (h : Heap) (L : List Loc) : Prop := v = some (.int (f3 p1)) ∧ Fr n0 L ∧ h = h0
set_option maxRecDepth 65536 in
set_option maxHeartbeats 40000000 in
theorem rm3 (l : Launch) (Z : State) (aw : Array Value) (hw : ∀ d ∈ tables_1, d.before aw Z = true) (ws : List Jvm.Cond) (a0 : Addr) (p1 : Int32) (kA : ClassId) (wf : Value) (h0 : Heap) (n0 : Nat) (Z0 : n0 ≤ h0.size) (V_a0 : Arv Z h0 a0 kA .byte (10 : Int32) [(.int (48 : Int32)), (.int (49 : Int32)), (.int (50 : Int32)), (.int (51 : Int32)), (.int (52 : Int32)), (.int (53 : Int32)), (.int (54 : Int32)), (.int (55 : Int32)), (.int (56 : Int32)), (.int (57 : Int32))] (.int (0 : Int32))) (S_SIOOBE_FORMATTER : Sta Z h0 "jdk/internal/util/Preconditions" "SIOOBE_FORMATTER" "Ljava/util/function/BiFunction;" wf) (hwf : wf.isRef = true) (h0p : ¬ (p1 < (0 : Int32))) (h1p : p1 < (10 : Int32)) :
    MetFree l (⟨"java/lang/StringLatin1", "charAt", "([BI)C"⟩ : MethodName) (head1 (Jvm.Cond.code (⟨"java/lang/StringLatin1", "charAt", "([BI)C"⟩ : MethodName) jdk_43_method_2_code 2 (some .char) :: ws) ({ frames := 2, cells := 0, slots := 0, locals := 27 } : Room)) (fun a U => a = #[(.ref a0), (.int p1)] ∧ Z.Warmed39 U.vm ∧ U.heap = h0) (fun _ _ _ _ _ => True) (fun _ U o U' => ∃ v L, o = .returned v ∧ Q3 Z a0 p1 kA wf h0 n0 v U'.heap L ∧ FrameEnd U o U' L ({ frames := 2, cells := 0, slots := 0, locals := 27 } : Room).cells ({ frames := 2, cells := 0, slots := 0, locals := 27 } : Room).slots) := by
  refine MetFree.of_bodySF (plainFor_of_name pn_3) hisR ?_
  intro p e s m args below meth c s₁ Bd hml0 hP hK
  obtain ⟨rfl, hZ, hh⟩ := hP
  have hx := Bd.exec
  have hby := Bd.bytes
  have hml : c.maxLocals = 2 := hml0
  have hown : s.vm.findClass "java/lang/StringLatin1" = some m.cls := findClass_of_methodNamed Bd.named
  have hnm := (name_of_methodNamed Bd.named Bd.method).1
  have X0 : Stand p l e ({ frames := 2, cells := 0, slots := 0, locals := 27 } : Room) s m #[(.ref a0), (.int p1)] below meth c s₁ [] 0 0 := Stand.of_body Bd
  have e0 : s₁.heap = h0 := by rw [← hh, Bd.state]; rfl
  have N0 := Fr.nil n0
  refine own_back (b := s₁.setTop (mkF m 0 #[.val (.ref a0), .val (.int p1)] [])) (fun t kt => castTop (ef_3 m a0 p1) kt) ?_
  obtain ⟨cl1, Ar1, qk1, S1, N1', -, -⟩ := own_same V_a0
  obtain ⟨_, _, ⟨T2, L2, k2, n2⟩, -, X2, ⟨Lc2, hQ2, l2, y2, z2⟩, st2⟩ := Jvm.LawKit.callS X0 hx (y := (⟨"java/lang/String", "checkIndex", "(II)V"⟩ : MethodName)) hown (mvT hZ (hw _ (List.mem_of_getElem? (i := 26) rfl))) (mvT hZ (hw _ (List.mem_of_getElem? (i := 27) rfl))) (mvT hZ (hw _ (List.mem_of_getElem? (i := 1) rfl))) (mvT hZ (hw _ (List.mem_of_getElem? (i := 28) rfl))) (by decide) (backOf (W := 0) (rm4 l Z aw hw [] p1 (10 : Int32) wf h0 n0 Z0 S_SIOOBE_FORMATTER hwf h0p h1p) hZ (hw _ (List.mem_of_getElem? (i := 28) rfl)) (hw _ (List.mem_of_getElem? (i := 1) rfl)) (by decide) (by decide)) (g := (mkF m 3 #[.val (.ref a0), .val (.int p1)] [(.int (10 : Int32)), (.int p1)])) rfl (by rw [hml]; rfl) (argsL := [(.int p1), (.int (10 : Int32))]) (rest := []) (lenOf pd_3_0 rfl) rfl (by show 2 * 0 + _ ≤ _; exact Nat.le_of_eq rfl) (hb hby d3_3) (fun _ _ => ⟨rfl, e0, (by decide : 0 + 0 ≤ _), (by decide : 0 + 0 ≤ _)⟩)
  dsimp only [Pt.U, Pt.locs, Pt.cells, Pt.slots] at X2 l2 y2 z2 st2 hQ2
  rw [l2, y2, z2] at X2
  obtain ⟨rfl, Nq2, e2⟩ := hQ2
  have N2 := Fr.app N0 Nq2
  obtain ⟨cl3, Ar3, qk3, S3, N3', Hh3, G3⟩ := own_same V_a0
  have hin3 : ¬ (p1 < 0 ∨ cl3.slots.size ≤ (p1).toNatClampNeg) := inb_of S3 ⟨h0p, h1p⟩
  have hat3 : cl3.slots[(p1).toNatClampNeg]? = some (.int (p1 + 48)) := Has.at Hh3 hin3 (own_at p1 h0p h1p)
  refine own_back (b := T2.setTop (mkF m 14 #[.val (.ref a0), .val (.int p1)] [(.int (((p1 + 48) &&& (255 : Int32)).toUInt32.toUInt16.toUInt32.toInt32))])) (fun t kt => ?_) ?_
  · show Steps p.tables e below (s₁.setTop (mkF m 0 #[.val (.ref a0), .val (.int p1)] [])) _
    refine XS.iloadN X0.here hx rfl (hb hby d3_0) rfl ?_
    show Steps p.tables e below (s₁.setTop (mkF m 1 #[.val (.ref a0), .val (.int p1)] [(.int p1)])) _
    refine XS.aloadN X0.here hx rfl (hb hby d3_1) rfl rfl ?_
    show Steps p.tables e below (s₁.setTop (mkF m 2 #[.val (.ref a0), .val (.int p1)] [(.ref a0), (.int p1)])) _
    refine X0.arraylength hx (by rw [e0]; exact Ar1.1) (State.isArrayOf_alike hZ.alike Ar1.2.1) (g := (mkF m 2 #[.val (.ref a0), .val (.int p1)] [(.ref a0), (.int p1)])) rfl rfl (hb hby d3_2) _ ?_
    rw [len_of S1 N1']
    show Steps p.tables e below (s₁.setTop (mkF m 3 #[.val (.ref a0), .val (.int p1)] [(.int (10 : Int32)), (.int p1)])) _
    refine st2 _ ?_
    show Steps p.tables e below (T2.setTop (mkF m 6 #[.val (.ref a0), .val (.int p1)] [])) _
    refine XS.aloadN X2.here hx rfl (hb hby d3_6) rfl rfl ?_
    show Steps p.tables e below (T2.setTop (mkF m 7 #[.val (.ref a0), .val (.int p1)] [(.ref a0)])) _
    refine XS.iloadN X2.here hx rfl (hb hby d3_7) rfl ?_
    show Steps p.tables e below (T2.setTop (mkF m 8 #[.val (.ref a0), .val (.int p1)] [(.int p1), (.ref a0)])) _
    refine X2.baloadBytes hx (j := p1) (v := (.int (p1 + 48))) (by rw [e2]; exact Ar3.1) (State.isArrayOf_alike hZ.alike Ar3.2.1) Ar3.2.2 hin3 hat3 (g := (mkF m 8 #[.val (.ref a0), .val (.int p1)] [(.int p1), (.ref a0)])) rfl rfl (hb hby d3_8) _ ?_
    show Steps p.tables e below (T2.setTop (mkF m 9 #[.val (.ref a0), .val (.int p1)] [(.int (p1 + 48))])) _
    refine XS.sipush X2.here hx rfl (hb hby d3_9) ?_
    show Steps p.tables e below (T2.setTop (mkF m 12 #[.val (.ref a0), .val (.int p1)] [(.int (255 : Int32)), (.int (p1 + 48))])) _
    refine XS.iand X2.here hx rfl (hb hby d3_12) rfl ?_
    show Steps p.tables e below (T2.setTop (mkF m 13 #[.val (.ref a0), .val (.int p1)] [(.int ((p1 + 48) &&& (255 : Int32)))])) _
    refine XS.i2c X2.here hx rfl (hb hby d3_13) rfl ?_
    exact kt
  obtain ⟨fs, hr, hrun, hended, hW, hsame⟩ := X2.leave (v := some (.int (nar .char (((p1 + 48) &&& (255 : Int32)).toUInt32.toUInt16.toUInt32.toInt32)))) (fun h => by rw [Bd.returns] at h; cases h) (BodyLoose.notSynchronized Bd)
  refine ⟨_, _, ?_, hrun, hended, _, _, rfl, ?_, ⟨_, rfl⟩, hW, hsame.mono (by decide) (by decide)⟩
  · show Steps p.tables e below (T2.setTop (mkF m 14 #[.val (.ref a0), .val (.int p1)] [(.int (((p1 + 48) &&& (255 : Int32)).toUInt32.toUInt16.toUInt32.toInt32))])) _
    exact retN X2 hx (t := .char) Bd.returns (by simp) (hb hby d3_14) hr
  · show Q3 Z a0 p1 kA wf h0 n0 _ T2.heap _
    rw [e2]
    exact ⟨by rw [show f3 p1 = (nar .char (((p1 + 48) &&& (255 : Int32)).toUInt32.toUInt16.toUInt32.toInt32)) from by unfold f3; rfl], N2, rfl⟩
theorem d2_0 : decode jdk_42_method_154_code 0 = .ok (.getstatic 38, 3) := by decide +kernel
theorem d2_3 : decode jdk_42_method_154_code 3 = .ok (.ifCond .eq 14, 3) := by decide +kernel
theorem d2_6 : decode jdk_42_method_154_code 6 = .ok (.aload_n 0, 1) := by decide +kernel
theorem d2_7 : decode jdk_42_method_154_code 7 = .ok (.getfield 15, 3) := by decide +kernel
theorem d2_10 : decode jdk_42_method_154_code 10 = .ok (.ifCond .ne 7, 3) := by decide +kernel
theorem d2_13 : decode jdk_42_method_154_code 13 = .ok (.iconst 1, 1) := by decide +kernel
theorem d2_14 : decode jdk_42_method_154_code 14 = .ok (.goto 4, 3) := by decide +kernel
theorem d2_18 : decode jdk_42_method_154_code 18 = .ok (.ireturn, 1) := by decide +kernel
theorem pn_2 : plainName "java/lang/String" = true := by first | (simp [plainName, overriddenIn]; done) | decide +kernel
theorem ef_2 (m : MethodId) (x0 : Addr) : entryFrame m #[(.ref x0)] 1 = mkF m 0 #[.val (.ref x0)] [] := by first | (simp [entryFrame, mkF, argsToLocals, Value.category]; done) | rfl
def Q2 (Z : State) (a0 : Addr) (wz : Int32) (h0 : Heap) (n0 : Nat) (v : Option Value) (h : Heap) (L : List Loc) : Prop := v = some (.int (1 : Int32)) ∧ Fr n0 L ∧ h = h0
set_option maxRecDepth 65536 in
set_option maxHeartbeats 40000000 in
theorem rm2 (l : Launch) (Z : State) (aw : Array Value) (hw : ∀ d ∈ tables_1, d.before aw Z = true) (ws : List Jvm.Cond) (a0 : Addr) (wz : Int32) (h0 : Heap) (n0 : Nat) (Z0 : n0 ≤ h0.size) (S_COMPACT_STRINGS : Sta Z h0 "java/lang/String" "COMPACT_STRINGS" "Z" (.int wz)) (F_coder_a0 : Fld Z h0 a0 "java/lang/String" "coder" "B" (.int (0 : Int32))) (hwz : ¬ (wz = (0 : Int32))) :
    MetFree l (⟨"java/lang/String", "isLatin1", "()Z"⟩ : MethodName) (head1 (Jvm.Cond.code (⟨"java/lang/String", "isLatin1", "()Z"⟩ : MethodName) jdk_42_method_154_code 1 (some .boolean) :: ws) ({ frames := 0, cells := 0, slots := 0, locals := 0 } : Room)) (fun a U => a = #[(.ref a0)] ∧ Z.Warmed39 U.vm ∧ U.heap = h0) (fun _ _ _ _ _ => True) (fun _ U o U' => ∃ v L, o = .returned v ∧ Q2 Z a0 wz h0 n0 v U'.heap L ∧ FrameEnd U o U' L ({ frames := 0, cells := 0, slots := 0, locals := 0 } : Room).cells ({ frames := 0, cells := 0, slots := 0, locals := 0 } : Room).slots) := by
  refine MetFree.of_bodySF (plainFor_of_name pn_2) hisR ?_
  intro p e s m args below meth c s₁ Bd hml0 hP hK
  obtain ⟨rfl, hZ, hh⟩ := hP
  have hx := Bd.exec
  have hby := Bd.bytes
  have hml : c.maxLocals = 1 := hml0
  have hown : s.vm.findClass "java/lang/String" = some m.cls := findClass_of_methodNamed Bd.named
  have hnm := (name_of_methodNamed Bd.named Bd.method).1
  have X0 : Stand p l e ({ frames := 0, cells := 0, slots := 0, locals := 0 } : Room) s m #[(.ref a0)] below meth c s₁ [] 0 0 := Stand.of_body Bd
  have e0 : s₁.heap = h0 := by rw [← hh, Bd.state]; rfl
  have N0 := Fr.nil n0
  refine own_back (b := s₁.setTop (mkF m 0 #[.val (.ref a0)] [])) (fun t kt => castTop (ef_2 m a0) kt) ?_
  obtain ⟨T1, X1, e1, st1⟩ := getS2 X0 hx hZ hown (host := "") (Or.inl (hw _ (List.mem_of_getElem? (i := 19) rfl))) Via.refl e0 S_COMPACT_STRINGS (g := (mkF m 0 #[.val (.ref a0)] [])) rfl (hb hby d2_0)
  obtain ⟨T2, X2, e2, st2⟩ := getF X1 hx hZ hown (host := "") (Or.inl (hw _ (List.mem_of_getElem? (i := 20) rfl))) Via.refl e1 F_coder_a0 (g := (mkF m 7 #[.val (.ref a0)] [(.ref a0)])) rfl rfl (hb hby d2_7)
  refine own_back (b := T2.setTop (mkF m 18 #[.val (.ref a0)] [(.int (1 : Int32))])) (fun t kt => ?_) ?_
  · show Steps p.tables e below (s₁.setTop (mkF m 0 #[.val (.ref a0)] [])) _
    refine st1 _ ?_
    show Steps p.tables e below (T1.setTop (mkF m 3 #[.val (.ref a0)] [(.int wz)])) _
    refine XS.ifNo X1.here hx rfl (hb hby d2_3) rfl ((if0 _ _).trans (feq hwz).1) ?_
    show Steps p.tables e below (T1.setTop (mkF m 6 #[.val (.ref a0)] [])) _
    refine XS.aloadN X1.here hx rfl (hb hby d2_6) rfl rfl ?_
    show Steps p.tables e below (T1.setTop (mkF m 7 #[.val (.ref a0)] [(.ref a0)])) _
    refine st2 _ ?_
    show Steps p.tables e below (T2.setTop (mkF m 10 #[.val (.ref a0)] [(.int (0 : Int32))])) _
    refine XS.ifNo X2.here hx rfl (hb hby d2_10) rfl ((if0 _ _).trans (teq (rfl : (0 : Int32) = (0 : Int32))).2) ?_
    show Steps p.tables e below (T2.setTop (mkF m 13 #[.val (.ref a0)] [])) _
    refine XS.iconst X2.here hx rfl (hb hby d2_13) ?_
    show Steps p.tables e below (T2.setTop (mkF m 14 #[.val (.ref a0)] [(.int (1 : Int32))])) _
    refine XS.goto X2.here hx rfl (pc0 := 14) (pc' := 18) rfl (hb hby d2_14) (by decide) (by decide) ?_
    exact kt
  obtain ⟨fs, hr, hrun, hended, hW, hsame⟩ := X2.leave (v := some (.int (1 : Int32))) (fun h => by rw [Bd.returns] at h; cases h) (BodyLoose.notSynchronized Bd)
  refine ⟨_, _, ?_, hrun, hended, _, _, rfl, ?_, ⟨_, rfl⟩, hW, hsame.mono (by decide) (by decide)⟩
  · show Steps p.tables e below (T2.setTop (mkF m 18 #[.val (.ref a0)] [(.int (1 : Int32))])) _
    exact retN X2 hx (t := .boolean) Bd.returns (by simp) (hb hby d2_18) hr
  · show Q2 Z a0 wz h0 n0 _ T2.heap _
    rw [e2]
    exact ⟨rfl, N0, rfl⟩
theorem d1_0 : decode jdk_42_method_56_code 0 = .ok (.aload_n 0, 1) := by decide +kernel
theorem d1_1 : decode jdk_42_method_56_code 1 = .ok (.invokevirtual 492, 3) := by decide +kernel
theorem d1_4 : decode jdk_42_method_56_code 4 = .ok (.ifCond .eq 12, 3) := by decide +kernel
theorem d1_7 : decode jdk_42_method_56_code 7 = .ok (.aload_n 0, 1) := by decide +kernel
theorem d1_8 : decode jdk_42_method_56_code 8 = .ok (.getfield 9, 3) := by decide +kernel
theorem d1_11 : decode jdk_42_method_56_code 11 = .ok (.iload_n 1, 1) := by decide +kernel
theorem d1_12 : decode jdk_42_method_56_code 12 = .ok (.invokestatic 495, 3) := by decide +kernel
theorem d1_15 : decode jdk_42_method_56_code 15 = .ok (.ireturn, 1) := by decide +kernel
theorem pn_1 : plainName "java/lang/String" = true := by first | (simp [plainName, overriddenIn]; done) | decide +kernel
theorem pd_1_0 : parseMethodDescriptor "()Z" = some ⟨[], some .boolean⟩ := by decide +kernel
theorem pd_1_1 : parseMethodDescriptor "([BI)C" = some ⟨[(.array .byte), .int], some .char⟩ := by decide +kernel
theorem ef_1 (m : MethodId) (x0 : Addr) (x1 : Int32) : entryFrame m #[(.ref x0), (.int x1)] 2 = mkF m 0 #[.val (.ref x0), .val (.int x1)] [] := by first | (simp [entryFrame, mkF, argsToLocals, Value.category]; done) | rfl
def f1 (p1 : Int32) (wz : Int32) : Int32 := (nar .char (f3 p1))
def Q1 (Z : State) (a0 : Addr) (p1 : Int32) (kA : ClassId) (wf : Value) (wz : Int32) (av : Addr) (h0 : Heap) (n0 : Nat) (v : Option Value) (h : Heap) (L : List Loc) : Prop := v = some (.int (f1 p1 wz)) ∧ Fr n0 L ∧ h = h0
set_option maxRecDepth 65536 in
set_option maxHeartbeats 40000000 in
theorem rm1 (l : Launch) (Z : State) (aw : Array Value) (hw : ∀ d ∈ tables_1, d.before aw Z = true) (ws : List Jvm.Cond) (a0 : Addr) (p1 : Int32) (kA : ClassId) (wf : Value) (wz : Int32) (av : Addr) (h0 : Heap) (n0 : Nat) (Z0 : n0 ≤ h0.size) (E_a0 : Exa Z h0 a0 "java/lang/String") (F_coder_a0 : Fld Z h0 a0 "java/lang/String" "coder" "B" (.int (0 : Int32))) (F_value_a0 : Fld Z h0 a0 "java/lang/String" "value" "[B" (.ref av)) (V_av : Arv Z h0 av kA .byte (10 : Int32) [(.int (48 : Int32)), (.int (49 : Int32)), (.int (50 : Int32)), (.int (51 : Int32)), (.int (52 : Int32)), (.int (53 : Int32)), (.int (54 : Int32)), (.int (55 : Int32)), (.int (56 : Int32)), (.int (57 : Int32))] (.int (0 : Int32))) (S_SIOOBE_FORMATTER : Sta Z h0 "jdk/internal/util/Preconditions" "SIOOBE_FORMATTER" "Ljava/util/function/BiFunction;" wf) (S_COMPACT_STRINGS : Sta Z h0 "java/lang/String" "COMPACT_STRINGS" "Z" (.int wz)) (hwf : wf.isRef = true) (h0p : ¬ (p1 < (0 : Int32))) (h1p : p1 < (10 : Int32)) (hwz : ¬ (wz = (0 : Int32))) :
    MetFree l (⟨"java/lang/String", "charAt", "(I)C"⟩ : MethodName) (head1 (Jvm.Cond.code (⟨"java/lang/String", "charAt", "(I)C"⟩ : MethodName) jdk_42_method_56_code 2 (some .char) :: ws) ({ frames := 3, cells := 0, slots := 0, locals := 40 } : Room)) (fun a U => a = #[(.ref a0), (.int p1)] ∧ Z.Warmed39 U.vm ∧ U.heap = h0) (fun _ _ _ _ _ => True) (fun _ U o U' => ∃ v L, o = .returned v ∧ Q1 Z a0 p1 kA wf wz av h0 n0 v U'.heap L ∧ FrameEnd U o U' L ({ frames := 3, cells := 0, slots := 0, locals := 40 } : Room).cells ({ frames := 3, cells := 0, slots := 0, locals := 40 } : Room).slots) := by
  refine MetFree.of_bodySF (plainFor_of_name pn_1) hisR ?_
  intro p e s m args below meth c s₁ Bd hml0 hP hK
  obtain ⟨rfl, hZ, hh⟩ := hP
  have hx := Bd.exec
  have hby := Bd.bytes
  have hml : c.maxLocals = 2 := hml0
  have hown : s.vm.findClass "java/lang/String" = some m.cls := findClass_of_methodNamed Bd.named
  have hnm := (name_of_methodNamed Bd.named Bd.method).1
  have X0 : Stand p l e ({ frames := 3, cells := 0, slots := 0, locals := 40 } : Room) s m #[(.ref a0), (.int p1)] below meth c s₁ [] 0 0 := Stand.of_body Bd
  have e0 : s₁.heap = h0 := by rw [← hh, Bd.state]; rfl
  have N0 := Fr.nil n0
  refine own_back (b := s₁.setTop (mkF m 0 #[.val (.ref a0), .val (.int p1)] [])) (fun t kt => castTop (ef_1 m a0 p1) kt) ?_
  obtain ⟨cq1, kq1, q1a, q1b, q1c⟩ := isOf hZ e0 E_a0
  obtain ⟨_, _, ⟨T1, L1, k1, n1⟩, -, X1, ⟨Lc1, hQ1, l1, y1, z1⟩, st1⟩ := X0.virtualBack hx (y := (⟨"java/lang/String", "isLatin1", "()Z"⟩ : MethodName)) (z := (⟨"java/lang/String", "isLatin1", "()Z"⟩ : MethodName)) hown (mvT hZ (hw _ (List.mem_of_getElem? (i := 14) rfl))) (mvT hZ (hw _ (List.mem_of_getElem? (i := 15) rfl))) (notFace_of_selects (args := #[]) (mvT hZ (hw _ (List.mem_of_getElem? (i := 17) rfl)))) (mvT hZ (hw _ (List.mem_of_getElem? (i := 17) rfl))) (mvT hZ (hw _ (List.mem_of_getElem? (i := 16) rfl))) (by decide) (backOf (W := 0) (rm2 l Z aw hw [] a0 wz h0 n0 Z0 S_COMPACT_STRINGS F_coder_a0 hwz) hZ (hw _ (List.mem_of_getElem? (i := 18) rfl)) (hw _ (List.mem_of_getElem? (i := 1) rfl)) (by decide) (by decide)) q1a q1c (g := (mkF m 1 #[.val (.ref a0), .val (.int p1)] [(.ref a0)])) rfl (by rw [hml]; rfl) (Steps.refl _) (argsL := []) (rest := []) (lenOf pd_1_0 rfl) rfl (by show 2 * 0 + _ ≤ _; exact Nat.le_of_eq rfl) (hb hby d1_1) (fun _ _ => ⟨rfl, e0, (by decide : 0 + 0 ≤ _), (by decide : 0 + 0 ≤ _)⟩)
  dsimp only [Pt.U, Pt.locs, Pt.cells, Pt.slots] at X1 l1 y1 z1 st1 hQ1
  rw [l1, y1, z1] at X1
  obtain ⟨rfl, Nq1, e1⟩ := hQ1
  have N1 := Fr.app N0 Nq1
  obtain ⟨T2, X2, e2, st2⟩ := getF X1 hx hZ hown (host := "") (Or.inl (hw _ (List.mem_of_getElem? (i := 21) rfl))) Via.refl e1 F_value_a0 (g := (mkF m 8 #[.val (.ref a0), .val (.int p1)] [(.ref a0)])) rfl rfl (hb hby d1_8)
  obtain ⟨_, _, ⟨T3, L3, k3, n3⟩, -, X3, ⟨Lc3, hQ3, l3, y3, z3⟩, st3⟩ := Jvm.LawKit.callS X2 hx (y := (⟨"java/lang/StringLatin1", "charAt", "([BI)C"⟩ : MethodName)) hown (mvT hZ (hw _ (List.mem_of_getElem? (i := 22) rfl))) (mvT hZ (hw _ (List.mem_of_getElem? (i := 23) rfl))) (mvT hZ (hw _ (List.mem_of_getElem? (i := 24) rfl))) (mvT hZ (hw _ (List.mem_of_getElem? (i := 25) rfl))) (by decide) (backOf (W := 0) (rm3 l Z aw hw [] av p1 kA wf h0 n0 Z0 V_av S_SIOOBE_FORMATTER hwf h0p h1p) hZ (hw _ (List.mem_of_getElem? (i := 25) rfl)) (hw _ (List.mem_of_getElem? (i := 24) rfl)) (by decide) (by decide)) (g := (mkF m 12 #[.val (.ref a0), .val (.int p1)] [(.int p1), (.ref av)])) rfl (by rw [hml]; rfl) (argsL := [(.ref av), (.int p1)]) (rest := []) (lenOf pd_1_1 rfl) rfl (by show 2 * 0 + _ ≤ _; exact Nat.le_of_eq rfl) (hb hby d1_12) (fun _ _ => ⟨rfl, e2, (by decide : 0 + 0 ≤ _), (by decide : 0 + 0 ≤ _)⟩)
  dsimp only [Pt.U, Pt.locs, Pt.cells, Pt.slots] at X3 l3 y3 z3 st3 hQ3
  rw [l3, y3, z3] at X3
  obtain ⟨rfl, Nq3, e3⟩ := hQ3
  have N3 := Fr.app N1 Nq3
  refine own_back (b := T3.setTop (mkF m 15 #[.val (.ref a0), .val (.int p1)] [(.int (f3 p1))])) (fun t kt => ?_) ?_
  · show Steps p.tables e below (s₁.setTop (mkF m 0 #[.val (.ref a0), .val (.int p1)] [])) _
    refine XS.aloadN X0.here hx rfl (hb hby d1_0) rfl rfl ?_
    show Steps p.tables e below (s₁.setTop (mkF m 1 #[.val (.ref a0), .val (.int p1)] [(.ref a0)])) _
    refine st1.trans ?_
    show Steps p.tables e below (T1.setTop (mkF m 4 #[.val (.ref a0), .val (.int p1)] [(.int (1 : Int32))])) _
    refine XS.ifNo X1.here hx rfl (hb hby d1_4) rfl ((if0 _ _).trans (feq (by decide : ¬ ((1 : Int32) = (0 : Int32)))).1) ?_
    show Steps p.tables e below (T1.setTop (mkF m 7 #[.val (.ref a0), .val (.int p1)] [])) _
    refine XS.aloadN X1.here hx rfl (hb hby d1_7) rfl rfl ?_
    show Steps p.tables e below (T1.setTop (mkF m 8 #[.val (.ref a0), .val (.int p1)] [(.ref a0)])) _
    refine st2 _ ?_
    show Steps p.tables e below (T2.setTop (mkF m 11 #[.val (.ref a0), .val (.int p1)] [(.ref av)])) _
    refine XS.iloadN X2.here hx rfl (hb hby d1_11) rfl ?_
    show Steps p.tables e below (T2.setTop (mkF m 12 #[.val (.ref a0), .val (.int p1)] [(.int p1), (.ref av)])) _
    refine st3 _ ?_
    exact kt
  obtain ⟨fs, hr, hrun, hended, hW, hsame⟩ := X3.leave (v := some (.int (nar .char (f3 p1)))) (fun h => by rw [Bd.returns] at h; cases h) (BodyLoose.notSynchronized Bd)
  refine ⟨_, _, ?_, hrun, hended, _, _, rfl, ?_, ⟨_, rfl⟩, hW, hsame.mono (by decide) (by decide)⟩
  · show Steps p.tables e below (T3.setTop (mkF m 15 #[.val (.ref a0), .val (.int p1)] [(.int (f3 p1))])) _
    exact retN X3 hx (t := .char) Bd.returns (by simp) (hb hby d1_15) hr
  · show Q1 Z a0 p1 kA wf wz av h0 n0 _ T3.heap _
    rw [e3]
    exact ⟨by rw [show f1 p1 wz = (nar .char (f3 p1)) from by unfold f1; rfl], N3, rfl⟩
theorem own_k (c : Int32) : ¬ ((c &&& (2147483647 : Int32)) % (10 : Int32) < (0 : Int32)) ∧ (c &&& (2147483647 : Int32)) % (10 : Int32) < (10 : Int32) := by
  have h := c_mask c 2147483647 31 (by decide) (by decide)
  have h2 := (c_irem (c &&& 2147483647) 10 10 rfl).1
  have k0 : (0 : Int32).toInt = 0 := rfl
  have k1 : (10 : Int32).toInt = 10 := rfl
  rw [Int32.lt_iff_toInt_lt, Int32.lt_iff_toInt_lt, k0, k1]
  have : (2 ^ 31 : Nat) = 2147483648 := by decide
  omega
theorem pn_0 : plainName "com/example/kinetic_model_check/kineticmodelcheck/dynamics/FormulaTokensIsDigitPinLaw" = true := by first | (simp [plainName, overriddenIn]; done) | decide +kernel
theorem pd_0_0 : parseMethodDescriptor "(I)C" = some ⟨[.int], some .char⟩ := by decide +kernel
theorem pd_0_1 : parseMethodDescriptor "(C)Z" = some ⟨[.char], some .boolean⟩ := by decide +kernel
theorem ef_0 (m : MethodId) (x0 : Int32) (x1 : Int32) : entryFrame m #[(.int x0), (.int x1)] maxLocals = mkF m 0 #[.val (.int x0), .val (.int x1), .unset, .unset, .unset, .unset, .unset, .unset, .unset, .unset, .unset] [] := by first | (simp [entryFrame, mkF, argsToLocals, Value.category, maxLocals]; done) | rfl
def m0_0 (p0 : Int32) (p1 : Int32) (wz : Int32) : Int32 := (if ((p0.toUInt32.toUInt16.toUInt32.toInt32) - (48 : Int32)) < (0 : Int32) then (0 : Int32) else (if ((p0.toUInt32.toUInt16.toUInt32.toInt32) - (48 : Int32)) < (10 : Int32) then (1 : Int32) else (0 : Int32)))
def m0_1 (p0 : Int32) (p1 : Int32) (wz : Int32) : Int32 := (if (f6 (p0.toUInt32.toUInt16.toUInt32.toInt32)) = (m0_0 p0 p1 wz) then (1 : Int32) else (0 : Int32))
def m0_2 (p0 : Int32) (p1 : Int32) (wz : Int32) : Int32 := (if (f6 (47 : Int32)) = (0 : Int32) then (1 : Int32) else (0 : Int32))
def m0_3 (p0 : Int32) (p1 : Int32) (wz : Int32) : Int32 := (if (f6 (58 : Int32)) = (0 : Int32) then (1 : Int32) else (0 : Int32))
def f0 (p0 : Int32) (p1 : Int32) (wz : Int32) : Int32 := (if (m0_1 p0 p1 wz) = (0 : Int32) then (0 : Int32) else (if (f6 (f1 ((p1 &&& (2147483647 : Int32)) % (10 : Int32)) wz)) = (0 : Int32) then (0 : Int32) else (if (m0_2 p0 p1 wz) = (0 : Int32) then (0 : Int32) else (if (m0_3 p0 p1 wz) = (0 : Int32) then (0 : Int32) else (1 : Int32)))))
def Q0 (Z : State) (p0 : Int32) (p1 : Int32) (wf : Value) (wz : Int32) (h0 : Heap) (n0 : Nat) (v : Option Value) (h : Heap) (L : List Loc) : Prop := v = some (.int (f0 p0 p1 wz)) ∧ Fr n0 L
set_option maxRecDepth 65536 in
set_option maxHeartbeats 40000000 in
theorem rm0 (l : Launch) (Z : State) (aw : Array Value) (hw : ∀ d ∈ tables_1, d.before aw Z = true) (ws : List Jvm.Cond) (p0 : Int32) (p1 : Int32) (wf : Value) (wz : Int32) (h0 : Heap) (n0 : Nat) (Z0 : n0 ≤ h0.size) (S_SIOOBE_FORMATTER : Sta Z h0 "jdk/internal/util/Preconditions" "SIOOBE_FORMATTER" "Ljava/util/function/BiFunction;" wf) (S_COMPACT_STRINGS : Sta Z h0 "java/lang/String" "COMPACT_STRINGS" "Z" (.int wz)) (hwf : wf.isRef = true) (hwz : ¬ (wz = (0 : Int32))) (hheld : Jvm.Lit.constHeld Z "com/example/kinetic_model_check/kineticmodelcheck/dynamics/FormulaTokensIsDigitPinLaw" 7) (hcw : Jvm.Lit.compactW.before aw Z = true) :
    MetFree l x (head1 (Jvm.Cond.code x code maxLocals ret :: ws) room_1) (fun a U => a = #[(.int p0), (.int p1)] ∧ Z.Warmed39 U.vm ∧ U.heap = h0 ∧ Z.heap = h0 ∧ IB Z U.vm []) (fun _ _ _ _ _ => True) (fun _ U o U' => ∃ v L, o = .returned v ∧ Q0 Z p0 p1 wf wz h0 n0 v U'.heap L ∧ ReturnedEndW U o U' L room_1.cells room_1.slots) := by
  refine MetFree.of_bodySF (plainFor_of_name pn_0) hisR ?_
  intro p e s m args below meth c s₁ Bd hml0 hP hK
  obtain ⟨rfl, hZ, hh, hzh, hIB⟩ := hP
  have hx := Bd.exec
  have hby := Bd.bytes
  have hml : c.maxLocals = 11 := hml0
  have hown : s.vm.findClass "com/example/kinetic_model_check/kineticmodelcheck/dynamics/FormulaTokensIsDigitPinLaw" = some m.cls := findClass_of_methodNamed Bd.named
  have hnm := (name_of_methodNamed Bd.named Bd.method).1
  have X0 : Stand p l e room_1 s m #[(.int p0), (.int p1)] below meth c s₁ [] 0 0 := Stand.of_body Bd
  have e0 : s₁.heap = h0 := by rw [← hh, Bd.state]; rfl
  have N0 := Fr.nil n0
  refine own_back (b := s₁.setTop (mkF m 0 #[.val (.int p0), .val (.int p1), .unset, .unset, .unset, .unset, .unset, .unset, .unset, .unset, .unset] [])) (fun t kt => castTop (ef_0 m p0 p1) kt) ?_
  refine own_back (b := s₁.setTop (mkF m 9 #[.val (.int p0), .val (.int p1), .val (.int (p0.toUInt32.toUInt16.toUInt32.toInt32)), .val (.int ((p0.toUInt32.toUInt16.toUInt32.toInt32) - (48 : Int32))), .unset, .unset, .unset, .unset, .unset, .unset, .unset] [(.int ((p0.toUInt32.toUInt16.toUInt32.toInt32) - (48 : Int32)))])) (fun t kt => ?_) ?_
  · show Steps p.tables e below (s₁.setTop (mkF m 0 #[.val (.int p0), .val (.int p1), .unset, .unset, .unset, .unset, .unset, .unset, .unset, .unset, .unset] [])) _
    refine XS.iloadN X0.here hx rfl (hb hby at_0) rfl ?_
    show Steps p.tables e below (s₁.setTop (mkF m 1 #[.val (.int p0), .val (.int p1), .unset, .unset, .unset, .unset, .unset, .unset, .unset, .unset, .unset] [(.int p0)])) _
    refine XS.i2c X0.here hx rfl (hb hby at_1) rfl ?_
    show Steps p.tables e below (s₁.setTop (mkF m 2 #[.val (.int p0), .val (.int p1), .unset, .unset, .unset, .unset, .unset, .unset, .unset, .unset, .unset] [(.int (p0.toUInt32.toUInt16.toUInt32.toInt32))])) _
    refine XS.istoreN X0.here hx rfl (hb hby at_2) rfl (l' := #[.val (.int p0), .val (.int p1), .val (.int (p0.toUInt32.toUInt16.toUInt32.toInt32)), .unset, .unset, .unset, .unset, .unset, .unset, .unset, .unset]) rfl ?_
    show Steps p.tables e below (s₁.setTop (mkF m 3 #[.val (.int p0), .val (.int p1), .val (.int (p0.toUInt32.toUInt16.toUInt32.toInt32)), .unset, .unset, .unset, .unset, .unset, .unset, .unset, .unset] [])) _
    refine XS.iloadN X0.here hx rfl (hb hby at_3) rfl ?_
    show Steps p.tables e below (s₁.setTop (mkF m 4 #[.val (.int p0), .val (.int p1), .val (.int (p0.toUInt32.toUInt16.toUInt32.toInt32)), .unset, .unset, .unset, .unset, .unset, .unset, .unset, .unset] [(.int (p0.toUInt32.toUInt16.toUInt32.toInt32))])) _
    refine XS.bipush X0.here hx rfl (hb hby at_4) ?_
    show Steps p.tables e below (s₁.setTop (mkF m 6 #[.val (.int p0), .val (.int p1), .val (.int (p0.toUInt32.toUInt16.toUInt32.toInt32)), .unset, .unset, .unset, .unset, .unset, .unset, .unset, .unset] [(.int (48 : Int32)), (.int (p0.toUInt32.toUInt16.toUInt32.toInt32))])) _
    refine XS.isub X0.here hx rfl (hb hby at_6) rfl ?_
    show Steps p.tables e below (s₁.setTop (mkF m 7 #[.val (.int p0), .val (.int p1), .val (.int (p0.toUInt32.toUInt16.toUInt32.toInt32)), .unset, .unset, .unset, .unset, .unset, .unset, .unset, .unset] [(.int ((p0.toUInt32.toUInt16.toUInt32.toInt32) - (48 : Int32)))])) _
    refine XS.istoreN X0.here hx rfl (hb hby at_7) rfl (l' := #[.val (.int p0), .val (.int p1), .val (.int (p0.toUInt32.toUInt16.toUInt32.toInt32)), .val (.int ((p0.toUInt32.toUInt16.toUInt32.toInt32) - (48 : Int32))), .unset, .unset, .unset, .unset, .unset, .unset, .unset]) rfl ?_
    show Steps p.tables e below (s₁.setTop (mkF m 8 #[.val (.int p0), .val (.int p1), .val (.int (p0.toUInt32.toUInt16.toUInt32.toInt32)), .val (.int ((p0.toUInt32.toUInt16.toUInt32.toInt32) - (48 : Int32))), .unset, .unset, .unset, .unset, .unset, .unset, .unset] [])) _
    refine XS.iloadN X0.here hx rfl (hb hby at_8) rfl ?_
    exact kt
  refine own_back (b := s₁.setTop (mkF m 23 #[.val (.int p0), .val (.int p1), .val (.int (p0.toUInt32.toUInt16.toUInt32.toInt32)), .val (.int ((p0.toUInt32.toUInt16.toUInt32.toInt32) - (48 : Int32))), .unset, .unset, .unset, .unset, .unset, .unset, .unset] [(.int (m0_0 p0 p1 wz))])) (fun t kt => ?_) ?_
  · by_cases hm9_1 : ((p0.toUInt32.toUInt16.toUInt32.toInt32) - (48 : Int32)) < (0 : Int32)
    · rw [show (m0_0 p0 p1 wz) = (0 : Int32) from by unfold m0_0; rw [if_pos hm9_1]] at kt
      show Steps p.tables e below (s₁.setTop (mkF m 9 #[.val (.int p0), .val (.int p1), .val (.int (p0.toUInt32.toUInt16.toUInt32.toInt32)), .val (.int ((p0.toUInt32.toUInt16.toUInt32.toInt32) - (48 : Int32))), .unset, .unset, .unset, .unset, .unset, .unset, .unset] [(.int ((p0.toUInt32.toUInt16.toUInt32.toInt32) - (48 : Int32)))])) _
      refine XS.ifYes X0.here hx rfl (pc0 := 9) (pc' := 22) rfl (hb hby at_9) rfl ((if0 _ _).trans (tlt hm9_1).1) (by decide) (by decide) ?_
      show Steps p.tables e below (s₁.setTop (mkF m 22 #[.val (.int p0), .val (.int p1), .val (.int (p0.toUInt32.toUInt16.toUInt32.toInt32)), .val (.int ((p0.toUInt32.toUInt16.toUInt32.toInt32) - (48 : Int32))), .unset, .unset, .unset, .unset, .unset, .unset, .unset] [])) _
      refine XS.iconst X0.here hx rfl (hb hby at_22) ?_
      exact kt
    · by_cases hm15_2 : ((p0.toUInt32.toUInt16.toUInt32.toInt32) - (48 : Int32)) < (10 : Int32)
      · rw [show (m0_0 p0 p1 wz) = (1 : Int32) from by unfold m0_0; rw [if_neg hm9_1, if_pos hm15_2]] at kt
        show Steps p.tables e below (s₁.setTop (mkF m 9 #[.val (.int p0), .val (.int p1), .val (.int (p0.toUInt32.toUInt16.toUInt32.toInt32)), .val (.int ((p0.toUInt32.toUInt16.toUInt32.toInt32) - (48 : Int32))), .unset, .unset, .unset, .unset, .unset, .unset, .unset] [(.int ((p0.toUInt32.toUInt16.toUInt32.toInt32) - (48 : Int32)))])) _
        refine XS.ifNo X0.here hx rfl (hb hby at_9) rfl ((if0 _ _).trans (flt hm9_1).1) ?_
        show Steps p.tables e below (s₁.setTop (mkF m 12 #[.val (.int p0), .val (.int p1), .val (.int (p0.toUInt32.toUInt16.toUInt32.toInt32)), .val (.int ((p0.toUInt32.toUInt16.toUInt32.toInt32) - (48 : Int32))), .unset, .unset, .unset, .unset, .unset, .unset, .unset] [])) _
        refine XS.iloadN X0.here hx rfl (hb hby at_12) rfl ?_
        show Steps p.tables e below (s₁.setTop (mkF m 13 #[.val (.int p0), .val (.int p1), .val (.int (p0.toUInt32.toUInt16.toUInt32.toInt32)), .val (.int ((p0.toUInt32.toUInt16.toUInt32.toInt32) - (48 : Int32))), .unset, .unset, .unset, .unset, .unset, .unset, .unset] [(.int ((p0.toUInt32.toUInt16.toUInt32.toInt32) - (48 : Int32)))])) _
        refine XS.bipush X0.here hx rfl (hb hby at_13) ?_
        show Steps p.tables e below (s₁.setTop (mkF m 15 #[.val (.int p0), .val (.int p1), .val (.int (p0.toUInt32.toUInt16.toUInt32.toInt32)), .val (.int ((p0.toUInt32.toUInt16.toUInt32.toInt32) - (48 : Int32))), .unset, .unset, .unset, .unset, .unset, .unset, .unset] [(.int (10 : Int32)), (.int ((p0.toUInt32.toUInt16.toUInt32.toInt32) - (48 : Int32)))])) _
        refine XS.icmpNo X0.here hx rfl (hb hby at_15) rfl (tlt hm15_2).2.1 ?_
        show Steps p.tables e below (s₁.setTop (mkF m 18 #[.val (.int p0), .val (.int p1), .val (.int (p0.toUInt32.toUInt16.toUInt32.toInt32)), .val (.int ((p0.toUInt32.toUInt16.toUInt32.toInt32) - (48 : Int32))), .unset, .unset, .unset, .unset, .unset, .unset, .unset] [])) _
        refine XS.iconst X0.here hx rfl (hb hby at_18) ?_
        show Steps p.tables e below (s₁.setTop (mkF m 19 #[.val (.int p0), .val (.int p1), .val (.int (p0.toUInt32.toUInt16.toUInt32.toInt32)), .val (.int ((p0.toUInt32.toUInt16.toUInt32.toInt32) - (48 : Int32))), .unset, .unset, .unset, .unset, .unset, .unset, .unset] [(.int (1 : Int32))])) _
        refine XS.goto X0.here hx rfl (pc0 := 19) (pc' := 23) rfl (hb hby at_19) (by decide) (by decide) ?_
        exact kt
      · rw [show (m0_0 p0 p1 wz) = (0 : Int32) from by unfold m0_0; rw [if_neg hm9_1, if_neg hm15_2]] at kt
        show Steps p.tables e below (s₁.setTop (mkF m 9 #[.val (.int p0), .val (.int p1), .val (.int (p0.toUInt32.toUInt16.toUInt32.toInt32)), .val (.int ((p0.toUInt32.toUInt16.toUInt32.toInt32) - (48 : Int32))), .unset, .unset, .unset, .unset, .unset, .unset, .unset] [(.int ((p0.toUInt32.toUInt16.toUInt32.toInt32) - (48 : Int32)))])) _
        refine XS.ifNo X0.here hx rfl (hb hby at_9) rfl ((if0 _ _).trans (flt hm9_1).1) ?_
        show Steps p.tables e below (s₁.setTop (mkF m 12 #[.val (.int p0), .val (.int p1), .val (.int (p0.toUInt32.toUInt16.toUInt32.toInt32)), .val (.int ((p0.toUInt32.toUInt16.toUInt32.toInt32) - (48 : Int32))), .unset, .unset, .unset, .unset, .unset, .unset, .unset] [])) _
        refine XS.iloadN X0.here hx rfl (hb hby at_12) rfl ?_
        show Steps p.tables e below (s₁.setTop (mkF m 13 #[.val (.int p0), .val (.int p1), .val (.int (p0.toUInt32.toUInt16.toUInt32.toInt32)), .val (.int ((p0.toUInt32.toUInt16.toUInt32.toInt32) - (48 : Int32))), .unset, .unset, .unset, .unset, .unset, .unset, .unset] [(.int ((p0.toUInt32.toUInt16.toUInt32.toInt32) - (48 : Int32)))])) _
        refine XS.bipush X0.here hx rfl (hb hby at_13) ?_
        show Steps p.tables e below (s₁.setTop (mkF m 15 #[.val (.int p0), .val (.int p1), .val (.int (p0.toUInt32.toUInt16.toUInt32.toInt32)), .val (.int ((p0.toUInt32.toUInt16.toUInt32.toInt32) - (48 : Int32))), .unset, .unset, .unset, .unset, .unset, .unset, .unset] [(.int (10 : Int32)), (.int ((p0.toUInt32.toUInt16.toUInt32.toInt32) - (48 : Int32)))])) _
        refine XS.icmpYes X0.here hx rfl (pc0 := 15) (pc' := 22) rfl (hb hby at_15) rfl (flt hm15_2).2.1 (by decide) (by decide) ?_
        show Steps p.tables e below (s₁.setTop (mkF m 22 #[.val (.int p0), .val (.int p1), .val (.int (p0.toUInt32.toUInt16.toUInt32.toInt32)), .val (.int ((p0.toUInt32.toUInt16.toUInt32.toInt32) - (48 : Int32))), .unset, .unset, .unset, .unset, .unset, .unset, .unset] [])) _
        refine XS.iconst X0.here hx rfl (hb hby at_22) ?_
        exact kt
  have wS : ∀ a ∈ Bundle.stringAtoms, a.before aw Z = true := by
    intro d hd
    simp only [Bundle.stringAtoms, List.mem_cons, List.not_mem_nil, or_false] at hd
    rcases hd with rfl | rfl | rfl | rfl | rfl | rfl | rfl
    · exact (hw _ (List.mem_of_getElem? (i := 1) rfl))
    · exact (hw _ (List.mem_of_getElem? (i := 2) rfl))
    · exact (hw _ (List.mem_of_getElem? (i := 3) rfl))
    · exact (hw _ (List.mem_of_getElem? (i := 4) rfl))
    · exact (hw _ (List.mem_of_getElem? (i := 5) rfl))
    · exact (hw _ (List.mem_of_getElem? (i := 6) rfl))
    · exact (hw _ (List.mem_of_getElem? (i := 7) rfl))
  obtain ⟨c3, T3, h3, k3, d3, kb3, X3, e3, E3, hS3, hk3, hZ, hown, Es3, Fc3, Fv3, Vs3, -, -, -, st3⟩ := ldcSV (s := s) (vm0 := s.vm) X0 hx hZ hown (hw _ (List.mem_of_getElem? (i := 0) rfl)) wS e0 ((State.WarmedH.refl s).since 0) (Nat.zero_le _) (Fr.nil _) (fun b cl q => by rw [hh, ← hzh]; exact q) hIB (by simp) hheld hcw (vs := [(.int (48 : Int32)), (.int (49 : Int32)), (.int (50 : Int32)), (.int (51 : Int32)), (.int (52 : Int32)), (.int (53 : Int32)), (.int (54 : Int32)), (.int (55 : Int32)), (.int (56 : Int32)), (.int (57 : Int32))]) (z := (10 : Int32)) ⟨by decide, by decide⟩ (by decide) (by decide) (g := (mkF m 25 #[.val (.int p0), .val (.int p1), .val (.int (p0.toUInt32.toUInt16.toUInt32.toInt32)), .val (.int ((p0.toUInt32.toUInt16.toUInt32.toInt32) - (48 : Int32))), .val (.int (m0_0 p0 p1 wz)), .unset, .unset, .unset, .unset, .unset, .unset] [])) rfl (hb hby at_25) (n := 1024) (by decide) (by decide) (by decide) (by decide)
  have K3 : Keep h0 h3 [] := (Keep.refl h0 _).ext E3
  have Z3 : n0 ≤ h3.size := Nat.le_trans Z0 E3.1
  obtain ⟨cq4, kq4, q4a, q4b, q4c⟩ := isOf hZ e3 Es3
  obtain ⟨_, _, ⟨T4, L4, k4, n4⟩, -, X4, ⟨Lc4, hQ4, l4, y4, z4⟩, st4⟩ := X3.virtualBack hx (y := (⟨"java/lang/String", "charAt", "(I)C"⟩ : MethodName)) (z := (⟨"java/lang/String", "charAt", "(I)C"⟩ : MethodName)) hown (mvT hZ (hw _ (List.mem_of_getElem? (i := 9) rfl))) (mvT hZ (hw _ (List.mem_of_getElem? (i := 10) rfl))) (notFace_of_selects (args := #[]) (mvT hZ (hw _ (List.mem_of_getElem? (i := 12) rfl)))) (mvT hZ (hw _ (List.mem_of_getElem? (i := 12) rfl))) (mvT hZ (hw _ (List.mem_of_getElem? (i := 11) rfl))) (by decide) (backOf (W := 0) (rm1 l Z aw hw [] c3 ((p1 &&& (2147483647 : Int32)) % (10 : Int32)) kb3 wf wz d3 h3 n0 Z3 Es3 Fc3 Fv3 Vs3 (own_sta_keep S_SIOOBE_FORMATTER K3) (own_sta_keep S_COMPACT_STRINGS K3) hwf (own_k p1).1 (own_k p1).2 hwz) hZ (hw _ (List.mem_of_getElem? (i := 13) rfl)) (hw _ (List.mem_of_getElem? (i := 1) rfl)) (by decide) (by decide)) q4a q4c (g := (mkF m 38 #[.val (.int p0), .val (.int p1), .val (.int (p0.toUInt32.toUInt16.toUInt32.toInt32)), .val (.int ((p0.toUInt32.toUInt16.toUInt32.toInt32) - (48 : Int32))), .val (.int (m0_0 p0 p1 wz)), .val (.ref c3), .unset, .unset, .unset, .unset, .unset] [(.int ((p1 &&& (2147483647 : Int32)) % (10 : Int32))), (.ref c3)])) rfl (by rw [hml]; rfl) (Steps.refl _) (argsL := [(.int ((p1 &&& (2147483647 : Int32)) % (10 : Int32)))]) (rest := []) (lenOf pd_0_0 rfl) rfl (by show 2 * 0 + _ ≤ _; exact Nat.le_of_eq rfl) (hb hby at_38) (fun _ _ => ⟨rfl, e3, (by decide : 2 + 0 ≤ _), (by decide : 1028 + 0 ≤ _)⟩)
  dsimp only [Pt.U, Pt.locs, Pt.cells, Pt.slots] at X4 l4 y4 z4 st4 hQ4
  rw [l4, y4, z4] at X4
  obtain ⟨rfl, Nq4, e4⟩ := hQ4
  have N4 := Fr.app N0 Nq4
  obtain ⟨_, _, ⟨T5, L5, k5, n5⟩, -, X5, ⟨Lc5, hQ5, l5, y5, z5⟩, st5⟩ := Jvm.LawKit.callS X4 hx (y := (⟨"com/example/kinetic_model_check/kineticmodelcheck/dynamics/FormulaTokens", "isDigit", "(C)Z"⟩ : MethodName)) hown (mvT hZ (hw _ (List.mem_of_getElem? (i := 34) rfl))) (mvT hZ (hw _ (List.mem_of_getElem? (i := 35) rfl))) (mvT hZ (hw _ (List.mem_of_getElem? (i := 36) rfl))) (mvT hZ (hw _ (List.mem_of_getElem? (i := 37) rfl))) (by decide) (backOf (W := 0) (rm6 l Z aw hw [] (p0.toUInt32.toUInt16.toUInt32.toInt32) h3 n0 Z3 ) hZ (hw _ (List.mem_of_getElem? (i := 37) rfl)) (hw _ (List.mem_of_getElem? (i := 36) rfl)) (by decide) (by decide)) (g := (mkF m 44 #[.val (.int p0), .val (.int p1), .val (.int (p0.toUInt32.toUInt16.toUInt32.toInt32)), .val (.int ((p0.toUInt32.toUInt16.toUInt32.toInt32) - (48 : Int32))), .val (.int (m0_0 p0 p1 wz)), .val (.ref c3), .val (.int (f1 ((p1 &&& (2147483647 : Int32)) % (10 : Int32)) wz)), .unset, .unset, .unset, .unset] [(.int (p0.toUInt32.toUInt16.toUInt32.toInt32))])) rfl (by rw [hml]; rfl) (argsL := [(.int (p0.toUInt32.toUInt16.toUInt32.toInt32))]) (rest := []) (lenOf pd_0_1 rfl) rfl (by show 2 * 0 + _ ≤ _; exact Nat.le_of_eq rfl) (hb hby at_44) (fun _ _ => ⟨rfl, e4, (by decide : 2 + 0 ≤ _), (by decide : 1028 + 0 ≤ _)⟩)
  dsimp only [Pt.U, Pt.locs, Pt.cells, Pt.slots] at X5 l5 y5 z5 st5 hQ5
  rw [l5, y5, z5] at X5
  obtain ⟨rfl, Nq5, e5⟩ := hQ5
  have N5 := Fr.app N4 Nq5
  refine own_back (b := T5.setTop (mkF m 49 #[.val (.int p0), .val (.int p1), .val (.int (p0.toUInt32.toUInt16.toUInt32.toInt32)), .val (.int ((p0.toUInt32.toUInt16.toUInt32.toInt32) - (48 : Int32))), .val (.int (m0_0 p0 p1 wz)), .val (.ref c3), .val (.int (f1 ((p1 &&& (2147483647 : Int32)) % (10 : Int32)) wz)), .unset, .unset, .unset, .unset] [(.int (m0_0 p0 p1 wz)), (.int (f6 (p0.toUInt32.toUInt16.toUInt32.toInt32)))])) (fun t kt => ?_) ?_
  · show Steps p.tables e below (s₁.setTop (mkF m 23 #[.val (.int p0), .val (.int p1), .val (.int (p0.toUInt32.toUInt16.toUInt32.toInt32)), .val (.int ((p0.toUInt32.toUInt16.toUInt32.toInt32) - (48 : Int32))), .unset, .unset, .unset, .unset, .unset, .unset, .unset] [(.int (m0_0 p0 p1 wz))])) _
    refine XS.istore X0.here hx rfl (hb hby at_23) rfl (l' := #[.val (.int p0), .val (.int p1), .val (.int (p0.toUInt32.toUInt16.toUInt32.toInt32)), .val (.int ((p0.toUInt32.toUInt16.toUInt32.toInt32) - (48 : Int32))), .val (.int (m0_0 p0 p1 wz)), .unset, .unset, .unset, .unset, .unset, .unset]) rfl ?_
    show Steps p.tables e below (s₁.setTop (mkF m 25 #[.val (.int p0), .val (.int p1), .val (.int (p0.toUInt32.toUInt16.toUInt32.toInt32)), .val (.int ((p0.toUInt32.toUInt16.toUInt32.toInt32) - (48 : Int32))), .val (.int (m0_0 p0 p1 wz)), .unset, .unset, .unset, .unset, .unset, .unset] [])) _
    refine st3 _ ?_
    show Steps p.tables e below (T3.setTop (mkF m 27 #[.val (.int p0), .val (.int p1), .val (.int (p0.toUInt32.toUInt16.toUInt32.toInt32)), .val (.int ((p0.toUInt32.toUInt16.toUInt32.toInt32) - (48 : Int32))), .val (.int (m0_0 p0 p1 wz)), .unset, .unset, .unset, .unset, .unset, .unset] [(.ref c3)])) _
    refine XS.astore X3.here hx rfl (hb hby at_27) rfl rfl (l' := #[.val (.int p0), .val (.int p1), .val (.int (p0.toUInt32.toUInt16.toUInt32.toInt32)), .val (.int ((p0.toUInt32.toUInt16.toUInt32.toInt32) - (48 : Int32))), .val (.int (m0_0 p0 p1 wz)), .val (.ref c3), .unset, .unset, .unset, .unset, .unset]) rfl ?_
    show Steps p.tables e below (T3.setTop (mkF m 29 #[.val (.int p0), .val (.int p1), .val (.int (p0.toUInt32.toUInt16.toUInt32.toInt32)), .val (.int ((p0.toUInt32.toUInt16.toUInt32.toInt32) - (48 : Int32))), .val (.int (m0_0 p0 p1 wz)), .val (.ref c3), .unset, .unset, .unset, .unset, .unset] [])) _
    refine XS.aload X3.here hx rfl (hb hby at_29) rfl rfl ?_
    show Steps p.tables e below (T3.setTop (mkF m 31 #[.val (.int p0), .val (.int p1), .val (.int (p0.toUInt32.toUInt16.toUInt32.toInt32)), .val (.int ((p0.toUInt32.toUInt16.toUInt32.toInt32) - (48 : Int32))), .val (.int (m0_0 p0 p1 wz)), .val (.ref c3), .unset, .unset, .unset, .unset, .unset] [(.ref c3)])) _
    refine XS.iloadN X3.here hx rfl (hb hby at_31) rfl ?_
    show Steps p.tables e below (T3.setTop (mkF m 32 #[.val (.int p0), .val (.int p1), .val (.int (p0.toUInt32.toUInt16.toUInt32.toInt32)), .val (.int ((p0.toUInt32.toUInt16.toUInt32.toInt32) - (48 : Int32))), .val (.int (m0_0 p0 p1 wz)), .val (.ref c3), .unset, .unset, .unset, .unset, .unset] [(.int p1), (.ref c3)])) _
    refine X3.ldcInt hx hown (mvT hZ (hw _ (List.mem_of_getElem? (i := 8) rfl))) (g := (mkF m 32 #[.val (.int p0), .val (.int p1), .val (.int (p0.toUInt32.toUInt16.toUInt32.toInt32)), .val (.int ((p0.toUInt32.toUInt16.toUInt32.toInt32) - (48 : Int32))), .val (.int (m0_0 p0 p1 wz)), .val (.ref c3), .unset, .unset, .unset, .unset, .unset] [(.int p1), (.ref c3)])) rfl (hb hby at_32) _ ?_
    show Steps p.tables e below (T3.setTop (mkF m 34 #[.val (.int p0), .val (.int p1), .val (.int (p0.toUInt32.toUInt16.toUInt32.toInt32)), .val (.int ((p0.toUInt32.toUInt16.toUInt32.toInt32) - (48 : Int32))), .val (.int (m0_0 p0 p1 wz)), .val (.ref c3), .unset, .unset, .unset, .unset, .unset] [(.int (2147483647 : Int32)), (.int p1), (.ref c3)])) _
    refine XS.iand X3.here hx rfl (hb hby at_34) rfl ?_
    show Steps p.tables e below (T3.setTop (mkF m 35 #[.val (.int p0), .val (.int p1), .val (.int (p0.toUInt32.toUInt16.toUInt32.toInt32)), .val (.int ((p0.toUInt32.toUInt16.toUInt32.toInt32) - (48 : Int32))), .val (.int (m0_0 p0 p1 wz)), .val (.ref c3), .unset, .unset, .unset, .unset, .unset] [(.int (p1 &&& (2147483647 : Int32))), (.ref c3)])) _
    refine XS.bipush X3.here hx rfl (hb hby at_35) ?_
    show Steps p.tables e below (T3.setTop (mkF m 37 #[.val (.int p0), .val (.int p1), .val (.int (p0.toUInt32.toUInt16.toUInt32.toInt32)), .val (.int ((p0.toUInt32.toUInt16.toUInt32.toInt32) - (48 : Int32))), .val (.int (m0_0 p0 p1 wz)), .val (.ref c3), .unset, .unset, .unset, .unset, .unset] [(.int (10 : Int32)), (.int (p1 &&& (2147483647 : Int32))), (.ref c3)])) _
    refine iremM X3 hx rfl (hb hby at_37) rfl (by decide) ?_
    show Steps p.tables e below (T3.setTop (mkF m 38 #[.val (.int p0), .val (.int p1), .val (.int (p0.toUInt32.toUInt16.toUInt32.toInt32)), .val (.int ((p0.toUInt32.toUInt16.toUInt32.toInt32) - (48 : Int32))), .val (.int (m0_0 p0 p1 wz)), .val (.ref c3), .unset, .unset, .unset, .unset, .unset] [(.int ((p1 &&& (2147483647 : Int32)) % (10 : Int32))), (.ref c3)])) _
    refine st4.trans ?_
    show Steps p.tables e below (T4.setTop (mkF m 41 #[.val (.int p0), .val (.int p1), .val (.int (p0.toUInt32.toUInt16.toUInt32.toInt32)), .val (.int ((p0.toUInt32.toUInt16.toUInt32.toInt32) - (48 : Int32))), .val (.int (m0_0 p0 p1 wz)), .val (.ref c3), .unset, .unset, .unset, .unset, .unset] [(.int (f1 ((p1 &&& (2147483647 : Int32)) % (10 : Int32)) wz))])) _
    refine XS.istore X4.here hx rfl (hb hby at_41) rfl (l' := #[.val (.int p0), .val (.int p1), .val (.int (p0.toUInt32.toUInt16.toUInt32.toInt32)), .val (.int ((p0.toUInt32.toUInt16.toUInt32.toInt32) - (48 : Int32))), .val (.int (m0_0 p0 p1 wz)), .val (.ref c3), .val (.int (f1 ((p1 &&& (2147483647 : Int32)) % (10 : Int32)) wz)), .unset, .unset, .unset, .unset]) rfl ?_
    show Steps p.tables e below (T4.setTop (mkF m 43 #[.val (.int p0), .val (.int p1), .val (.int (p0.toUInt32.toUInt16.toUInt32.toInt32)), .val (.int ((p0.toUInt32.toUInt16.toUInt32.toInt32) - (48 : Int32))), .val (.int (m0_0 p0 p1 wz)), .val (.ref c3), .val (.int (f1 ((p1 &&& (2147483647 : Int32)) % (10 : Int32)) wz)), .unset, .unset, .unset, .unset] [])) _
    refine XS.iloadN X4.here hx rfl (hb hby at_43) rfl ?_
    show Steps p.tables e below (T4.setTop (mkF m 44 #[.val (.int p0), .val (.int p1), .val (.int (p0.toUInt32.toUInt16.toUInt32.toInt32)), .val (.int ((p0.toUInt32.toUInt16.toUInt32.toInt32) - (48 : Int32))), .val (.int (m0_0 p0 p1 wz)), .val (.ref c3), .val (.int (f1 ((p1 &&& (2147483647 : Int32)) % (10 : Int32)) wz)), .unset, .unset, .unset, .unset] [(.int (p0.toUInt32.toUInt16.toUInt32.toInt32))])) _
    refine st5 _ ?_
    show Steps p.tables e below (T5.setTop (mkF m 47 #[.val (.int p0), .val (.int p1), .val (.int (p0.toUInt32.toUInt16.toUInt32.toInt32)), .val (.int ((p0.toUInt32.toUInt16.toUInt32.toInt32) - (48 : Int32))), .val (.int (m0_0 p0 p1 wz)), .val (.ref c3), .val (.int (f1 ((p1 &&& (2147483647 : Int32)) % (10 : Int32)) wz)), .unset, .unset, .unset, .unset] [(.int (f6 (p0.toUInt32.toUInt16.toUInt32.toInt32)))])) _
    refine XS.iload X5.here hx rfl (hb hby at_47) rfl ?_
    exact kt
  refine own_back (b := T5.setTop (mkF m 57 #[.val (.int p0), .val (.int p1), .val (.int (p0.toUInt32.toUInt16.toUInt32.toInt32)), .val (.int ((p0.toUInt32.toUInt16.toUInt32.toInt32) - (48 : Int32))), .val (.int (m0_0 p0 p1 wz)), .val (.ref c3), .val (.int (f1 ((p1 &&& (2147483647 : Int32)) % (10 : Int32)) wz)), .unset, .unset, .unset, .unset] [(.int (m0_1 p0 p1 wz))])) (fun t kt => ?_) ?_
  · by_cases hm49_6 : (f6 (p0.toUInt32.toUInt16.toUInt32.toInt32)) = (m0_0 p0 p1 wz)
    · rw [show (m0_1 p0 p1 wz) = (1 : Int32) from by unfold m0_1; rw [if_pos hm49_6]] at kt
      show Steps p.tables e below (T5.setTop (mkF m 49 #[.val (.int p0), .val (.int p1), .val (.int (p0.toUInt32.toUInt16.toUInt32.toInt32)), .val (.int ((p0.toUInt32.toUInt16.toUInt32.toInt32) - (48 : Int32))), .val (.int (m0_0 p0 p1 wz)), .val (.ref c3), .val (.int (f1 ((p1 &&& (2147483647 : Int32)) % (10 : Int32)) wz)), .unset, .unset, .unset, .unset] [(.int (m0_0 p0 p1 wz)), (.int (f6 (p0.toUInt32.toUInt16.toUInt32.toInt32)))])) _
      refine XS.icmpNo X5.here hx rfl (hb hby at_49) rfl (teq hm49_6).2 ?_
      show Steps p.tables e below (T5.setTop (mkF m 52 #[.val (.int p0), .val (.int p1), .val (.int (p0.toUInt32.toUInt16.toUInt32.toInt32)), .val (.int ((p0.toUInt32.toUInt16.toUInt32.toInt32) - (48 : Int32))), .val (.int (m0_0 p0 p1 wz)), .val (.ref c3), .val (.int (f1 ((p1 &&& (2147483647 : Int32)) % (10 : Int32)) wz)), .unset, .unset, .unset, .unset] [])) _
      refine XS.iconst X5.here hx rfl (hb hby at_52) ?_
      show Steps p.tables e below (T5.setTop (mkF m 53 #[.val (.int p0), .val (.int p1), .val (.int (p0.toUInt32.toUInt16.toUInt32.toInt32)), .val (.int ((p0.toUInt32.toUInt16.toUInt32.toInt32) - (48 : Int32))), .val (.int (m0_0 p0 p1 wz)), .val (.ref c3), .val (.int (f1 ((p1 &&& (2147483647 : Int32)) % (10 : Int32)) wz)), .unset, .unset, .unset, .unset] [(.int (1 : Int32))])) _
      refine XS.goto X5.here hx rfl (pc0 := 53) (pc' := 57) rfl (hb hby at_53) (by decide) (by decide) ?_
      exact kt
    · rw [show (m0_1 p0 p1 wz) = (0 : Int32) from by unfold m0_1; rw [if_neg hm49_6]] at kt
      show Steps p.tables e below (T5.setTop (mkF m 49 #[.val (.int p0), .val (.int p1), .val (.int (p0.toUInt32.toUInt16.toUInt32.toInt32)), .val (.int ((p0.toUInt32.toUInt16.toUInt32.toInt32) - (48 : Int32))), .val (.int (m0_0 p0 p1 wz)), .val (.ref c3), .val (.int (f1 ((p1 &&& (2147483647 : Int32)) % (10 : Int32)) wz)), .unset, .unset, .unset, .unset] [(.int (m0_0 p0 p1 wz)), (.int (f6 (p0.toUInt32.toUInt16.toUInt32.toInt32)))])) _
      refine XS.icmpYes X5.here hx rfl (pc0 := 49) (pc' := 56) rfl (hb hby at_49) rfl (feq hm49_6).2 (by decide) (by decide) ?_
      show Steps p.tables e below (T5.setTop (mkF m 56 #[.val (.int p0), .val (.int p1), .val (.int (p0.toUInt32.toUInt16.toUInt32.toInt32)), .val (.int ((p0.toUInt32.toUInt16.toUInt32.toInt32) - (48 : Int32))), .val (.int (m0_0 p0 p1 wz)), .val (.ref c3), .val (.int (f1 ((p1 &&& (2147483647 : Int32)) % (10 : Int32)) wz)), .unset, .unset, .unset, .unset] [])) _
      refine XS.iconst X5.here hx rfl (hb hby at_56) ?_
      exact kt
  obtain ⟨_, _, ⟨T7, L7, k7, n7⟩, -, X7, ⟨Lc7, hQ7, l7, y7, z7⟩, st7⟩ := Jvm.LawKit.callS X5 hx (y := (⟨"com/example/kinetic_model_check/kineticmodelcheck/dynamics/FormulaTokens", "isDigit", "(C)Z"⟩ : MethodName)) hown (mvT hZ (hw _ (List.mem_of_getElem? (i := 34) rfl))) (mvT hZ (hw _ (List.mem_of_getElem? (i := 35) rfl))) (mvT hZ (hw _ (List.mem_of_getElem? (i := 36) rfl))) (mvT hZ (hw _ (List.mem_of_getElem? (i := 37) rfl))) (by decide) (backOf (W := 0) (rm6 l Z aw hw [] (f1 ((p1 &&& (2147483647 : Int32)) % (10 : Int32)) wz) h3 n0 Z3 ) hZ (hw _ (List.mem_of_getElem? (i := 37) rfl)) (hw _ (List.mem_of_getElem? (i := 36) rfl)) (by decide) (by decide)) (g := (mkF m 61 #[.val (.int p0), .val (.int p1), .val (.int (p0.toUInt32.toUInt16.toUInt32.toInt32)), .val (.int ((p0.toUInt32.toUInt16.toUInt32.toInt32) - (48 : Int32))), .val (.int (m0_0 p0 p1 wz)), .val (.ref c3), .val (.int (f1 ((p1 &&& (2147483647 : Int32)) % (10 : Int32)) wz)), .val (.int (m0_1 p0 p1 wz)), .unset, .unset, .unset] [(.int (f1 ((p1 &&& (2147483647 : Int32)) % (10 : Int32)) wz))])) rfl (by rw [hml]; rfl) (argsL := [(.int (f1 ((p1 &&& (2147483647 : Int32)) % (10 : Int32)) wz))]) (rest := []) (lenOf pd_0_1 rfl) rfl (by show 2 * 0 + _ ≤ _; exact Nat.le_of_eq rfl) (hb hby at_61) (fun _ _ => ⟨rfl, e5, (by decide : 2 + 0 ≤ _), (by decide : 1028 + 0 ≤ _)⟩)
  dsimp only [Pt.U, Pt.locs, Pt.cells, Pt.slots] at X7 l7 y7 z7 st7 hQ7
  rw [l7, y7, z7] at X7
  obtain ⟨rfl, Nq7, e7⟩ := hQ7
  have N7 := Fr.app N5 Nq7
  obtain ⟨_, _, ⟨T8, L8, k8, n8⟩, -, X8, ⟨Lc8, hQ8, l8, y8, z8⟩, st8⟩ := Jvm.LawKit.callS X7 hx (y := (⟨"com/example/kinetic_model_check/kineticmodelcheck/dynamics/FormulaTokens", "isDigit", "(C)Z"⟩ : MethodName)) hown (mvT hZ (hw _ (List.mem_of_getElem? (i := 34) rfl))) (mvT hZ (hw _ (List.mem_of_getElem? (i := 35) rfl))) (mvT hZ (hw _ (List.mem_of_getElem? (i := 36) rfl))) (mvT hZ (hw _ (List.mem_of_getElem? (i := 37) rfl))) (by decide) (backOf (W := 0) (rm6 l Z aw hw [] (47 : Int32) h3 n0 Z3 ) hZ (hw _ (List.mem_of_getElem? (i := 37) rfl)) (hw _ (List.mem_of_getElem? (i := 36) rfl)) (by decide) (by decide)) (g := (mkF m 68 #[.val (.int p0), .val (.int p1), .val (.int (p0.toUInt32.toUInt16.toUInt32.toInt32)), .val (.int ((p0.toUInt32.toUInt16.toUInt32.toInt32) - (48 : Int32))), .val (.int (m0_0 p0 p1 wz)), .val (.ref c3), .val (.int (f1 ((p1 &&& (2147483647 : Int32)) % (10 : Int32)) wz)), .val (.int (m0_1 p0 p1 wz)), .val (.int (f6 (f1 ((p1 &&& (2147483647 : Int32)) % (10 : Int32)) wz))), .unset, .unset] [(.int (47 : Int32))])) rfl (by rw [hml]; rfl) (argsL := [(.int (47 : Int32))]) (rest := []) (lenOf pd_0_1 rfl) rfl (by show 2 * 0 + _ ≤ _; exact Nat.le_of_eq rfl) (hb hby at_68) (fun _ _ => ⟨rfl, e7, (by decide : 2 + 0 ≤ _), (by decide : 1028 + 0 ≤ _)⟩)
  dsimp only [Pt.U, Pt.locs, Pt.cells, Pt.slots] at X8 l8 y8 z8 st8 hQ8
  rw [l8, y8, z8] at X8
  obtain ⟨rfl, Nq8, e8⟩ := hQ8
  have N8 := Fr.app N7 Nq8
  refine own_back (b := T8.setTop (mkF m 71 #[.val (.int p0), .val (.int p1), .val (.int (p0.toUInt32.toUInt16.toUInt32.toInt32)), .val (.int ((p0.toUInt32.toUInt16.toUInt32.toInt32) - (48 : Int32))), .val (.int (m0_0 p0 p1 wz)), .val (.ref c3), .val (.int (f1 ((p1 &&& (2147483647 : Int32)) % (10 : Int32)) wz)), .val (.int (m0_1 p0 p1 wz)), .val (.int (f6 (f1 ((p1 &&& (2147483647 : Int32)) % (10 : Int32)) wz))), .unset, .unset] [(.int (f6 (47 : Int32)))])) (fun t kt => ?_) ?_
  · show Steps p.tables e below (T5.setTop (mkF m 57 #[.val (.int p0), .val (.int p1), .val (.int (p0.toUInt32.toUInt16.toUInt32.toInt32)), .val (.int ((p0.toUInt32.toUInt16.toUInt32.toInt32) - (48 : Int32))), .val (.int (m0_0 p0 p1 wz)), .val (.ref c3), .val (.int (f1 ((p1 &&& (2147483647 : Int32)) % (10 : Int32)) wz)), .unset, .unset, .unset, .unset] [(.int (m0_1 p0 p1 wz))])) _
    refine XS.istore X5.here hx rfl (hb hby at_57) rfl (l' := #[.val (.int p0), .val (.int p1), .val (.int (p0.toUInt32.toUInt16.toUInt32.toInt32)), .val (.int ((p0.toUInt32.toUInt16.toUInt32.toInt32) - (48 : Int32))), .val (.int (m0_0 p0 p1 wz)), .val (.ref c3), .val (.int (f1 ((p1 &&& (2147483647 : Int32)) % (10 : Int32)) wz)), .val (.int (m0_1 p0 p1 wz)), .unset, .unset, .unset]) rfl ?_
    show Steps p.tables e below (T5.setTop (mkF m 59 #[.val (.int p0), .val (.int p1), .val (.int (p0.toUInt32.toUInt16.toUInt32.toInt32)), .val (.int ((p0.toUInt32.toUInt16.toUInt32.toInt32) - (48 : Int32))), .val (.int (m0_0 p0 p1 wz)), .val (.ref c3), .val (.int (f1 ((p1 &&& (2147483647 : Int32)) % (10 : Int32)) wz)), .val (.int (m0_1 p0 p1 wz)), .unset, .unset, .unset] [])) _
    refine XS.iload X5.here hx rfl (hb hby at_59) rfl ?_
    show Steps p.tables e below (T5.setTop (mkF m 61 #[.val (.int p0), .val (.int p1), .val (.int (p0.toUInt32.toUInt16.toUInt32.toInt32)), .val (.int ((p0.toUInt32.toUInt16.toUInt32.toInt32) - (48 : Int32))), .val (.int (m0_0 p0 p1 wz)), .val (.ref c3), .val (.int (f1 ((p1 &&& (2147483647 : Int32)) % (10 : Int32)) wz)), .val (.int (m0_1 p0 p1 wz)), .unset, .unset, .unset] [(.int (f1 ((p1 &&& (2147483647 : Int32)) % (10 : Int32)) wz))])) _
    refine st7 _ ?_
    show Steps p.tables e below (T7.setTop (mkF m 64 #[.val (.int p0), .val (.int p1), .val (.int (p0.toUInt32.toUInt16.toUInt32.toInt32)), .val (.int ((p0.toUInt32.toUInt16.toUInt32.toInt32) - (48 : Int32))), .val (.int (m0_0 p0 p1 wz)), .val (.ref c3), .val (.int (f1 ((p1 &&& (2147483647 : Int32)) % (10 : Int32)) wz)), .val (.int (m0_1 p0 p1 wz)), .unset, .unset, .unset] [(.int (f6 (f1 ((p1 &&& (2147483647 : Int32)) % (10 : Int32)) wz)))])) _
    refine XS.istore X7.here hx rfl (hb hby at_64) rfl (l' := #[.val (.int p0), .val (.int p1), .val (.int (p0.toUInt32.toUInt16.toUInt32.toInt32)), .val (.int ((p0.toUInt32.toUInt16.toUInt32.toInt32) - (48 : Int32))), .val (.int (m0_0 p0 p1 wz)), .val (.ref c3), .val (.int (f1 ((p1 &&& (2147483647 : Int32)) % (10 : Int32)) wz)), .val (.int (m0_1 p0 p1 wz)), .val (.int (f6 (f1 ((p1 &&& (2147483647 : Int32)) % (10 : Int32)) wz))), .unset, .unset]) rfl ?_
    show Steps p.tables e below (T7.setTop (mkF m 66 #[.val (.int p0), .val (.int p1), .val (.int (p0.toUInt32.toUInt16.toUInt32.toInt32)), .val (.int ((p0.toUInt32.toUInt16.toUInt32.toInt32) - (48 : Int32))), .val (.int (m0_0 p0 p1 wz)), .val (.ref c3), .val (.int (f1 ((p1 &&& (2147483647 : Int32)) % (10 : Int32)) wz)), .val (.int (m0_1 p0 p1 wz)), .val (.int (f6 (f1 ((p1 &&& (2147483647 : Int32)) % (10 : Int32)) wz))), .unset, .unset] [])) _
    refine XS.bipush X7.here hx rfl (hb hby at_66) ?_
    show Steps p.tables e below (T7.setTop (mkF m 68 #[.val (.int p0), .val (.int p1), .val (.int (p0.toUInt32.toUInt16.toUInt32.toInt32)), .val (.int ((p0.toUInt32.toUInt16.toUInt32.toInt32) - (48 : Int32))), .val (.int (m0_0 p0 p1 wz)), .val (.ref c3), .val (.int (f1 ((p1 &&& (2147483647 : Int32)) % (10 : Int32)) wz)), .val (.int (m0_1 p0 p1 wz)), .val (.int (f6 (f1 ((p1 &&& (2147483647 : Int32)) % (10 : Int32)) wz))), .unset, .unset] [(.int (47 : Int32))])) _
    refine st8 _ ?_
    exact kt
  refine own_back (b := T8.setTop (mkF m 79 #[.val (.int p0), .val (.int p1), .val (.int (p0.toUInt32.toUInt16.toUInt32.toInt32)), .val (.int ((p0.toUInt32.toUInt16.toUInt32.toInt32) - (48 : Int32))), .val (.int (m0_0 p0 p1 wz)), .val (.ref c3), .val (.int (f1 ((p1 &&& (2147483647 : Int32)) % (10 : Int32)) wz)), .val (.int (m0_1 p0 p1 wz)), .val (.int (f6 (f1 ((p1 &&& (2147483647 : Int32)) % (10 : Int32)) wz))), .unset, .unset] [(.int (m0_2 p0 p1 wz))])) (fun t kt => ?_) ?_
  · by_cases hm71_9 : (f6 (47 : Int32)) = (0 : Int32)
    · rw [show (m0_2 p0 p1 wz) = (1 : Int32) from by unfold m0_2; rw [if_pos hm71_9]] at kt
      show Steps p.tables e below (T8.setTop (mkF m 71 #[.val (.int p0), .val (.int p1), .val (.int (p0.toUInt32.toUInt16.toUInt32.toInt32)), .val (.int ((p0.toUInt32.toUInt16.toUInt32.toInt32) - (48 : Int32))), .val (.int (m0_0 p0 p1 wz)), .val (.ref c3), .val (.int (f1 ((p1 &&& (2147483647 : Int32)) % (10 : Int32)) wz)), .val (.int (m0_1 p0 p1 wz)), .val (.int (f6 (f1 ((p1 &&& (2147483647 : Int32)) % (10 : Int32)) wz))), .unset, .unset] [(.int (f6 (47 : Int32)))])) _
      refine XS.ifNo X8.here hx rfl (hb hby at_71) rfl ((if0 _ _).trans (teq hm71_9).2) ?_
      show Steps p.tables e below (T8.setTop (mkF m 74 #[.val (.int p0), .val (.int p1), .val (.int (p0.toUInt32.toUInt16.toUInt32.toInt32)), .val (.int ((p0.toUInt32.toUInt16.toUInt32.toInt32) - (48 : Int32))), .val (.int (m0_0 p0 p1 wz)), .val (.ref c3), .val (.int (f1 ((p1 &&& (2147483647 : Int32)) % (10 : Int32)) wz)), .val (.int (m0_1 p0 p1 wz)), .val (.int (f6 (f1 ((p1 &&& (2147483647 : Int32)) % (10 : Int32)) wz))), .unset, .unset] [])) _
      refine XS.iconst X8.here hx rfl (hb hby at_74) ?_
      show Steps p.tables e below (T8.setTop (mkF m 75 #[.val (.int p0), .val (.int p1), .val (.int (p0.toUInt32.toUInt16.toUInt32.toInt32)), .val (.int ((p0.toUInt32.toUInt16.toUInt32.toInt32) - (48 : Int32))), .val (.int (m0_0 p0 p1 wz)), .val (.ref c3), .val (.int (f1 ((p1 &&& (2147483647 : Int32)) % (10 : Int32)) wz)), .val (.int (m0_1 p0 p1 wz)), .val (.int (f6 (f1 ((p1 &&& (2147483647 : Int32)) % (10 : Int32)) wz))), .unset, .unset] [(.int (1 : Int32))])) _
      refine XS.goto X8.here hx rfl (pc0 := 75) (pc' := 79) rfl (hb hby at_75) (by decide) (by decide) ?_
      exact kt
    · rw [show (m0_2 p0 p1 wz) = (0 : Int32) from by unfold m0_2; rw [if_neg hm71_9]] at kt
      show Steps p.tables e below (T8.setTop (mkF m 71 #[.val (.int p0), .val (.int p1), .val (.int (p0.toUInt32.toUInt16.toUInt32.toInt32)), .val (.int ((p0.toUInt32.toUInt16.toUInt32.toInt32) - (48 : Int32))), .val (.int (m0_0 p0 p1 wz)), .val (.ref c3), .val (.int (f1 ((p1 &&& (2147483647 : Int32)) % (10 : Int32)) wz)), .val (.int (m0_1 p0 p1 wz)), .val (.int (f6 (f1 ((p1 &&& (2147483647 : Int32)) % (10 : Int32)) wz))), .unset, .unset] [(.int (f6 (47 : Int32)))])) _
      refine XS.ifYes X8.here hx rfl (pc0 := 71) (pc' := 78) rfl (hb hby at_71) rfl ((if0 _ _).trans (feq hm71_9).2) (by decide) (by decide) ?_
      show Steps p.tables e below (T8.setTop (mkF m 78 #[.val (.int p0), .val (.int p1), .val (.int (p0.toUInt32.toUInt16.toUInt32.toInt32)), .val (.int ((p0.toUInt32.toUInt16.toUInt32.toInt32) - (48 : Int32))), .val (.int (m0_0 p0 p1 wz)), .val (.ref c3), .val (.int (f1 ((p1 &&& (2147483647 : Int32)) % (10 : Int32)) wz)), .val (.int (m0_1 p0 p1 wz)), .val (.int (f6 (f1 ((p1 &&& (2147483647 : Int32)) % (10 : Int32)) wz))), .unset, .unset] [])) _
      refine XS.iconst X8.here hx rfl (hb hby at_78) ?_
      exact kt
  obtain ⟨_, _, ⟨T10, L10, k10, n10⟩, -, X10, ⟨Lc10, hQ10, l10, y10, z10⟩, st10⟩ := Jvm.LawKit.callS X8 hx (y := (⟨"com/example/kinetic_model_check/kineticmodelcheck/dynamics/FormulaTokens", "isDigit", "(C)Z"⟩ : MethodName)) hown (mvT hZ (hw _ (List.mem_of_getElem? (i := 34) rfl))) (mvT hZ (hw _ (List.mem_of_getElem? (i := 35) rfl))) (mvT hZ (hw _ (List.mem_of_getElem? (i := 36) rfl))) (mvT hZ (hw _ (List.mem_of_getElem? (i := 37) rfl))) (by decide) (backOf (W := 0) (rm6 l Z aw hw [] (58 : Int32) h3 n0 Z3 ) hZ (hw _ (List.mem_of_getElem? (i := 37) rfl)) (hw _ (List.mem_of_getElem? (i := 36) rfl)) (by decide) (by decide)) (g := (mkF m 83 #[.val (.int p0), .val (.int p1), .val (.int (p0.toUInt32.toUInt16.toUInt32.toInt32)), .val (.int ((p0.toUInt32.toUInt16.toUInt32.toInt32) - (48 : Int32))), .val (.int (m0_0 p0 p1 wz)), .val (.ref c3), .val (.int (f1 ((p1 &&& (2147483647 : Int32)) % (10 : Int32)) wz)), .val (.int (m0_1 p0 p1 wz)), .val (.int (f6 (f1 ((p1 &&& (2147483647 : Int32)) % (10 : Int32)) wz))), .val (.int (m0_2 p0 p1 wz)), .unset] [(.int (58 : Int32))])) rfl (by rw [hml]; rfl) (argsL := [(.int (58 : Int32))]) (rest := []) (lenOf pd_0_1 rfl) rfl (by show 2 * 0 + _ ≤ _; exact Nat.le_of_eq rfl) (hb hby at_83) (fun _ _ => ⟨rfl, e8, (by decide : 2 + 0 ≤ _), (by decide : 1028 + 0 ≤ _)⟩)
  dsimp only [Pt.U, Pt.locs, Pt.cells, Pt.slots] at X10 l10 y10 z10 st10 hQ10
  rw [l10, y10, z10] at X10
  obtain ⟨rfl, Nq10, e10⟩ := hQ10
  have N10 := Fr.app N8 Nq10
  refine own_back (b := T10.setTop (mkF m 86 #[.val (.int p0), .val (.int p1), .val (.int (p0.toUInt32.toUInt16.toUInt32.toInt32)), .val (.int ((p0.toUInt32.toUInt16.toUInt32.toInt32) - (48 : Int32))), .val (.int (m0_0 p0 p1 wz)), .val (.ref c3), .val (.int (f1 ((p1 &&& (2147483647 : Int32)) % (10 : Int32)) wz)), .val (.int (m0_1 p0 p1 wz)), .val (.int (f6 (f1 ((p1 &&& (2147483647 : Int32)) % (10 : Int32)) wz))), .val (.int (m0_2 p0 p1 wz)), .unset] [(.int (f6 (58 : Int32)))])) (fun t kt => ?_) ?_
  · show Steps p.tables e below (T8.setTop (mkF m 79 #[.val (.int p0), .val (.int p1), .val (.int (p0.toUInt32.toUInt16.toUInt32.toInt32)), .val (.int ((p0.toUInt32.toUInt16.toUInt32.toInt32) - (48 : Int32))), .val (.int (m0_0 p0 p1 wz)), .val (.ref c3), .val (.int (f1 ((p1 &&& (2147483647 : Int32)) % (10 : Int32)) wz)), .val (.int (m0_1 p0 p1 wz)), .val (.int (f6 (f1 ((p1 &&& (2147483647 : Int32)) % (10 : Int32)) wz))), .unset, .unset] [(.int (m0_2 p0 p1 wz))])) _
    refine XS.istore X8.here hx rfl (hb hby at_79) rfl (l' := #[.val (.int p0), .val (.int p1), .val (.int (p0.toUInt32.toUInt16.toUInt32.toInt32)), .val (.int ((p0.toUInt32.toUInt16.toUInt32.toInt32) - (48 : Int32))), .val (.int (m0_0 p0 p1 wz)), .val (.ref c3), .val (.int (f1 ((p1 &&& (2147483647 : Int32)) % (10 : Int32)) wz)), .val (.int (m0_1 p0 p1 wz)), .val (.int (f6 (f1 ((p1 &&& (2147483647 : Int32)) % (10 : Int32)) wz))), .val (.int (m0_2 p0 p1 wz)), .unset]) rfl ?_
    show Steps p.tables e below (T8.setTop (mkF m 81 #[.val (.int p0), .val (.int p1), .val (.int (p0.toUInt32.toUInt16.toUInt32.toInt32)), .val (.int ((p0.toUInt32.toUInt16.toUInt32.toInt32) - (48 : Int32))), .val (.int (m0_0 p0 p1 wz)), .val (.ref c3), .val (.int (f1 ((p1 &&& (2147483647 : Int32)) % (10 : Int32)) wz)), .val (.int (m0_1 p0 p1 wz)), .val (.int (f6 (f1 ((p1 &&& (2147483647 : Int32)) % (10 : Int32)) wz))), .val (.int (m0_2 p0 p1 wz)), .unset] [])) _
    refine XS.bipush X8.here hx rfl (hb hby at_81) ?_
    show Steps p.tables e below (T8.setTop (mkF m 83 #[.val (.int p0), .val (.int p1), .val (.int (p0.toUInt32.toUInt16.toUInt32.toInt32)), .val (.int ((p0.toUInt32.toUInt16.toUInt32.toInt32) - (48 : Int32))), .val (.int (m0_0 p0 p1 wz)), .val (.ref c3), .val (.int (f1 ((p1 &&& (2147483647 : Int32)) % (10 : Int32)) wz)), .val (.int (m0_1 p0 p1 wz)), .val (.int (f6 (f1 ((p1 &&& (2147483647 : Int32)) % (10 : Int32)) wz))), .val (.int (m0_2 p0 p1 wz)), .unset] [(.int (58 : Int32))])) _
    refine st10 _ ?_
    exact kt
  refine own_back (b := T10.setTop (mkF m 94 #[.val (.int p0), .val (.int p1), .val (.int (p0.toUInt32.toUInt16.toUInt32.toInt32)), .val (.int ((p0.toUInt32.toUInt16.toUInt32.toInt32) - (48 : Int32))), .val (.int (m0_0 p0 p1 wz)), .val (.ref c3), .val (.int (f1 ((p1 &&& (2147483647 : Int32)) % (10 : Int32)) wz)), .val (.int (m0_1 p0 p1 wz)), .val (.int (f6 (f1 ((p1 &&& (2147483647 : Int32)) % (10 : Int32)) wz))), .val (.int (m0_2 p0 p1 wz)), .unset] [(.int (m0_3 p0 p1 wz))])) (fun t kt => ?_) ?_
  · by_cases hm86_11 : (f6 (58 : Int32)) = (0 : Int32)
    · rw [show (m0_3 p0 p1 wz) = (1 : Int32) from by unfold m0_3; rw [if_pos hm86_11]] at kt
      show Steps p.tables e below (T10.setTop (mkF m 86 #[.val (.int p0), .val (.int p1), .val (.int (p0.toUInt32.toUInt16.toUInt32.toInt32)), .val (.int ((p0.toUInt32.toUInt16.toUInt32.toInt32) - (48 : Int32))), .val (.int (m0_0 p0 p1 wz)), .val (.ref c3), .val (.int (f1 ((p1 &&& (2147483647 : Int32)) % (10 : Int32)) wz)), .val (.int (m0_1 p0 p1 wz)), .val (.int (f6 (f1 ((p1 &&& (2147483647 : Int32)) % (10 : Int32)) wz))), .val (.int (m0_2 p0 p1 wz)), .unset] [(.int (f6 (58 : Int32)))])) _
      refine XS.ifNo X10.here hx rfl (hb hby at_86) rfl ((if0 _ _).trans (teq hm86_11).2) ?_
      show Steps p.tables e below (T10.setTop (mkF m 89 #[.val (.int p0), .val (.int p1), .val (.int (p0.toUInt32.toUInt16.toUInt32.toInt32)), .val (.int ((p0.toUInt32.toUInt16.toUInt32.toInt32) - (48 : Int32))), .val (.int (m0_0 p0 p1 wz)), .val (.ref c3), .val (.int (f1 ((p1 &&& (2147483647 : Int32)) % (10 : Int32)) wz)), .val (.int (m0_1 p0 p1 wz)), .val (.int (f6 (f1 ((p1 &&& (2147483647 : Int32)) % (10 : Int32)) wz))), .val (.int (m0_2 p0 p1 wz)), .unset] [])) _
      refine XS.iconst X10.here hx rfl (hb hby at_89) ?_
      show Steps p.tables e below (T10.setTop (mkF m 90 #[.val (.int p0), .val (.int p1), .val (.int (p0.toUInt32.toUInt16.toUInt32.toInt32)), .val (.int ((p0.toUInt32.toUInt16.toUInt32.toInt32) - (48 : Int32))), .val (.int (m0_0 p0 p1 wz)), .val (.ref c3), .val (.int (f1 ((p1 &&& (2147483647 : Int32)) % (10 : Int32)) wz)), .val (.int (m0_1 p0 p1 wz)), .val (.int (f6 (f1 ((p1 &&& (2147483647 : Int32)) % (10 : Int32)) wz))), .val (.int (m0_2 p0 p1 wz)), .unset] [(.int (1 : Int32))])) _
      refine XS.goto X10.here hx rfl (pc0 := 90) (pc' := 94) rfl (hb hby at_90) (by decide) (by decide) ?_
      exact kt
    · rw [show (m0_3 p0 p1 wz) = (0 : Int32) from by unfold m0_3; rw [if_neg hm86_11]] at kt
      show Steps p.tables e below (T10.setTop (mkF m 86 #[.val (.int p0), .val (.int p1), .val (.int (p0.toUInt32.toUInt16.toUInt32.toInt32)), .val (.int ((p0.toUInt32.toUInt16.toUInt32.toInt32) - (48 : Int32))), .val (.int (m0_0 p0 p1 wz)), .val (.ref c3), .val (.int (f1 ((p1 &&& (2147483647 : Int32)) % (10 : Int32)) wz)), .val (.int (m0_1 p0 p1 wz)), .val (.int (f6 (f1 ((p1 &&& (2147483647 : Int32)) % (10 : Int32)) wz))), .val (.int (m0_2 p0 p1 wz)), .unset] [(.int (f6 (58 : Int32)))])) _
      refine XS.ifYes X10.here hx rfl (pc0 := 86) (pc' := 93) rfl (hb hby at_86) rfl ((if0 _ _).trans (feq hm86_11).2) (by decide) (by decide) ?_
      show Steps p.tables e below (T10.setTop (mkF m 93 #[.val (.int p0), .val (.int p1), .val (.int (p0.toUInt32.toUInt16.toUInt32.toInt32)), .val (.int ((p0.toUInt32.toUInt16.toUInt32.toInt32) - (48 : Int32))), .val (.int (m0_0 p0 p1 wz)), .val (.ref c3), .val (.int (f1 ((p1 &&& (2147483647 : Int32)) % (10 : Int32)) wz)), .val (.int (m0_1 p0 p1 wz)), .val (.int (f6 (f1 ((p1 &&& (2147483647 : Int32)) % (10 : Int32)) wz))), .val (.int (m0_2 p0 p1 wz)), .unset] [])) _
      refine XS.iconst X10.here hx rfl (hb hby at_93) ?_
      exact kt
  refine own_back (b := T10.setTop (mkF m 98 #[.val (.int p0), .val (.int p1), .val (.int (p0.toUInt32.toUInt16.toUInt32.toInt32)), .val (.int ((p0.toUInt32.toUInt16.toUInt32.toInt32) - (48 : Int32))), .val (.int (m0_0 p0 p1 wz)), .val (.ref c3), .val (.int (f1 ((p1 &&& (2147483647 : Int32)) % (10 : Int32)) wz)), .val (.int (m0_1 p0 p1 wz)), .val (.int (f6 (f1 ((p1 &&& (2147483647 : Int32)) % (10 : Int32)) wz))), .val (.int (m0_2 p0 p1 wz)), .val (.int (m0_3 p0 p1 wz))] [(.int (m0_1 p0 p1 wz))])) (fun t kt => ?_) ?_
  · show Steps p.tables e below (T10.setTop (mkF m 94 #[.val (.int p0), .val (.int p1), .val (.int (p0.toUInt32.toUInt16.toUInt32.toInt32)), .val (.int ((p0.toUInt32.toUInt16.toUInt32.toInt32) - (48 : Int32))), .val (.int (m0_0 p0 p1 wz)), .val (.ref c3), .val (.int (f1 ((p1 &&& (2147483647 : Int32)) % (10 : Int32)) wz)), .val (.int (m0_1 p0 p1 wz)), .val (.int (f6 (f1 ((p1 &&& (2147483647 : Int32)) % (10 : Int32)) wz))), .val (.int (m0_2 p0 p1 wz)), .unset] [(.int (m0_3 p0 p1 wz))])) _
    refine XS.istore X10.here hx rfl (hb hby at_94) rfl (l' := #[.val (.int p0), .val (.int p1), .val (.int (p0.toUInt32.toUInt16.toUInt32.toInt32)), .val (.int ((p0.toUInt32.toUInt16.toUInt32.toInt32) - (48 : Int32))), .val (.int (m0_0 p0 p1 wz)), .val (.ref c3), .val (.int (f1 ((p1 &&& (2147483647 : Int32)) % (10 : Int32)) wz)), .val (.int (m0_1 p0 p1 wz)), .val (.int (f6 (f1 ((p1 &&& (2147483647 : Int32)) % (10 : Int32)) wz))), .val (.int (m0_2 p0 p1 wz)), .val (.int (m0_3 p0 p1 wz))]) rfl ?_
    show Steps p.tables e below (T10.setTop (mkF m 96 #[.val (.int p0), .val (.int p1), .val (.int (p0.toUInt32.toUInt16.toUInt32.toInt32)), .val (.int ((p0.toUInt32.toUInt16.toUInt32.toInt32) - (48 : Int32))), .val (.int (m0_0 p0 p1 wz)), .val (.ref c3), .val (.int (f1 ((p1 &&& (2147483647 : Int32)) % (10 : Int32)) wz)), .val (.int (m0_1 p0 p1 wz)), .val (.int (f6 (f1 ((p1 &&& (2147483647 : Int32)) % (10 : Int32)) wz))), .val (.int (m0_2 p0 p1 wz)), .val (.int (m0_3 p0 p1 wz))] [])) _
    refine XS.iload X10.here hx rfl (hb hby at_96) rfl ?_
    exact kt
  by_cases hc98_12 : (m0_1 p0 p1 wz) = (0 : Int32)
  · refine own_back (b := T10.setTop (mkF m 121 #[.val (.int p0), .val (.int p1), .val (.int (p0.toUInt32.toUInt16.toUInt32.toInt32)), .val (.int ((p0.toUInt32.toUInt16.toUInt32.toInt32) - (48 : Int32))), .val (.int (m0_0 p0 p1 wz)), .val (.ref c3), .val (.int (f1 ((p1 &&& (2147483647 : Int32)) % (10 : Int32)) wz)), .val (.int (m0_1 p0 p1 wz)), .val (.int (f6 (f1 ((p1 &&& (2147483647 : Int32)) % (10 : Int32)) wz))), .val (.int (m0_2 p0 p1 wz)), .val (.int (m0_3 p0 p1 wz))] [(.int (0 : Int32))])) (fun t kt => ?_) ?_
    · show Steps p.tables e below (T10.setTop (mkF m 98 #[.val (.int p0), .val (.int p1), .val (.int (p0.toUInt32.toUInt16.toUInt32.toInt32)), .val (.int ((p0.toUInt32.toUInt16.toUInt32.toInt32) - (48 : Int32))), .val (.int (m0_0 p0 p1 wz)), .val (.ref c3), .val (.int (f1 ((p1 &&& (2147483647 : Int32)) % (10 : Int32)) wz)), .val (.int (m0_1 p0 p1 wz)), .val (.int (f6 (f1 ((p1 &&& (2147483647 : Int32)) % (10 : Int32)) wz))), .val (.int (m0_2 p0 p1 wz)), .val (.int (m0_3 p0 p1 wz))] [(.int (m0_1 p0 p1 wz))])) _
      refine XS.ifYes X10.here hx rfl (pc0 := 98) (pc' := 120) rfl (hb hby at_98) rfl ((if0 _ _).trans (teq hc98_12).1) (by decide) (by decide) ?_
      show Steps p.tables e below (T10.setTop (mkF m 120 #[.val (.int p0), .val (.int p1), .val (.int (p0.toUInt32.toUInt16.toUInt32.toInt32)), .val (.int ((p0.toUInt32.toUInt16.toUInt32.toInt32) - (48 : Int32))), .val (.int (m0_0 p0 p1 wz)), .val (.ref c3), .val (.int (f1 ((p1 &&& (2147483647 : Int32)) % (10 : Int32)) wz)), .val (.int (m0_1 p0 p1 wz)), .val (.int (f6 (f1 ((p1 &&& (2147483647 : Int32)) % (10 : Int32)) wz))), .val (.int (m0_2 p0 p1 wz)), .val (.int (m0_3 p0 p1 wz))] [])) _
      refine XS.iconst X10.here hx rfl (hb hby at_120) ?_
      exact kt
    obtain ⟨fs, hr, hrun, hended, hEnd⟩ := Stand.leaveW (s := s) X10 hS3 (by rw [e10]; exact hk3) (v := some (.int (0 : Int32))) (fun h => by rw [Bd.returns] at h; cases h) (BodyLoose.notSynchronized Bd)
    refine ⟨_, _, ?_, hrun, hended, _, _, rfl, ?_, own_endW hEnd (by decide) (by decide)⟩
    · show Steps p.tables e below (T10.setTop (mkF m 121 #[.val (.int p0), .val (.int p1), .val (.int (p0.toUInt32.toUInt16.toUInt32.toInt32)), .val (.int ((p0.toUInt32.toUInt16.toUInt32.toInt32) - (48 : Int32))), .val (.int (m0_0 p0 p1 wz)), .val (.ref c3), .val (.int (f1 ((p1 &&& (2147483647 : Int32)) % (10 : Int32)) wz)), .val (.int (m0_1 p0 p1 wz)), .val (.int (f6 (f1 ((p1 &&& (2147483647 : Int32)) % (10 : Int32)) wz))), .val (.int (m0_2 p0 p1 wz)), .val (.int (m0_3 p0 p1 wz))] [(.int (0 : Int32))])) _
      exact retN X10 hx (t := .boolean) Bd.returns (by simp) (hb hby at_121) hr
    · show Q0 Z p0 p1 wf wz h0 n0 _ T10.heap _
      rw [e10]
      exact ⟨by rw [show f0 p0 p1 wz = (0 : Int32) from by unfold f0; rw [if_pos hc98_12]], N10⟩
  · refine own_back (b := T10.setTop (mkF m 103 #[.val (.int p0), .val (.int p1), .val (.int (p0.toUInt32.toUInt16.toUInt32.toInt32)), .val (.int ((p0.toUInt32.toUInt16.toUInt32.toInt32) - (48 : Int32))), .val (.int (m0_0 p0 p1 wz)), .val (.ref c3), .val (.int (f1 ((p1 &&& (2147483647 : Int32)) % (10 : Int32)) wz)), .val (.int (m0_1 p0 p1 wz)), .val (.int (f6 (f1 ((p1 &&& (2147483647 : Int32)) % (10 : Int32)) wz))), .val (.int (m0_2 p0 p1 wz)), .val (.int (m0_3 p0 p1 wz))] [(.int (f6 (f1 ((p1 &&& (2147483647 : Int32)) % (10 : Int32)) wz)))])) (fun t kt => ?_) ?_
    · show Steps p.tables e below (T10.setTop (mkF m 98 #[.val (.int p0), .val (.int p1), .val (.int (p0.toUInt32.toUInt16.toUInt32.toInt32)), .val (.int ((p0.toUInt32.toUInt16.toUInt32.toInt32) - (48 : Int32))), .val (.int (m0_0 p0 p1 wz)), .val (.ref c3), .val (.int (f1 ((p1 &&& (2147483647 : Int32)) % (10 : Int32)) wz)), .val (.int (m0_1 p0 p1 wz)), .val (.int (f6 (f1 ((p1 &&& (2147483647 : Int32)) % (10 : Int32)) wz))), .val (.int (m0_2 p0 p1 wz)), .val (.int (m0_3 p0 p1 wz))] [(.int (m0_1 p0 p1 wz))])) _
      refine XS.ifNo X10.here hx rfl (hb hby at_98) rfl ((if0 _ _).trans (feq hc98_12).1) ?_
      show Steps p.tables e below (T10.setTop (mkF m 101 #[.val (.int p0), .val (.int p1), .val (.int (p0.toUInt32.toUInt16.toUInt32.toInt32)), .val (.int ((p0.toUInt32.toUInt16.toUInt32.toInt32) - (48 : Int32))), .val (.int (m0_0 p0 p1 wz)), .val (.ref c3), .val (.int (f1 ((p1 &&& (2147483647 : Int32)) % (10 : Int32)) wz)), .val (.int (m0_1 p0 p1 wz)), .val (.int (f6 (f1 ((p1 &&& (2147483647 : Int32)) % (10 : Int32)) wz))), .val (.int (m0_2 p0 p1 wz)), .val (.int (m0_3 p0 p1 wz))] [])) _
      refine XS.iload X10.here hx rfl (hb hby at_101) rfl ?_
      exact kt
    by_cases hc103_13 : (f6 (f1 ((p1 &&& (2147483647 : Int32)) % (10 : Int32)) wz)) = (0 : Int32)
    · refine own_back (b := T10.setTop (mkF m 121 #[.val (.int p0), .val (.int p1), .val (.int (p0.toUInt32.toUInt16.toUInt32.toInt32)), .val (.int ((p0.toUInt32.toUInt16.toUInt32.toInt32) - (48 : Int32))), .val (.int (m0_0 p0 p1 wz)), .val (.ref c3), .val (.int (f1 ((p1 &&& (2147483647 : Int32)) % (10 : Int32)) wz)), .val (.int (m0_1 p0 p1 wz)), .val (.int (f6 (f1 ((p1 &&& (2147483647 : Int32)) % (10 : Int32)) wz))), .val (.int (m0_2 p0 p1 wz)), .val (.int (m0_3 p0 p1 wz))] [(.int (0 : Int32))])) (fun t kt => ?_) ?_
      · show Steps p.tables e below (T10.setTop (mkF m 103 #[.val (.int p0), .val (.int p1), .val (.int (p0.toUInt32.toUInt16.toUInt32.toInt32)), .val (.int ((p0.toUInt32.toUInt16.toUInt32.toInt32) - (48 : Int32))), .val (.int (m0_0 p0 p1 wz)), .val (.ref c3), .val (.int (f1 ((p1 &&& (2147483647 : Int32)) % (10 : Int32)) wz)), .val (.int (m0_1 p0 p1 wz)), .val (.int (f6 (f1 ((p1 &&& (2147483647 : Int32)) % (10 : Int32)) wz))), .val (.int (m0_2 p0 p1 wz)), .val (.int (m0_3 p0 p1 wz))] [(.int (f6 (f1 ((p1 &&& (2147483647 : Int32)) % (10 : Int32)) wz)))])) _
        refine XS.ifYes X10.here hx rfl (pc0 := 103) (pc' := 120) rfl (hb hby at_103) rfl ((if0 _ _).trans (teq hc103_13).1) (by decide) (by decide) ?_
        show Steps p.tables e below (T10.setTop (mkF m 120 #[.val (.int p0), .val (.int p1), .val (.int (p0.toUInt32.toUInt16.toUInt32.toInt32)), .val (.int ((p0.toUInt32.toUInt16.toUInt32.toInt32) - (48 : Int32))), .val (.int (m0_0 p0 p1 wz)), .val (.ref c3), .val (.int (f1 ((p1 &&& (2147483647 : Int32)) % (10 : Int32)) wz)), .val (.int (m0_1 p0 p1 wz)), .val (.int (f6 (f1 ((p1 &&& (2147483647 : Int32)) % (10 : Int32)) wz))), .val (.int (m0_2 p0 p1 wz)), .val (.int (m0_3 p0 p1 wz))] [])) _
        refine XS.iconst X10.here hx rfl (hb hby at_120) ?_
        exact kt
      obtain ⟨fs, hr, hrun, hended, hEnd⟩ := Stand.leaveW (s := s) X10 hS3 (by rw [e10]; exact hk3) (v := some (.int (0 : Int32))) (fun h => by rw [Bd.returns] at h; cases h) (BodyLoose.notSynchronized Bd)
      refine ⟨_, _, ?_, hrun, hended, _, _, rfl, ?_, own_endW hEnd (by decide) (by decide)⟩
      · show Steps p.tables e below (T10.setTop (mkF m 121 #[.val (.int p0), .val (.int p1), .val (.int (p0.toUInt32.toUInt16.toUInt32.toInt32)), .val (.int ((p0.toUInt32.toUInt16.toUInt32.toInt32) - (48 : Int32))), .val (.int (m0_0 p0 p1 wz)), .val (.ref c3), .val (.int (f1 ((p1 &&& (2147483647 : Int32)) % (10 : Int32)) wz)), .val (.int (m0_1 p0 p1 wz)), .val (.int (f6 (f1 ((p1 &&& (2147483647 : Int32)) % (10 : Int32)) wz))), .val (.int (m0_2 p0 p1 wz)), .val (.int (m0_3 p0 p1 wz))] [(.int (0 : Int32))])) _
        exact retN X10 hx (t := .boolean) Bd.returns (by simp) (hb hby at_121) hr
      · show Q0 Z p0 p1 wf wz h0 n0 _ T10.heap _
        rw [e10]
        exact ⟨by rw [show f0 p0 p1 wz = (0 : Int32) from by unfold f0; rw [if_neg hc98_12, if_pos hc103_13]], N10⟩
    · refine own_back (b := T10.setTop (mkF m 108 #[.val (.int p0), .val (.int p1), .val (.int (p0.toUInt32.toUInt16.toUInt32.toInt32)), .val (.int ((p0.toUInt32.toUInt16.toUInt32.toInt32) - (48 : Int32))), .val (.int (m0_0 p0 p1 wz)), .val (.ref c3), .val (.int (f1 ((p1 &&& (2147483647 : Int32)) % (10 : Int32)) wz)), .val (.int (m0_1 p0 p1 wz)), .val (.int (f6 (f1 ((p1 &&& (2147483647 : Int32)) % (10 : Int32)) wz))), .val (.int (m0_2 p0 p1 wz)), .val (.int (m0_3 p0 p1 wz))] [(.int (m0_2 p0 p1 wz))])) (fun t kt => ?_) ?_
      · show Steps p.tables e below (T10.setTop (mkF m 103 #[.val (.int p0), .val (.int p1), .val (.int (p0.toUInt32.toUInt16.toUInt32.toInt32)), .val (.int ((p0.toUInt32.toUInt16.toUInt32.toInt32) - (48 : Int32))), .val (.int (m0_0 p0 p1 wz)), .val (.ref c3), .val (.int (f1 ((p1 &&& (2147483647 : Int32)) % (10 : Int32)) wz)), .val (.int (m0_1 p0 p1 wz)), .val (.int (f6 (f1 ((p1 &&& (2147483647 : Int32)) % (10 : Int32)) wz))), .val (.int (m0_2 p0 p1 wz)), .val (.int (m0_3 p0 p1 wz))] [(.int (f6 (f1 ((p1 &&& (2147483647 : Int32)) % (10 : Int32)) wz)))])) _
        refine XS.ifNo X10.here hx rfl (hb hby at_103) rfl ((if0 _ _).trans (feq hc103_13).1) ?_
        show Steps p.tables e below (T10.setTop (mkF m 106 #[.val (.int p0), .val (.int p1), .val (.int (p0.toUInt32.toUInt16.toUInt32.toInt32)), .val (.int ((p0.toUInt32.toUInt16.toUInt32.toInt32) - (48 : Int32))), .val (.int (m0_0 p0 p1 wz)), .val (.ref c3), .val (.int (f1 ((p1 &&& (2147483647 : Int32)) % (10 : Int32)) wz)), .val (.int (m0_1 p0 p1 wz)), .val (.int (f6 (f1 ((p1 &&& (2147483647 : Int32)) % (10 : Int32)) wz))), .val (.int (m0_2 p0 p1 wz)), .val (.int (m0_3 p0 p1 wz))] [])) _
        refine XS.iload X10.here hx rfl (hb hby at_106) rfl ?_
        exact kt
      by_cases hc108_14 : (m0_2 p0 p1 wz) = (0 : Int32)
      · refine own_back (b := T10.setTop (mkF m 121 #[.val (.int p0), .val (.int p1), .val (.int (p0.toUInt32.toUInt16.toUInt32.toInt32)), .val (.int ((p0.toUInt32.toUInt16.toUInt32.toInt32) - (48 : Int32))), .val (.int (m0_0 p0 p1 wz)), .val (.ref c3), .val (.int (f1 ((p1 &&& (2147483647 : Int32)) % (10 : Int32)) wz)), .val (.int (m0_1 p0 p1 wz)), .val (.int (f6 (f1 ((p1 &&& (2147483647 : Int32)) % (10 : Int32)) wz))), .val (.int (m0_2 p0 p1 wz)), .val (.int (m0_3 p0 p1 wz))] [(.int (0 : Int32))])) (fun t kt => ?_) ?_
        · show Steps p.tables e below (T10.setTop (mkF m 108 #[.val (.int p0), .val (.int p1), .val (.int (p0.toUInt32.toUInt16.toUInt32.toInt32)), .val (.int ((p0.toUInt32.toUInt16.toUInt32.toInt32) - (48 : Int32))), .val (.int (m0_0 p0 p1 wz)), .val (.ref c3), .val (.int (f1 ((p1 &&& (2147483647 : Int32)) % (10 : Int32)) wz)), .val (.int (m0_1 p0 p1 wz)), .val (.int (f6 (f1 ((p1 &&& (2147483647 : Int32)) % (10 : Int32)) wz))), .val (.int (m0_2 p0 p1 wz)), .val (.int (m0_3 p0 p1 wz))] [(.int (m0_2 p0 p1 wz))])) _
          refine XS.ifYes X10.here hx rfl (pc0 := 108) (pc' := 120) rfl (hb hby at_108) rfl ((if0 _ _).trans (teq hc108_14).1) (by decide) (by decide) ?_
          show Steps p.tables e below (T10.setTop (mkF m 120 #[.val (.int p0), .val (.int p1), .val (.int (p0.toUInt32.toUInt16.toUInt32.toInt32)), .val (.int ((p0.toUInt32.toUInt16.toUInt32.toInt32) - (48 : Int32))), .val (.int (m0_0 p0 p1 wz)), .val (.ref c3), .val (.int (f1 ((p1 &&& (2147483647 : Int32)) % (10 : Int32)) wz)), .val (.int (m0_1 p0 p1 wz)), .val (.int (f6 (f1 ((p1 &&& (2147483647 : Int32)) % (10 : Int32)) wz))), .val (.int (m0_2 p0 p1 wz)), .val (.int (m0_3 p0 p1 wz))] [])) _
          refine XS.iconst X10.here hx rfl (hb hby at_120) ?_
          exact kt
        obtain ⟨fs, hr, hrun, hended, hEnd⟩ := Stand.leaveW (s := s) X10 hS3 (by rw [e10]; exact hk3) (v := some (.int (0 : Int32))) (fun h => by rw [Bd.returns] at h; cases h) (BodyLoose.notSynchronized Bd)
        refine ⟨_, _, ?_, hrun, hended, _, _, rfl, ?_, own_endW hEnd (by decide) (by decide)⟩
        · show Steps p.tables e below (T10.setTop (mkF m 121 #[.val (.int p0), .val (.int p1), .val (.int (p0.toUInt32.toUInt16.toUInt32.toInt32)), .val (.int ((p0.toUInt32.toUInt16.toUInt32.toInt32) - (48 : Int32))), .val (.int (m0_0 p0 p1 wz)), .val (.ref c3), .val (.int (f1 ((p1 &&& (2147483647 : Int32)) % (10 : Int32)) wz)), .val (.int (m0_1 p0 p1 wz)), .val (.int (f6 (f1 ((p1 &&& (2147483647 : Int32)) % (10 : Int32)) wz))), .val (.int (m0_2 p0 p1 wz)), .val (.int (m0_3 p0 p1 wz))] [(.int (0 : Int32))])) _
          exact retN X10 hx (t := .boolean) Bd.returns (by simp) (hb hby at_121) hr
        · show Q0 Z p0 p1 wf wz h0 n0 _ T10.heap _
          rw [e10]
          exact ⟨by rw [show f0 p0 p1 wz = (0 : Int32) from by unfold f0; rw [if_neg hc98_12, if_neg hc103_13, if_pos hc108_14]], N10⟩
      · refine own_back (b := T10.setTop (mkF m 113 #[.val (.int p0), .val (.int p1), .val (.int (p0.toUInt32.toUInt16.toUInt32.toInt32)), .val (.int ((p0.toUInt32.toUInt16.toUInt32.toInt32) - (48 : Int32))), .val (.int (m0_0 p0 p1 wz)), .val (.ref c3), .val (.int (f1 ((p1 &&& (2147483647 : Int32)) % (10 : Int32)) wz)), .val (.int (m0_1 p0 p1 wz)), .val (.int (f6 (f1 ((p1 &&& (2147483647 : Int32)) % (10 : Int32)) wz))), .val (.int (m0_2 p0 p1 wz)), .val (.int (m0_3 p0 p1 wz))] [(.int (m0_3 p0 p1 wz))])) (fun t kt => ?_) ?_
        · show Steps p.tables e below (T10.setTop (mkF m 108 #[.val (.int p0), .val (.int p1), .val (.int (p0.toUInt32.toUInt16.toUInt32.toInt32)), .val (.int ((p0.toUInt32.toUInt16.toUInt32.toInt32) - (48 : Int32))), .val (.int (m0_0 p0 p1 wz)), .val (.ref c3), .val (.int (f1 ((p1 &&& (2147483647 : Int32)) % (10 : Int32)) wz)), .val (.int (m0_1 p0 p1 wz)), .val (.int (f6 (f1 ((p1 &&& (2147483647 : Int32)) % (10 : Int32)) wz))), .val (.int (m0_2 p0 p1 wz)), .val (.int (m0_3 p0 p1 wz))] [(.int (m0_2 p0 p1 wz))])) _
          refine XS.ifNo X10.here hx rfl (hb hby at_108) rfl ((if0 _ _).trans (feq hc108_14).1) ?_
          show Steps p.tables e below (T10.setTop (mkF m 111 #[.val (.int p0), .val (.int p1), .val (.int (p0.toUInt32.toUInt16.toUInt32.toInt32)), .val (.int ((p0.toUInt32.toUInt16.toUInt32.toInt32) - (48 : Int32))), .val (.int (m0_0 p0 p1 wz)), .val (.ref c3), .val (.int (f1 ((p1 &&& (2147483647 : Int32)) % (10 : Int32)) wz)), .val (.int (m0_1 p0 p1 wz)), .val (.int (f6 (f1 ((p1 &&& (2147483647 : Int32)) % (10 : Int32)) wz))), .val (.int (m0_2 p0 p1 wz)), .val (.int (m0_3 p0 p1 wz))] [])) _
          refine XS.iload X10.here hx rfl (hb hby at_111) rfl ?_
          exact kt
        by_cases hc113_15 : (m0_3 p0 p1 wz) = (0 : Int32)
        · refine own_back (b := T10.setTop (mkF m 121 #[.val (.int p0), .val (.int p1), .val (.int (p0.toUInt32.toUInt16.toUInt32.toInt32)), .val (.int ((p0.toUInt32.toUInt16.toUInt32.toInt32) - (48 : Int32))), .val (.int (m0_0 p0 p1 wz)), .val (.ref c3), .val (.int (f1 ((p1 &&& (2147483647 : Int32)) % (10 : Int32)) wz)), .val (.int (m0_1 p0 p1 wz)), .val (.int (f6 (f1 ((p1 &&& (2147483647 : Int32)) % (10 : Int32)) wz))), .val (.int (m0_2 p0 p1 wz)), .val (.int (m0_3 p0 p1 wz))] [(.int (0 : Int32))])) (fun t kt => ?_) ?_
          · show Steps p.tables e below (T10.setTop (mkF m 113 #[.val (.int p0), .val (.int p1), .val (.int (p0.toUInt32.toUInt16.toUInt32.toInt32)), .val (.int ((p0.toUInt32.toUInt16.toUInt32.toInt32) - (48 : Int32))), .val (.int (m0_0 p0 p1 wz)), .val (.ref c3), .val (.int (f1 ((p1 &&& (2147483647 : Int32)) % (10 : Int32)) wz)), .val (.int (m0_1 p0 p1 wz)), .val (.int (f6 (f1 ((p1 &&& (2147483647 : Int32)) % (10 : Int32)) wz))), .val (.int (m0_2 p0 p1 wz)), .val (.int (m0_3 p0 p1 wz))] [(.int (m0_3 p0 p1 wz))])) _
            refine XS.ifYes X10.here hx rfl (pc0 := 113) (pc' := 120) rfl (hb hby at_113) rfl ((if0 _ _).trans (teq hc113_15).1) (by decide) (by decide) ?_
            show Steps p.tables e below (T10.setTop (mkF m 120 #[.val (.int p0), .val (.int p1), .val (.int (p0.toUInt32.toUInt16.toUInt32.toInt32)), .val (.int ((p0.toUInt32.toUInt16.toUInt32.toInt32) - (48 : Int32))), .val (.int (m0_0 p0 p1 wz)), .val (.ref c3), .val (.int (f1 ((p1 &&& (2147483647 : Int32)) % (10 : Int32)) wz)), .val (.int (m0_1 p0 p1 wz)), .val (.int (f6 (f1 ((p1 &&& (2147483647 : Int32)) % (10 : Int32)) wz))), .val (.int (m0_2 p0 p1 wz)), .val (.int (m0_3 p0 p1 wz))] [])) _
            refine XS.iconst X10.here hx rfl (hb hby at_120) ?_
            exact kt
          obtain ⟨fs, hr, hrun, hended, hEnd⟩ := Stand.leaveW (s := s) X10 hS3 (by rw [e10]; exact hk3) (v := some (.int (0 : Int32))) (fun h => by rw [Bd.returns] at h; cases h) (BodyLoose.notSynchronized Bd)
          refine ⟨_, _, ?_, hrun, hended, _, _, rfl, ?_, own_endW hEnd (by decide) (by decide)⟩
          · show Steps p.tables e below (T10.setTop (mkF m 121 #[.val (.int p0), .val (.int p1), .val (.int (p0.toUInt32.toUInt16.toUInt32.toInt32)), .val (.int ((p0.toUInt32.toUInt16.toUInt32.toInt32) - (48 : Int32))), .val (.int (m0_0 p0 p1 wz)), .val (.ref c3), .val (.int (f1 ((p1 &&& (2147483647 : Int32)) % (10 : Int32)) wz)), .val (.int (m0_1 p0 p1 wz)), .val (.int (f6 (f1 ((p1 &&& (2147483647 : Int32)) % (10 : Int32)) wz))), .val (.int (m0_2 p0 p1 wz)), .val (.int (m0_3 p0 p1 wz))] [(.int (0 : Int32))])) _
            exact retN X10 hx (t := .boolean) Bd.returns (by simp) (hb hby at_121) hr
          · show Q0 Z p0 p1 wf wz h0 n0 _ T10.heap _
            rw [e10]
            exact ⟨by rw [show f0 p0 p1 wz = (0 : Int32) from by unfold f0; rw [if_neg hc98_12, if_neg hc103_13, if_neg hc108_14, if_pos hc113_15]], N10⟩
        · refine own_back (b := T10.setTop (mkF m 121 #[.val (.int p0), .val (.int p1), .val (.int (p0.toUInt32.toUInt16.toUInt32.toInt32)), .val (.int ((p0.toUInt32.toUInt16.toUInt32.toInt32) - (48 : Int32))), .val (.int (m0_0 p0 p1 wz)), .val (.ref c3), .val (.int (f1 ((p1 &&& (2147483647 : Int32)) % (10 : Int32)) wz)), .val (.int (m0_1 p0 p1 wz)), .val (.int (f6 (f1 ((p1 &&& (2147483647 : Int32)) % (10 : Int32)) wz))), .val (.int (m0_2 p0 p1 wz)), .val (.int (m0_3 p0 p1 wz))] [(.int (1 : Int32))])) (fun t kt => ?_) ?_
          · show Steps p.tables e below (T10.setTop (mkF m 113 #[.val (.int p0), .val (.int p1), .val (.int (p0.toUInt32.toUInt16.toUInt32.toInt32)), .val (.int ((p0.toUInt32.toUInt16.toUInt32.toInt32) - (48 : Int32))), .val (.int (m0_0 p0 p1 wz)), .val (.ref c3), .val (.int (f1 ((p1 &&& (2147483647 : Int32)) % (10 : Int32)) wz)), .val (.int (m0_1 p0 p1 wz)), .val (.int (f6 (f1 ((p1 &&& (2147483647 : Int32)) % (10 : Int32)) wz))), .val (.int (m0_2 p0 p1 wz)), .val (.int (m0_3 p0 p1 wz))] [(.int (m0_3 p0 p1 wz))])) _
            refine XS.ifNo X10.here hx rfl (hb hby at_113) rfl ((if0 _ _).trans (feq hc113_15).1) ?_
            show Steps p.tables e below (T10.setTop (mkF m 116 #[.val (.int p0), .val (.int p1), .val (.int (p0.toUInt32.toUInt16.toUInt32.toInt32)), .val (.int ((p0.toUInt32.toUInt16.toUInt32.toInt32) - (48 : Int32))), .val (.int (m0_0 p0 p1 wz)), .val (.ref c3), .val (.int (f1 ((p1 &&& (2147483647 : Int32)) % (10 : Int32)) wz)), .val (.int (m0_1 p0 p1 wz)), .val (.int (f6 (f1 ((p1 &&& (2147483647 : Int32)) % (10 : Int32)) wz))), .val (.int (m0_2 p0 p1 wz)), .val (.int (m0_3 p0 p1 wz))] [])) _
            refine XS.iconst X10.here hx rfl (hb hby at_116) ?_
            show Steps p.tables e below (T10.setTop (mkF m 117 #[.val (.int p0), .val (.int p1), .val (.int (p0.toUInt32.toUInt16.toUInt32.toInt32)), .val (.int ((p0.toUInt32.toUInt16.toUInt32.toInt32) - (48 : Int32))), .val (.int (m0_0 p0 p1 wz)), .val (.ref c3), .val (.int (f1 ((p1 &&& (2147483647 : Int32)) % (10 : Int32)) wz)), .val (.int (m0_1 p0 p1 wz)), .val (.int (f6 (f1 ((p1 &&& (2147483647 : Int32)) % (10 : Int32)) wz))), .val (.int (m0_2 p0 p1 wz)), .val (.int (m0_3 p0 p1 wz))] [(.int (1 : Int32))])) _
            refine XS.goto X10.here hx rfl (pc0 := 117) (pc' := 121) rfl (hb hby at_117) (by decide) (by decide) ?_
            exact kt
          obtain ⟨fs, hr, hrun, hended, hEnd⟩ := Stand.leaveW (s := s) X10 hS3 (by rw [e10]; exact hk3) (v := some (.int (1 : Int32))) (fun h => by rw [Bd.returns] at h; cases h) (BodyLoose.notSynchronized Bd)
          refine ⟨_, _, ?_, hrun, hended, _, _, rfl, ?_, own_endW hEnd (by decide) (by decide)⟩
          · show Steps p.tables e below (T10.setTop (mkF m 121 #[.val (.int p0), .val (.int p1), .val (.int (p0.toUInt32.toUInt16.toUInt32.toInt32)), .val (.int ((p0.toUInt32.toUInt16.toUInt32.toInt32) - (48 : Int32))), .val (.int (m0_0 p0 p1 wz)), .val (.ref c3), .val (.int (f1 ((p1 &&& (2147483647 : Int32)) % (10 : Int32)) wz)), .val (.int (m0_1 p0 p1 wz)), .val (.int (f6 (f1 ((p1 &&& (2147483647 : Int32)) % (10 : Int32)) wz))), .val (.int (m0_2 p0 p1 wz)), .val (.int (m0_3 p0 p1 wz))] [(.int (1 : Int32))])) _
            exact retN X10 hx (t := .boolean) Bd.returns (by simp) (hb hby at_121) hr
          · show Q0 Z p0 p1 wf wz h0 n0 _ T10.heap _
            rw [e10]
            exact ⟨by rw [show f0 p0 p1 wz = (1 : Int32) from by unfold f0; rw [if_neg hc98_12, if_neg hc103_13, if_neg hc108_14, if_neg hc113_15]], N10⟩
theorem own_dig (x : Int32) (y z : Int32) : f6 (x.toUInt32.toUInt16.toUInt32.toInt32) = m0_0 x y z := by
  unfold f6 m0_0
  obtain ⟨-, h0, h1⟩ := c_i2c x
  generalize x.toUInt32.toUInt16.toUInt32.toInt32 = c at *
  have hs := c_isub c 48
  have hr := rng32 (c - 48)
  have k0 : (0 : Int32).toInt = 0 := rfl
  have k48 : (48 : Int32).toInt = 48 := rfl
  have k57 : (57 : Int32).toInt = 57 := rfl
  have k10 : (10 : Int32).toInt = 10 := rfl
  simp only [Int32.lt_iff_toInt_lt, k0, k48, k57, k10]
  rw [k48] at hs
  repeat' split
  all_goals first | rfl | (exfalso; omega)
theorem own_ch (k : Int32) (h : ¬ k < (0 : Int32) ∧ k < (10 : Int32)) : f6 (nar .char (f3 k)) = 1 := own_10 (fun k => f6 (nar .char (f3 k)) = 1) k h.1 h.2 (by decide +kernel)
theorem own_law (a b : Int32) (z : Int32) : f0 a b z = 1 := by
  have e1 : m0_1 a b z = 1 := by unfold m0_1; rw [if_pos (own_dig a b z)]
  have e2 : m0_2 a b z = 1 := by unfold m0_2; decide
  have e3 : m0_3 a b z = 1 := by unfold m0_3; decide
  have e4 : f6 (f1 ((b &&& (2147483647 : Int32)) % (10 : Int32)) z) = 1 := own_ch _ (own_k b)
  unfold f0
  rw [e1, e2, e3, e4]
  decide
set_option maxRecDepth 65536 in
set_option maxHeartbeats 40000000 in
theorem comes_1 {Post : Tables → Env → Array Value → State → Outcome → State → Prop} (hpost : ∀ tb e args s v u, (limb_1_1.after args s (.returned v) u = true ∧ limb_1_2.after args s (.returned v) u = true ∧ True) → ReturnedEndW s (.returned v) u (Jvm.fieldLocs frame_1_writes args s ++ Jvm.arrayLocs frame_1_arrays args s ++ Jvm.staticLocs frame_1_statics s) 8 1088 → Post tb e args s (.returned v) u) :
    ArmFor flags0 classFile x code maxLocals ret World_1 tables_1 room_1 Calls_1 rest_1 Pre_1 Post := by
  intro l hfl _ _ p e ha hc hk s m args below hf hA hF happ hP
  obtain ⟨hcalls, hrest, hpre⟩ := hP
  obtain ⟨-, -, -, hnamed, -, -, -, hat⟩ := (Spec.applies_iff hf).mp happ
  obtain ⟨hg, hn⟩ := and_e (Cond.before_iff.mp (show (Jvm.Cond.and given_1 narrow_1).before args s = true from hpre))
  obtain ⟨gc, gr0⟩ := and_e hg
  obtain ⟨ga0, gr1⟩ := and_e gr0
  obtain ⟨w0, w1, rfl⟩ : ∃ w0 w1 : Value, args = #[w0, w1] := by
    have hs : args.size = 2 := by simpa [Cond.value, given_1] using gc
    obtain ⟨L⟩ := args
    match L, hs with
    | [w0, w1], _ => exact ⟨w0, w1, rfl⟩
  have hw := fun d (hd : d ∈ tables_1) => atoms_spec (ws := Jvm.Cond.code x code maxLocals ret :: tables_1) hat d (List.mem_cons_of_mem _ hd)
  have hfit : Fit s := fun {y c} hc i hi => by
    obtain ⟨ha, rfl⟩ := Array.getElem?_eq_some_iff.mp hc
    have q := List.all_eq_true.mp ((Array.all_eq_true_iff_forall_mem.mp hF) _ (Array.getElem_mem ha)) i (List.mem_range.mpr hi)
    simpa [Array.getElem?_eq_getElem hi] using q
  obtain ⟨hsets, hown0⟩ := atoms_of _ (rest_1_c_eq ▸ (show rest_1_c.before _ s = true from hrest))
  have hr0 := Cond.before_iff.mp hown0
  obtain ⟨i0, ei0⟩ := is_v ga0
  obtain rfl : w0 = (.int i0) := Option.some.inj ei0
  obtain ⟨i1, ei1⟩ := is_v gr1
  obtain rfl : w1 = (.int i1) := Option.some.inj ei1
  have v1 := Cond.before_iff.mp (hsets _ (List.mem_of_getElem? (i := 1) rfl))
  obtain ⟨wz, evz⟩ := is_v v1
  have Sz := Sta.start evz (Or.inl (hsets _ (List.mem_of_getElem? (i := 0) rfl)))
  have hwz : ¬ wz = (0 : Int32) := gotF (Cond.eq_ints evz (Term.int_eval 0)) (not_v (Cond.before_iff.mp (hsets _ (List.mem_of_getElem? (i := 2) rfl))))
  obtain ⟨wf, evf, hwf⟩ := isR_v (Cond.before_iff.mp (hsets _ (List.mem_of_getElem? (i := 8) rfl)))
  have Sf := Sta.start evf (Or.inl (hsets _ (List.mem_of_getElem? (i := 7) rfl)))
  have hheld : Jvm.Lit.constHeld s "com/example/kinetic_model_check/kineticmodelcheck/dynamics/FormulaTokensIsDigitPinLaw" 7 := hcalls.1 ("com/example/kinetic_model_check/kineticmodelcheck/dynamics/FormulaTokensIsDigitPinLaw", 7) (List.mem_singleton.mpr rfl)
  have hcw : Jvm.Lit.compactW.before _ s = true := hsets _ (List.mem_of_getElem? (i := 2) rfl)
  obtain ⟨n, o, h1, h2, h3, _, L, rfl, ⟨rfl, N⟩, hq⟩ := rm0 l s _ hw tables_1 i0 i1 wf wz s.heap s.heap.size (Nat.le_refl _) Sf Sz hwf hwz hheld hcw p e ha hc hk s m _ below hf ((Spec.applies_iff_loose hf).mp happ).1 ⟨rfl, State.Warmed39.refl s, rfl, rfl, IB.start⟩ trivial
  refine ⟨n, _, h1, h2, h3, hpost _ _ _ _ _ _ ⟨Cond.after_iff.mpr rfl, Cond.after_iff.mpr (eq_i res_at (Term.int_eval (1)) (congrArg Value.int (own_law i0 i1 wz))), trivial⟩ ⟨hq.1, hq.2.1, hq.2.2.1, (hq.2.2.2.sift fun y hy => Or.inr (N y hy)).mono (by decide) (by decide)⟩⟩
theorem main_1_1 : Claimed_1_1 := comes_1 fun _ _ _ _ _ _ h hF => ⟨h.1, hF⟩
theorem main_1_2 : Claimed_1_2 := comes_1 fun _ _ _ _ _ _ h hF => ⟨h.2.1, hF⟩
end Jvm.Pilot.@@N@@
namespace Jvm.Pilot.@@N@@
open Jvm Jvm.ClassFile Sem Op Lib Jvm.Free Jvm.Stand Jvm.Pilot.@@N@@.Jvm.D
/-! MADE BY PROGRAM (witnessworld.py) out of the Statement's table words and the real class files: 17 classes; the members and pool entries that the words name. The judged class is class 1, her method 1. -/
namespace start1
open Jvm.ClassFile
def u (s : String) : CpInfo := .utf8 (stringToUtf16 s)
/-- a pool by its gaps: so many unusable entries, then the entry; so many at the end -/
def gap : Nat → List CpInfo → List CpInfo
  | 0, r => r
  | n + 1, r => .unusable :: gap n r
def poolList (es : List (Nat × CpInfo)) (last : Nat) : List CpInfo := es.foldr (fun e r => gap e.1 (e.2 :: r)) (gap last [])
def pool (es : List (Nat × CpInfo)) (last : Nat) : Array CpInfo := ⟨poolList es last⟩
def fileOf (pool : Array CpInfo) (this : Nat) (attrs : Array Attribute := #[]) (ms : Array MethodInfo := #[]) (fl : Nat := 33) (sup : Nat := 0) (ifs : Array Nat := #[]) (fds : Array FieldInfo := #[]) : ClassFile where
  minorVersion := 0
  majorVersion := 65
  constantPool := pool
  accessFlags := fl
  thisClass := this
  superClass := sup
  interfaces := ifs
  fields := fds
  methods := ms
  attributes := attrs
def plain (name : String) (sup : Option ClassId) : Class where
  name := name
  kind := .ordinary
  loader := none
  accessFlags := 33
  super := sup
  interfaces := #[]
  cf := none
  fields := #[]
  methods := #[]
  instanceTypes := #[]
  staticTypes := #[]
  resolved := #[]
  callSites := []
  init := .initialized
  statics := none
  mirror := none

def pool0 : Array CpInfo := pool [(5, u "<init>"), (0, u "()V"), (1, .class_ 10), (1, u "java/lang/Object")] 113

def k0m0 : Method := { name := "<init>", desc := "()V", sig := { parameters := [], returnType := none }, accessFlags := 1, code := none }
/-- java/lang/Object -/
def k0 : Class := { plain "java/lang/Object" none with
  accessFlags := 33
  interfaces := #[]
  cf := some (fileOf pool0 8 #[] #[{ accessFlags := 1, nameIndex := 5, descriptorIndex := 6, attributes := #[] }] 33 0 #[] #[])
  fields := #[]
  methods := #[k0m0]
  instanceTypes := #[]
  staticTypes := #[]
  resolved := Array.replicate 124 none
  statics := none }

def pool1 : Array CpInfo := pool [(2, .class_ 4), (1, u "java/lang/Object"), (0, u "<init>"), (0, u "()V"), (0, .string 8), (0, u "0123456789"), (0, .integer 2147483647), (0, .methodref 11 12), (0, .class_ 13), (0, .nameAndType 14 15), (0, u "java/lang/String"), (0, u "charAt"), (0, u "(I)C"), (0, .methodref 17 18), (0, .class_ 19), (0, .nameAndType 20 21), (0, u "com/example/kinetic_model_check/kineticmodelcheck/dynamics/FormulaTokens"), (0, u "isDigit"), (0, u "(C)Z"), (0, .class_ 23), (0, u "com/example/kinetic_model_check/kineticmodelcheck/dynamics/FormulaTokensIsDigitPinLaw"), (2, u "law"), (0, u "(II)Z")] 3

def k1m0 : Method := { name := "<init>", desc := "()V", sig := { parameters := [], returnType := none }, accessFlags := 2, code := none }
def k1c1 : Code := { maxStack := 3, maxLocals := 11, code := code, exceptionTable := #[], attributes := #[] }
def k1m1 : Method := { name := "law", desc := "(II)Z", sig := { parameters := [.int, .int], returnType := some .boolean }, accessFlags := 9, code := some k1c1 }
/-- com/example/kinetic_model_check/kineticmodelcheck/dynamics/FormulaTokensIsDigitPinLaw -/
def k1 : Class := { plain "com/example/kinetic_model_check/kineticmodelcheck/dynamics/FormulaTokensIsDigitPinLaw" (some 0) with
  accessFlags := 49
  interfaces := #[]
  cf := some (fileOf pool1 22 #[] #[{ accessFlags := 2, nameIndex := 5, descriptorIndex := 6, attributes := #[] }, { accessFlags := 9, nameIndex := 26, descriptorIndex := 27, attributes := #[] }] 49 2 #[] #[])
  fields := #[]
  methods := #[k1m0, k1m1]
  instanceTypes := #[]
  staticTypes := #[]
  resolved := Array.replicate 31 none
  statics := none }

def pool2 : Array CpInfo := pool [(1, .class_ 2), (0, u "java/io/Serializable"), (0, .class_ 4), (0, u "java/lang/Object")] 2

/-- java/io/Serializable -/
def k2 : Class := { plain "java/io/Serializable" (some 0) with
  accessFlags := 1537
  interfaces := #[]
  cf := some (fileOf pool2 1 #[] #[] 1537 3 #[] #[])
  fields := #[]
  methods := #[]
  instanceTypes := #[]
  staticTypes := #[]
  resolved := Array.replicate 7 none
  statics := none }

def pool3 : Array CpInfo := pool [(1, .class_ 2), (0, u "java/lang/Comparable"), (0, .class_ 4), (0, u "java/lang/Object")] 7

/-- java/lang/Comparable -/
def k3 : Class := { plain "java/lang/Comparable" (some 0) with
  accessFlags := 1537
  interfaces := #[]
  cf := some (fileOf pool3 1 #[] #[] 1537 3 #[] #[])
  fields := #[]
  methods := #[]
  instanceTypes := #[]
  staticTypes := #[]
  resolved := Array.replicate 12 none
  statics := none }

def pool4 : Array CpInfo := pool [(2, .class_ 4), (1, u "java/lang/CharSequence"), (42, .class_ 48), (0, u "java/lang/CharSequence$1CodePointIterator"), (10, .class_ 60), (0, u "java/lang/CharSequence$1CharIterator"), (5, .class_ 67), (0, u "java/lang/Object")] 63

/-- java/lang/CharSequence -/
def k4 : Class := { plain "java/lang/CharSequence" (some 0) with
  accessFlags := 1537
  interfaces := #[]
  cf := some (fileOf pool4 2 #[.nestMembers #[47, 59]] #[] 1537 66 #[] #[])
  fields := #[]
  methods := #[]
  instanceTypes := #[]
  staticTypes := #[]
  resolved := Array.replicate 131 none
  statics := none }

def pool5 : Array CpInfo := pool [(1, .class_ 2), (0, u "java/lang/constant/Constable"), (0, .class_ 4), (0, u "java/lang/Object")] 6

/-- java/lang/constant/Constable -/
def k5 : Class := { plain "java/lang/constant/Constable" (some 0) with
  accessFlags := 1537
  interfaces := #[]
  cf := some (fileOf pool5 1 #[] #[] 1537 3 #[] #[])
  fields := #[]
  methods := #[]
  instanceTypes := #[]
  staticTypes := #[]
  resolved := Array.replicate 11 none
  statics := none }

def pool6 : Array CpInfo := pool [(1, .class_ 2), (0, u "java/lang/constant/ConstantDesc"), (0, .class_ 4), (0, u "java/lang/Object")] 32

/-- java/lang/constant/ConstantDesc -/
def k6 : Class := { plain "java/lang/constant/ConstantDesc" (some 0) with
  accessFlags := 1537
  interfaces := #[]
  cf := some (fileOf pool6 1 #[] #[] 1537 3 #[] #[])
  fields := #[]
  methods := #[]
  instanceTypes := #[]
  staticTypes := #[]
  resolved := Array.replicate 37 none
  statics := none }

def pool7 : Array CpInfo := pool [(2, .class_ 4), (1, u "java/lang/Object"), (0, u "<init>"), (0, u "()V"), (2, .fieldref 10 11), (0, .class_ 12), (0, .nameAndType 13 14), (0, u "java/lang/String"), (0, u "value"), (0, u "[B"), (0, .fieldref 10 16), (0, .nameAndType 17 18), (0, u "coder"), (0, u "B"), (2, u "hash"), (0, u "I"), (2, u "hashIsZero"), (0, u "Z"), (11, .fieldref 10 39), (0, .nameAndType 40 26), (0, u "COMPACT_STRINGS"), (66, .class_ 109), (1, u "java/lang/StringLatin1"), (32, u "()Z"), (220, u "([BI)C"), (27, u "(II)V"), (35, u "(I)C"), (64, .methodref 10 493), (0, .nameAndType 494 142), (0, u "isLatin1"), (0, .methodref 107 496), (0, .nameAndType 497 363), (0, u "charAt"), (3, u "checkIndex"), (73, .class_ 576), (0, u "java/lang/CharSequence"), (22, u "CASE_INSENSITIVE_ORDER"), (0, u "Ljava/util/Comparator;"), (452, .fieldref 1054 1055), (0, .class_ 1056), (0, .nameAndType 1057 1058), (0, u "jdk/internal/util/Preconditions"), (0, u "SIOOBE_FORMATTER"), (0, u "Ljava/util/function/BiFunction;"), (0, .methodref 1054 1060), (0, .nameAndType 501 1061), (0, u "(IILjava/util/function/BiFunction;)I"), (39, u "serialPersistentFields"), (0, u "[Ljava/io/ObjectStreamField;"), (0, .class_ 1104), (0, u "java/lang/String$CaseInsensitiveComparator"), (1, .class_ 1107), (0, u "java/io/Serializable"), (0, .class_ 1109), (0, u "java/lang/Comparable"), (0, .class_ 1111), (0, u "java/lang/constant/Constable"), (0, .class_ 1113), (0, u "java/lang/constant/ConstantDesc"), (2, u "serialVersionUID"), (0, u "J"), (3, u "REPL"), (0, u "C"), (2, u "LATIN1"), (1, u "UTF16")] 323

def k7m0 : Method := { name := "<init>", desc := "()V", sig := { parameters := [], returnType := none }, accessFlags := 1, code := none }
def k7c1 : Code := { maxStack := 2, maxLocals := 2, code := jdk_42_method_56_code, exceptionTable := #[], attributes := #[] }
def k7m1 : Method := { name := "charAt", desc := "(I)C", sig := { parameters := [.int], returnType := some .char }, accessFlags := 1, code := some k7c1 }
def k7c2 : Code := { maxStack := 1, maxLocals := 1, code := jdk_42_method_154_code, exceptionTable := #[], attributes := #[] }
def k7m2 : Method := { name := "isLatin1", desc := "()Z", sig := { parameters := [], returnType := some .boolean }, accessFlags := 0, code := some k7c2 }
def k7c3 : Code := { maxStack := 3, maxLocals := 2, code := jdk_42_method_155_code, exceptionTable := #[], attributes := #[] }
def k7m3 : Method := { name := "checkIndex", desc := "(II)V", sig := { parameters := [.int, .int], returnType := none }, accessFlags := 8, code := some k7c3 }
/-- java/lang/String -/
def k7 : Class := { plain "java/lang/String" (some 0) with
  accessFlags := 49
  interfaces := #[2, 3, 4, 5, 6]
  cf := some (fileOf pool7 10 #[.nestMembers #[1103]] #[{ accessFlags := 1, nameIndex := 5, descriptorIndex := 6, attributes := #[] }, { accessFlags := 1, nameIndex := 497, descriptorIndex := 427, attributes := #[] }, { accessFlags := 0, nameIndex := 494, descriptorIndex := 142, attributes := #[] }, { accessFlags := 8, nameIndex := 501, descriptorIndex := 391, attributes := #[] }] 49 2 #[1106, 1108, 575, 1110, 1112] #[{ accessFlags := 18, nameIndex := 13, descriptorIndex := 14, attributes := #[] }, { accessFlags := 18, nameIndex := 17, descriptorIndex := 18, attributes := #[] }, { accessFlags := 2, nameIndex := 21, descriptorIndex := 22, attributes := #[] }, { accessFlags := 2, nameIndex := 25, descriptorIndex := 26, attributes := #[] }, { accessFlags := 26, nameIndex := 1116, descriptorIndex := 1117, attributes := #[] }, { accessFlags := 24, nameIndex := 40, descriptorIndex := 26, attributes := #[] }, { accessFlags := 26, nameIndex := 1101, descriptorIndex := 1102, attributes := #[] }, { accessFlags := 26, nameIndex := 1121, descriptorIndex := 1122, attributes := #[] }, { accessFlags := 25, nameIndex := 599, descriptorIndex := 600, attributes := #[] }, { accessFlags := 24, nameIndex := 1125, descriptorIndex := 18, attributes := #[] }, { accessFlags := 24, nameIndex := 1127, descriptorIndex := 18, attributes := #[] }])
  fields := #[{ name := "value", type := (.array .byte), accessFlags := 18, slot := 0, constantValue := 0 }, { name := "coder", type := .byte, accessFlags := 18, slot := 1, constantValue := 0 }, { name := "hash", type := .int, accessFlags := 2, slot := 2, constantValue := 0 }, { name := "hashIsZero", type := .boolean, accessFlags := 2, slot := 3, constantValue := 0 }, { name := "serialVersionUID", type := .long, accessFlags := 26, slot := 0, constantValue := 0 }, { name := "COMPACT_STRINGS", type := .boolean, accessFlags := 24, slot := 1, constantValue := 0 }, { name := "serialPersistentFields", type := (.array (.object "java/io/ObjectStreamField")), accessFlags := 26, slot := 2, constantValue := 0 }, { name := "REPL", type := .char, accessFlags := 26, slot := 3, constantValue := 0 }, { name := "CASE_INSENSITIVE_ORDER", type := (.object "java/util/Comparator"), accessFlags := 25, slot := 4, constantValue := 0 }, { name := "LATIN1", type := .byte, accessFlags := 24, slot := 5, constantValue := 0 }, { name := "UTF16", type := .byte, accessFlags := 24, slot := 6, constantValue := 0 }]
  methods := #[k7m0, k7m1, k7m2, k7m3]
  instanceTypes := #[(.array .byte), .byte, .int, .boolean]
  staticTypes := #[.long, .boolean, (.array (.object "java/io/ObjectStreamField")), .char, (.object "java/util/Comparator"), .byte, .byte]
  resolved := Array.replicate 1451 none
  statics := some 0 }

def pool8 : Array CpInfo := pool [(1, .class_ 2), (0, u "java/lang/String"), (1, .class_ 6), (1, u "java/lang/Object"), (0, u "<init>"), (0, u "()V"), (0, .methodref 1 10), (0, .nameAndType 11 12), (0, u "checkIndex"), (0, u "(II)V"), (1, .class_ 16), (1, u "java/lang/StringLatin1"), (36, u "([BI)C"), (67, u "$assertionsDisabled"), (0, u "Z"), (98, .class_ 223), (1, u "java/lang/StringLatin1$LinesSpliterator"), (28, u "charAt"), (137, .class_ 391), (0, u "java/lang/StringLatin1$CharsSpliterator")] 3

def k8m0 : Method := { name := "<init>", desc := "()V", sig := { parameters := [], returnType := none }, accessFlags := 0, code := none }
def k8c1 : Code := { maxStack := 2, maxLocals := 2, code := jdk_43_method_2_code, exceptionTable := #[], attributes := #[] }
def k8m1 : Method := { name := "charAt", desc := "([BI)C", sig := { parameters := [(.array .byte), .int], returnType := some .char }, accessFlags := 9, code := some k8c1 }
/-- java/lang/StringLatin1 -/
def k8 : Class := { plain "java/lang/StringLatin1" (some 0) with
  accessFlags := 48
  interfaces := #[]
  cf := some (fileOf pool8 14 #[.nestMembers #[390, 221]] #[{ accessFlags := 0, nameIndex := 7, descriptorIndex := 8, attributes := #[] }, { accessFlags := 9, nameIndex := 252, descriptorIndex := 53, attributes := #[] }] 48 4 #[] #[{ accessFlags := 4120, nameIndex := 121, descriptorIndex := 122, attributes := #[] }])
  fields := #[{ name := "$assertionsDisabled", type := .boolean, accessFlags := 4120, slot := 0, constantValue := 0 }]
  methods := #[k8m0, k8m1]
  instanceTypes := #[]
  staticTypes := #[.boolean]
  resolved := Array.replicate 395 none
  statics := none }

def pool9 : Array CpInfo := pool [(2, .class_ 4), (1, u "java/lang/Object"), (0, u "<init>"), (0, u "()V"), (17, .class_ 26), (1, u "jdk/internal/util/Preconditions"), (6, u "checkIndex"), (21, .class_ 56), (0, u "jdk/internal/util/Preconditions$4"), (57, .class_ 115), (0, u "jdk/internal/util/Preconditions$1"), (7, u "SIOOBE_FORMATTER"), (0, u "Ljava/util/function/BiFunction;"), (0, .class_ 126), (0, u "jdk/internal/util/Preconditions$2"), (3, u "AIOOBE_FORMATTER"), (0, .class_ 132), (0, u "jdk/internal/util/Preconditions$3"), (3, u "IOOBE_FORMATTER"), (41, u "(IILjava/util/function/BiFunction;)I")] 15

def k9m0 : Method := { name := "<init>", desc := "()V", sig := { parameters := [], returnType := none }, accessFlags := 1, code := none }
def k9c1 : Code := { maxStack := 3, maxLocals := 3, code := jdk_41_method_11_code, exceptionTable := #[], attributes := #[] }
def k9m1 : Method := { name := "checkIndex", desc := "(IILjava/util/function/BiFunction;)I", sig := { parameters := [.int, .int, (.object "java/util/function/BiFunction")], returnType := some .int }, accessFlags := 9, code := some k9c1 }
/-- jdk/internal/util/Preconditions -/
def k9 : Class := { plain "jdk/internal/util/Preconditions" (some 0) with
  accessFlags := 33
  interfaces := #[]
  cf := some (fileOf pool9 24 #[.nestMembers #[55, 131, 125, 114]] #[{ accessFlags := 1, nameIndex := 5, descriptorIndex := 6, attributes := #[] }, { accessFlags := 9, nameIndex := 33, descriptorIndex := 178, attributes := #[] }] 33 2 #[] #[{ accessFlags := 25, nameIndex := 123, descriptorIndex := 124, attributes := #[] }, { accessFlags := 25, nameIndex := 130, descriptorIndex := 124, attributes := #[] }, { accessFlags := 25, nameIndex := 136, descriptorIndex := 124, attributes := #[] }])
  fields := #[{ name := "SIOOBE_FORMATTER", type := (.object "java/util/function/BiFunction"), accessFlags := 25, slot := 0, constantValue := 0 }, { name := "AIOOBE_FORMATTER", type := (.object "java/util/function/BiFunction"), accessFlags := 25, slot := 1, constantValue := 0 }, { name := "IOOBE_FORMATTER", type := (.object "java/util/function/BiFunction"), accessFlags := 25, slot := 2, constantValue := 0 }]
  methods := #[k9m0, k9m1]
  instanceTypes := #[]
  staticTypes := #[(.object "java/util/function/BiFunction"), (.object "java/util/function/BiFunction"), (.object "java/util/function/BiFunction")]
  resolved := Array.replicate 194 none
  statics := some 1 }

def pool10 : Array CpInfo := pool [(2, .class_ 4), (1, u "java/lang/Object"), (6, .class_ 13), (1, u "com/example/kinetic_model_check/kineticmodelcheck/dynamics/FormulaTokens"), (0, u "tokens"), (0, u "Ljava/util/List;"), (2, u "text"), (0, u "Ljava/lang/String;"), (2, u "refusal"), (11, .class_ 36), (1, u "com/example/kinetic_model_check/kineticmodelcheck/dynamics/FormulaTokens$Lexer"), (9, .class_ 48), (1, u "com/example/kinetic_model_check/kineticmodelcheck/dynamics/FormulaTokens$Token"), (1, u "I"), (1, .class_ 54), (1, u "com/example/kinetic_model_check/kineticmodelcheck/dynamics/FormulaTokens$Kind"), (9, u "next"), (15, u "depth"), (46, u "(C)Z"), (6, u "isDigit"), (7, u "MAX_DEPTH")] 45

def k10c0 : Code := { maxStack := 2, maxLocals := 1, code := prog_5_method_15_code, exceptionTable := #[], attributes := #[] }
def k10m0 : Method := { name := "isDigit", desc := "(C)Z", sig := { parameters := [.char], returnType := some .boolean }, accessFlags := 8, code := some k10c0 }
/-- com/example/kinetic_model_check/kineticmodelcheck/dynamics/FormulaTokens -/
def k10 : Class := { plain "com/example/kinetic_model_check/kineticmodelcheck/dynamics/FormulaTokens" (some 0) with
  accessFlags := 48
  interfaces := #[]
  cf := some (fileOf pool10 11 #[.nestMembers #[34, 46, 52]] #[{ accessFlags := 8, nameIndex := 134, descriptorIndex := 127, attributes := #[] }] 48 2 #[] #[{ accessFlags := 24, nameIndex := 142, descriptorIndex := 50, attributes := #[] }, { accessFlags := 18, nameIndex := 18, descriptorIndex := 19, attributes := #[] }, { accessFlags := 18, nameIndex := 22, descriptorIndex := 19, attributes := #[] }, { accessFlags := 18, nameIndex := 14, descriptorIndex := 15, attributes := #[] }, { accessFlags := 2, nameIndex := 64, descriptorIndex := 50, attributes := #[] }, { accessFlags := 2, nameIndex := 80, descriptorIndex := 50, attributes := #[] }])
  fields := #[{ name := "MAX_DEPTH", type := .int, accessFlags := 24, slot := 0, constantValue := 0 }, { name := "text", type := (.object "java/lang/String"), accessFlags := 18, slot := 0, constantValue := 0 }, { name := "refusal", type := (.object "java/lang/String"), accessFlags := 18, slot := 1, constantValue := 0 }, { name := "tokens", type := (.object "java/util/List"), accessFlags := 18, slot := 2, constantValue := 0 }, { name := "next", type := .int, accessFlags := 2, slot := 3, constantValue := 0 }, { name := "depth", type := .int, accessFlags := 2, slot := 4, constantValue := 0 }]
  methods := #[k10m0]
  instanceTypes := #[(.object "java/lang/String"), (.object "java/lang/String"), (.object "java/util/List"), .int, .int]
  staticTypes := #[.int]
  resolved := Array.replicate 188 none
  statics := none }

def pool11 : Array CpInfo := pool [(9, u "<init>"), (6, .class_ 18), (1, u "java/lang/Object"), (0, u "()V"), (1, .class_ 23), (1, u "jdk/internal/util/ArraysSupport"), (0, u "LOG2_ARRAY_LONG_INDEX_SCALE"), (0, u "I"), (2, u "U"), (0, u "Ljdk/internal/misc/Unsafe;"), (8, u "BIG_ENDIAN"), (0, u "Z"), (8, u "LOG2_BYTE_BIT_SIZE"), (4, u "LOG2_ARRAY_INT_INDEX_SCALE"), (54, u "JLA"), (0, u "Ljdk/internal/access/JavaLangAccess;"), (11, u "LOG2_ARRAY_BOOLEAN_INDEX_SCALE"), (9, u "LOG2_ARRAY_BYTE_INDEX_SCALE"), (5, u "LOG2_ARRAY_CHAR_INDEX_SCALE"), (5, u "LOG2_ARRAY_SHORT_INDEX_SCALE"), (18, u "LOG2_ARRAY_FLOAT_INDEX_SCALE"), (24, u "LOG2_ARRAY_DOUBLE_INDEX_SCALE"), (89, u "T_BOOLEAN"), (2, u "T_CHAR"), (1, u "T_FLOAT"), (1, u "T_DOUBLE"), (1, u "T_BYTE"), (1, u "T_SHORT"), (1, u "T_INT"), (1, u "T_LONG"), (1, u "SOFT_MAX_ARRAY_LENGTH")] 83

def k11m0 : Method := { name := "<init>", desc := "()V", sig := { parameters := [], returnType := none }, accessFlags := 2, code := none }
/-- jdk/internal/util/ArraysSupport -/
def k11 : Class := { plain "jdk/internal/util/ArraysSupport" (some 0) with
  accessFlags := 33
  interfaces := #[]
  cf := some (fileOf pool11 21 #[] #[{ accessFlags := 2, nameIndex := 9, descriptorIndex := 19, attributes := #[] }] 33 16 #[] #[{ accessFlags := 24, nameIndex := 28, descriptorIndex := 29, attributes := #[] }, { accessFlags := 26, nameIndex := 38, descriptorIndex := 39, attributes := #[] }, { accessFlags := 25, nameIndex := 121, descriptorIndex := 25, attributes := #[] }, { accessFlags := 25, nameIndex := 131, descriptorIndex := 25, attributes := #[] }, { accessFlags := 25, nameIndex := 137, descriptorIndex := 25, attributes := #[] }, { accessFlags := 25, nameIndex := 143, descriptorIndex := 25, attributes := #[] }, { accessFlags := 25, nameIndex := 53, descriptorIndex := 25, attributes := #[] }, { accessFlags := 25, nameIndex := 24, descriptorIndex := 25, attributes := #[] }, { accessFlags := 25, nameIndex := 162, descriptorIndex := 25, attributes := #[] }, { accessFlags := 25, nameIndex := 187, descriptorIndex := 25, attributes := #[] }, { accessFlags := 26, nameIndex := 48, descriptorIndex := 25, attributes := #[] }, { accessFlags := 25, nameIndex := 277, descriptorIndex := 25, attributes := #[] }, { accessFlags := 25, nameIndex := 280, descriptorIndex := 25, attributes := #[] }, { accessFlags := 25, nameIndex := 282, descriptorIndex := 25, attributes := #[] }, { accessFlags := 25, nameIndex := 284, descriptorIndex := 25, attributes := #[] }, { accessFlags := 25, nameIndex := 286, descriptorIndex := 25, attributes := #[] }, { accessFlags := 25, nameIndex := 288, descriptorIndex := 25, attributes := #[] }, { accessFlags := 25, nameIndex := 290, descriptorIndex := 25, attributes := #[] }, { accessFlags := 25, nameIndex := 292, descriptorIndex := 25, attributes := #[] }, { accessFlags := 26, nameIndex := 108, descriptorIndex := 109, attributes := #[] }, { accessFlags := 25, nameIndex := 294, descriptorIndex := 25, attributes := #[] }])
  fields := #[{ name := "U", type := (.object "jdk/internal/misc/Unsafe"), accessFlags := 24, slot := 0, constantValue := 0 }, { name := "BIG_ENDIAN", type := .boolean, accessFlags := 26, slot := 1, constantValue := 0 }, { name := "LOG2_ARRAY_BOOLEAN_INDEX_SCALE", type := .int, accessFlags := 25, slot := 2, constantValue := 0 }, { name := "LOG2_ARRAY_BYTE_INDEX_SCALE", type := .int, accessFlags := 25, slot := 3, constantValue := 0 }, { name := "LOG2_ARRAY_CHAR_INDEX_SCALE", type := .int, accessFlags := 25, slot := 4, constantValue := 0 }, { name := "LOG2_ARRAY_SHORT_INDEX_SCALE", type := .int, accessFlags := 25, slot := 5, constantValue := 0 }, { name := "LOG2_ARRAY_INT_INDEX_SCALE", type := .int, accessFlags := 25, slot := 6, constantValue := 0 }, { name := "LOG2_ARRAY_LONG_INDEX_SCALE", type := .int, accessFlags := 25, slot := 7, constantValue := 0 }, { name := "LOG2_ARRAY_FLOAT_INDEX_SCALE", type := .int, accessFlags := 25, slot := 8, constantValue := 0 }, { name := "LOG2_ARRAY_DOUBLE_INDEX_SCALE", type := .int, accessFlags := 25, slot := 9, constantValue := 0 }, { name := "LOG2_BYTE_BIT_SIZE", type := .int, accessFlags := 26, slot := 10, constantValue := 0 }, { name := "T_BOOLEAN", type := .int, accessFlags := 25, slot := 11, constantValue := 0 }, { name := "T_CHAR", type := .int, accessFlags := 25, slot := 12, constantValue := 0 }, { name := "T_FLOAT", type := .int, accessFlags := 25, slot := 13, constantValue := 0 }, { name := "T_DOUBLE", type := .int, accessFlags := 25, slot := 14, constantValue := 0 }, { name := "T_BYTE", type := .int, accessFlags := 25, slot := 15, constantValue := 0 }, { name := "T_SHORT", type := .int, accessFlags := 25, slot := 16, constantValue := 0 }, { name := "T_INT", type := .int, accessFlags := 25, slot := 17, constantValue := 0 }, { name := "T_LONG", type := .int, accessFlags := 25, slot := 18, constantValue := 0 }, { name := "JLA", type := (.object "jdk/internal/access/JavaLangAccess"), accessFlags := 26, slot := 19, constantValue := 0 }, { name := "SOFT_MAX_ARRAY_LENGTH", type := .int, accessFlags := 25, slot := 20, constantValue := 0 }]
  methods := #[k11m0]
  instanceTypes := #[]
  staticTypes := #[(.object "jdk/internal/misc/Unsafe"), .boolean, .int, .int, .int, .int, .int, .int, .int, .int, .int, .int, .int, .int, .int, .int, .int, .int, .int, (.object "jdk/internal/access/JavaLangAccess"), .int]
  resolved := Array.replicate 378 none
  statics := none }

def pool12 : Array CpInfo := pool [(1, u "java/lang/Cloneable"), (0, .class_ 1), (0, u "java/lang/Object"), (0, .class_ 3)] 3

/-- java/lang/Cloneable -/
def k12 : Class := { plain "java/lang/Cloneable" (some 0) with
  accessFlags := 1537
  interfaces := #[]
  cf := some (fileOf pool12 2 #[] #[] 1537 4 #[] #[])
  fields := #[]
  methods := #[]
  instanceTypes := #[]
  staticTypes := #[]
  resolved := Array.replicate 8 none
  statics := none }

/-- the primitive byte -/
def k13 : Class := { plain "byte" none with kind := .primitive 'B', accessFlags := 0x411 }
/-- [B -/
def k14 : Class := { plain "[B" (some 0) with kind := .array 13 .byte, interfaces := #[12, 2], accessFlags := 1041 }

/-- the primitive int -/
def k15 : Class := { plain "int" none with kind := .primitive 'I', accessFlags := 0x411 }
/-- [I -/
def k16 : Class := { plain "[I" (some 0) with kind := .array 15 .int, interfaces := #[12, 2], accessFlags := 1041 }

def heap : Heap := #[{ cls := 7, slots := #[.long 0, .int 1, .null, .int 0, .null, .int 0, .int 0], vm := .statics 7 },
  { cls := 9, slots := #[.null, .null, .null], vm := .statics 9 }]
def classes : Array Class := #[k0, k1, k2, k3, k4, k5, k6, k7, k8, k9, k10, k11, k12, k13, k14, k15, k16]
def interned : List (Array UInt16 × Addr) := []
def slotsUsed : Nat := 10
def theMethod : MethodId := ⟨1, 1⟩
def args0 : Array Value := #[.int 10, .int 5]
def aboutOver (below : List Frame) : State where
  vm := { classes := classes, interned := interned.toArray }
  heap := heap
  slotsUsed := slotsUsed
  threads := #[{ frames := .invoking theMethod args0 :: below }]
def below0 : List Frame := [.native { method := ⟨0, 0⟩, args := #[] }]
def about1 : State := aboutOver below0
def p0 : Program := .bare "" "" ""
def e0 : Env := launch0.env 0 0 0
theorem w_frames : about1.frames = Frame.invoking theMethod args0 :: below0 := rfl
set_option maxRecDepth 65536 in
theorem w_args : argsFit about1.vm theMethod args0 = true := by decide +kernel
set_option maxRecDepth 65536 in
theorem w_heap : heapFits about1 = true := by decide +kernel
set_option maxRecDepth 65536 in
theorem w_runnable : about1.curStatus? = some .runnable := by decide +kernel
set_option maxRecDepth 65536 in
theorem w_alone : about1.alone = true := by decide +kernel
set_option maxRecDepth 65536 in
theorem w_named : about1.methodNamed? x = some theMethod := by decide +kernel
set_option maxRecDepth 65536 in
theorem w_hears : about1.hears theMethod below0 = true := by decide +kernel
set_option maxRecDepth 65536 in
theorem w_ripe : about1.ripe theMethod args0 below0 = true := by decide +kernel
theorem w_running : about1.status = .running := rfl
set_option maxRecDepth 65536 in
theorem w_room : about1.hasRoom e0.platform room_1 = true :=
  launch0.hasRoom_least _ room_1 (by decide +kernel) (by decide +kernel) (by decide +kernel) (by decide +kernel) (by decide +kernel) (by decide +kernel)
theorem allAtoms_all (ts : List Jvm.Cond) (a : Array Jvm.Value) (st : Jvm.State) : (allAtoms ts).before a st = ts.all (fun c => c.before a st) := by
  induction ts with
  | nil => rfl
  | cons c t ih =>
    show (Jvm.Cond.and c (allAtoms t)).before a st = _
    rw [Jvm.Cond.before_and, ih, List.all_cons]
def words1 : List Jvm.Cond := Jvm.Cond.code x code maxLocals ret :: tables_1
/-- a 'code' word, met by the world's own term for the bytes: nothing is compared byte by byte -/
theorem code_word {y : MethodName} {bytes : ByteArray} {mx : Nat} {rt : Option FieldType} {a : Array Value} {s : State} {m : MethodId} {meth : Method} {c : Code} (h1 : s.methodNamed? y = some m) (h2 : s.vm.method? m = some meth) (h3 : meth.code = some c) (h4 : c.code = bytes)
    (h5 : (c.maxLocals == mx && c.exceptionTable.isEmpty && decide (c.maxStack ≤ mostOperands) && decide (meth.sig.returnType = rt) && !meth.locks && decide (parseMethodDescriptor y.desc = some meth.sig)) = true) : (Jvm.Cond.code y bytes mx rt).before a s = true := by
  simp only [Bool.and_eq_true, beq_iff_eq, Bool.not_eq_true', decide_eq_true_eq] at h5
  obtain ⟨⟨⟨⟨⟨g1, g2⟩, g3⟩, g4⟩, g5⟩, g6⟩ := h5
  simp [Cond.before, Cond.holds, Cond.value, h1, h2, h3, h4, g1, g2, g3, g4, g5, g6]
def isCode : Jvm.Cond → Bool
  | .code _ _ _ _ => true
  | _ => false
theorem all_split {L : List Jvm.Cond} {P : Jvm.Cond → Bool} (h1 : L.all (fun c => isCode c || P c) = true) (h2 : ∀ c ∈ L.filter isCode, P c = true) : L.all P = true := by
  refine List.all_eq_true.mpr fun c hc => ?_
  have h := List.all_eq_true.mp h1 c hc
  rcases Bool.eq_false_or_eq_true (isCode c) with hi | hi
  · exact h2 c (List.mem_filter.mpr ⟨hc, hi⟩)
  · simpa [hi] using h
set_option maxRecDepth 65536 in
theorem w_c0 : (Jvm.Cond.code x code maxLocals ret).before args0 about1 = true := code_word (m := ⟨1, 1⟩) (meth := k1m1) (c := k1c1) (by decide +kernel) rfl rfl rfl (by decide +kernel)
set_option maxRecDepth 65536 in
theorem w_c1 : (Jvm.Cond.code ({ cls := "java/lang/String", name := "charAt", desc := "(I)C" } : Jvm.MethodName) jdk_42_method_56_code (2 : Nat) (Option.some Jvm.ClassFile.FieldType.char)).before args0 about1 = true := code_word (m := ⟨7, 1⟩) (meth := k7m1) (c := k7c1) (by decide +kernel) rfl rfl rfl (by decide +kernel)
set_option maxRecDepth 65536 in
theorem w_c2 : (Jvm.Cond.code ({ cls := "java/lang/String", name := "isLatin1", desc := "()Z" } : Jvm.MethodName) jdk_42_method_154_code (1 : Nat) (Option.some Jvm.ClassFile.FieldType.boolean)).before args0 about1 = true := code_word (m := ⟨7, 2⟩) (meth := k7m2) (c := k7c2) (by decide +kernel) rfl rfl rfl (by decide +kernel)
set_option maxRecDepth 65536 in
theorem w_c3 : (Jvm.Cond.code ({ cls := "java/lang/StringLatin1", name := "charAt", desc := "([BI)C" } : Jvm.MethodName) jdk_43_method_2_code (2 : Nat) (Option.some Jvm.ClassFile.FieldType.char)).before args0 about1 = true := code_word (m := ⟨8, 1⟩) (meth := k8m1) (c := k8c1) (by decide +kernel) rfl rfl rfl (by decide +kernel)
set_option maxRecDepth 65536 in
theorem w_c4 : (Jvm.Cond.code ({ cls := "java/lang/String", name := "checkIndex", desc := "(II)V" } : Jvm.MethodName) jdk_42_method_155_code (2 : Nat) (Option.none : Option Jvm.ClassFile.FieldType)).before args0 about1 = true := code_word (m := ⟨7, 3⟩) (meth := k7m3) (c := k7c3) (by decide +kernel) rfl rfl rfl (by decide +kernel)
set_option maxRecDepth 65536 in
theorem w_c5 : (Jvm.Cond.code ({ cls := "jdk/internal/util/Preconditions", name := "checkIndex", desc := "(IILjava/util/function/BiFunction;)I" } : Jvm.MethodName) jdk_41_method_11_code (3 : Nat) (Option.some Jvm.ClassFile.FieldType.int)).before args0 about1 = true := code_word (m := ⟨9, 1⟩) (meth := k9m1) (c := k9c1) (by decide +kernel) rfl rfl rfl (by decide +kernel)
set_option maxRecDepth 65536 in
theorem w_c6 : (Jvm.Cond.code ({ cls := "com/example/kinetic_model_check/kineticmodelcheck/dynamics/FormulaTokens", name := "isDigit", desc := "(C)Z" } : Jvm.MethodName) prog_5_method_15_code (1 : Nat) (Option.some Jvm.ClassFile.FieldType.boolean)).before args0 about1 = true := code_word (m := ⟨10, 0⟩) (meth := k10m0) (c := k10c0) (by decide +kernel) rfl rfl rfl (by decide +kernel)
def codes1 : List Jvm.Cond := [Jvm.Cond.code x code maxLocals ret, Jvm.Cond.code ({ cls := "java/lang/String", name := "charAt", desc := "(I)C" } : Jvm.MethodName) jdk_42_method_56_code (2 : Nat) (Option.some Jvm.ClassFile.FieldType.char), Jvm.Cond.code ({ cls := "java/lang/String", name := "isLatin1", desc := "()Z" } : Jvm.MethodName) jdk_42_method_154_code (1 : Nat) (Option.some Jvm.ClassFile.FieldType.boolean), Jvm.Cond.code ({ cls := "java/lang/StringLatin1", name := "charAt", desc := "([BI)C" } : Jvm.MethodName) jdk_43_method_2_code (2 : Nat) (Option.some Jvm.ClassFile.FieldType.char), Jvm.Cond.code ({ cls := "java/lang/String", name := "checkIndex", desc := "(II)V" } : Jvm.MethodName) jdk_42_method_155_code (2 : Nat) (Option.none : Option Jvm.ClassFile.FieldType), Jvm.Cond.code ({ cls := "jdk/internal/util/Preconditions", name := "checkIndex", desc := "(IILjava/util/function/BiFunction;)I" } : Jvm.MethodName) jdk_41_method_11_code (3 : Nat) (Option.some Jvm.ClassFile.FieldType.int), Jvm.Cond.code ({ cls := "com/example/kinetic_model_check/kineticmodelcheck/dynamics/FormulaTokens", name := "isDigit", desc := "(C)Z" } : Jvm.MethodName) prog_5_method_15_code (1 : Nat) (Option.some Jvm.ClassFile.FieldType.boolean)]
set_option maxRecDepth 65536 in
theorem codes_eq : words1.filter isCode = codes1 := rfl
theorem w_codes : ∀ c ∈ words1.filter isCode, c.before args0 about1 = true := by
  rw [codes_eq]
  intro c hc
  simp only [codes1, List.mem_cons, List.not_mem_nil, or_false] at hc
  rcases hc with rfl | rfl | rfl | rfl | rfl | rfl | rfl
  · exact w_c0
  · exact w_c1
  · exact w_c2
  · exact w_c3
  · exact w_c4
  · exact w_c5
  · exact w_c6
set_option maxRecDepth 65536 in
theorem w_t1 : (words1.take 24).all (fun c => isCode c || c.before args0 about1) = true := by decide +kernel
set_option maxRecDepth 65536 in
theorem w_t2 : (words1.drop 24).all (fun c => isCode c || c.before args0 about1) = true := by decide +kernel
theorem w_tables : (allAtoms (Jvm.Cond.code x code maxLocals ret :: tables_1)).before args0 about1 = true := by
  rw [allAtoms_all]
  show words1.all (fun c => c.before args0 about1) = true
  refine all_split ?_ w_codes
  rw [← List.take_append_drop 24 words1, List.all_append, w_t1, w_t2]
  rfl
set_option maxRecDepth 65536 in
theorem w_rest : rest_1_c.before args0 about1 = true := by decide +kernel
set_option maxRecDepth 65536 in
theorem w_case : (Jvm.Cond.and given_1 narrow_1).before args0 about1 = true := by decide +kernel
set_option maxRecDepth 65536 in
theorem w_consts : constsHeld consts_1 about1 := Jvm.Lit.constsHeldB_iff.mp (by decide +kernel)
theorem w_applies : (headSpec (Jvm.Cond.code x code maxLocals ret :: tables_1) room_1).applies x e0.platform about1 = true :=
  (Spec.applies_iff w_frames).mpr ⟨w_running, w_runnable, w_alone, w_named, w_hears, w_ripe, w_room, w_tables⟩
theorem atStart : AtStart classFile x code maxLocals ret World_1 tables_1 room_1 Calls_1 rest_1 Pre_1 launch0 p0 e0 about1 theMethod args0 below0 :=
  ⟨lists_1, trivial, launch0.admits_env _ _ _, launch0.least_env, fairChoices_fair.cas, fairChoices_fair.clock, w_frames, w_args, w_heap, w_applies, ⟨w_consts, trivial⟩, w_rest, w_case⟩
end start1
theorem witness_1 : WitnessClaimed_1 := ⟨start1.p0, start1.e0, start1.about1, start1.theMethod, start1.args0, start1.below0, start1.atStart⟩
end Jvm.Pilot.@@N@@
