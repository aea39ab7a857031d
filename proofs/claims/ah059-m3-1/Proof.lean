import JvmDerived
import JvmDerived.Pilot.@@N@@Statement
import JvmDerived.Pilot.@@N@@Code
set_option linter.unusedVariables false
set_option linter.unusedSimpArgs false

namespace Jvm.RoadKit
open Sem ClassFile Op Lib Jvm.Stand Jvm.Free Jvm.LawKit
section New
variable {p : Program} {l : Launch} {e : Env} {R : Room} {s : State} {m : MethodId} {args : Array Value} {below : List Frame} {meth : Method} {c : Code} {T : State} {locs : List Loc} {cells slots : Nat}
theorem retI (X : Stand p l e R s m args below meth c T locs cells slots) (hx : p.tables.exec = Jvm.exec) {pc : Nat} {Ls : Array Slot} {z : Int32} {rest : List Value} (hret : meth.sig.returnType = some .int) (hd : decode c.code pc = .ok (.ireturn, 1)) {fs : List Frame}
    (hl : ∀ (f : JFrame) (acts : List Action), f.method = m → f.locked = none → f.entered = [] → (doReturn e (T.setTop f) acts (some (.int z))).1 = T.setFrames fs) : Steps p.tables e below (T.setTop (mkF m pc Ls (.int z :: rest))) (T.setFrames fs) :=
  retOut X hx hret rfl (Or.inl ⟨rfl, Or.inl rfl, z, rfl⟩) hd hl
theorem own_retL (X : Stand p l e R s m args below meth c T locs cells slots) (hx : p.tables.exec = Jvm.exec) {pc : Nat} {Ls : Array Slot} {z : Int64} {rest : List Value} (hret : meth.sig.returnType = some .long) (hd : decode c.code pc = .ok (.lreturn, 1)) {fs : List Frame}
    (hl : ∀ (f : JFrame) (acts : List Action), f.method = m → f.locked = none → f.entered = [] → (doReturn e (T.setTop f) acts (some (.long z))).1 = T.setFrames fs) : Steps p.tables e below (T.setTop (mkF m pc Ls (.long z :: rest))) (T.setFrames fs) :=
  retOut X hx hret rfl (Or.inr (Or.inl ⟨rfl, rfl, z, rfl⟩)) hd hl
theorem own_retA (X : Stand p l e R s m args below meth c T locs cells slots) (hx : p.tables.exec = Jvm.exec) {pc : Nat} {Ls : Array Slot} {w : Value} {t : FieldType} {rest : List Value} (hret : meth.sig.returnType = some t) (ht : t.isReference = true) (hw : w.isRef = true) (hd : decode c.code pc = .ok (.areturn, 1)) {fs : List Frame}
    (hl : ∀ (f : JFrame) (acts : List Action), f.method = m → f.locked = none → f.entered = [] → (doReturn e (T.setTop f) acts (some w)).1 = T.setFrames fs) : Steps p.tables e below (T.setTop (mkF m pc Ls (w :: rest))) (T.setFrames fs) :=
  retOut X hx hret (by cases t <;> first | (cases ht; done) | (cases w <;> first | rfl | cases hw)) (Or.inr (Or.inr (Or.inr (Or.inr ⟨rfl, ht, hw⟩)))) hd hl
theorem own_back {tb : Tables} {e : Env} {below : List Frame} {a b : State} {P : State → Outcome → Prop} (h : ∀ t, Steps tb e below b t → Steps tb e below a t) (k : ∃ t o, Steps tb e below b t ∧ P t o) : ∃ t o, Steps tb e below a t ∧ P t o := by
  obtain ⟨t, o, k1, k2⟩ := k
  exact ⟨t, o, h t k1, k2⟩
theorem own_sta_keep {Z : State} {h h' : Heap} {C n d : String} {v : Value} (F : Sta Z h C n d v) (K : Keep h h' []) : Sta Z h' C n d v := by
  obtain ⟨cf, i, k, f, st, cell, h1, h2, h3, h4, h5, r⟩ := F
  exact ⟨cf, i, k, f, st, cell, h1, h2, h3, h4, K.2.1 _ _ h5 nin0, r⟩
def ElA (Z : State) (h : Heap) (a : Addr) (ty : FieldType) (j : Int32) (v : Value) : Prop := ∃ c : Cell, Arr Z h a c ty ∧ ¬ (j < 0 ∨ c.slots.size ≤ j.toNatClampNeg) ∧ c.slots[j.toNatClampNeg]? = some v
theorem ElA.lt {Z : State} {h : Heap} {a : Addr} {ty : FieldType} {j : Int32} {v : Value} (F : ElA Z h a ty j v) : a < h.size := by obtain ⟨c, A, -⟩ := F; exact A.lt
theorem ElA.ext {Z : State} {h h' : Heap} {a : Addr} {ty : FieldType} {j : Int32} {v : Value} (F : ElA Z h a ty j v) (E : Ext h h') : ElA Z h' a ty j v := by obtain ⟨c, A, r⟩ := F; exact ⟨c, A.ext E, r⟩
theorem ElA.other {Z : State} {h h' : Heap} {a b : Addr} {ty : FieldType} {j : Int32} {v w : Value} {sl : Nat} (F : ElA Z h b ty j v) (W : Wr h h' a sl w) (q : b ≠ a) : ElA Z h' b ty j v := by obtain ⟨c, A, r⟩ := F; exact ⟨c, A.other W q, r⟩
theorem ElA.keep {Z : State} {h h' : Heap} {a : Addr} {ty : FieldType} {j : Int32} {v : Value} {ws : List Addr} (F : ElA Z h a ty j v) (K : Keep h h' ws) (q : a ∉ ws) : ElA Z h' a ty j v := by obtain ⟨c, A, r⟩ := F; exact ⟨c, ⟨K.2.1 a c A.1 q, A.2⟩, r⟩
theorem ElA.store {Z : State} {h h' : Heap} {a : Addr} {ty : FieldType} {j : Int32} {v : Value} {c : Cell} (A : Arr Z h a c ty) (hj : ¬ (j < 0 ∨ c.slots.size ≤ j.toNatClampNeg)) (W : Wr h h' a j.toNatClampNeg v) : ElA Z h' a ty j v :=
  ⟨_, A.same W, by rw [sz_set]; exact hj, get_hit hj rfl⟩
theorem own_irr (x : Int32) : ¬ x < x := by rw [Int32.lt_iff_toInt_lt]; omega
theorem own_irrL (x : Int64) : ¬ x < x := by rw [Int64.lt_iff_toInt_lt]; omega
end New
end Jvm.RoadKit
namespace Jvm.Pilot.@@N@@
open Jvm Jvm.ClassFile Sem Op Lib Jvm.Free Jvm.Stand Jvm.LawKit Jvm.RoadKit Bundle Jvm.Pilot.@@N@@.Jvm.D

theorem d1_0 : decode jdk_29_method_70_code 0 = .ok (.lload_n 0, 1) := by decide +kernel
theorem d1_1 : decode jdk_29_method_70_code 1 = .ok (.lload_n 2, 1) := by decide +kernel
theorem d1_2 : decode jdk_29_method_70_code 2 = .ok (.lcmp, 1) := by decide +kernel
theorem d1_3 : decode jdk_29_method_70_code 3 = .ok (.ifCond .gt 7, 3) := by decide +kernel
theorem d1_6 : decode jdk_29_method_70_code 6 = .ok (.lload_n 0, 1) := by decide +kernel
theorem d1_7 : decode jdk_29_method_70_code 7 = .ok (.goto 4, 3) := by decide +kernel
theorem d1_10 : decode jdk_29_method_70_code 10 = .ok (.lload_n 2, 1) := by decide +kernel
theorem d1_11 : decode jdk_29_method_70_code 11 = .ok (.lreturn, 1) := by decide +kernel
theorem ef_1 (m : MethodId) (x0 : Int64) (x1 : Int64) : entryFrame m #[(.long x0), (.long x1)] 4 = mkF m 0 #[.val (.long x0), .second, .val (.long x1), .second] [] := by first | (simp [entryFrame, mkF, argsToLocals, Value.category]; done) | rfl
def f1 (q0 : Int64) (q1 : Int64) : Int64 := (if q1 < q0 then q1 else q0)
def Q1 (Z : State) (q0 : Int64) (q1 : Int64) (h0 : Heap) (n0 : Nat) (v : Option Value) (h : Heap) (L : List Loc) : Prop := v = some (.long (f1 q0 q1)) ∧ Fr n0 L ∧ h = h0
set_option maxRecDepth 65536 in
set_option maxHeartbeats 40000000 in
theorem rm1 (l : Launch) (Z : State) (aw : Array Value) (hw : ∀ d ∈ tables_1, d.before aw Z = true) (ws : List Jvm.Cond) (q0 : Int64) (q1 : Int64) (h0 : Heap) (n0 : Nat) (Z0 : n0 ≤ h0.size) :
    MetFree l (⟨"java/lang/Math", "min", "(JJ)J"⟩ : MethodName) (head1 (Jvm.Cond.code (⟨"java/lang/Math", "min", "(JJ)J"⟩ : MethodName) jdk_29_method_70_code 4 (some .long) :: ws) ({ frames := 0, cells := 0, slots := 0, locals := 0 } : Room)) (fun a U => a = #[(.long q0), (.long q1)] ∧ Z.Warmed39 U.vm ∧ U.heap = h0) (fun _ _ _ _ _ => True) (fun _ U o U' => ∃ v L, o = .returned v ∧ Q1 Z q0 q1 h0 n0 v U'.heap L ∧ FrameEnd U o U' L ({ frames := 0, cells := 0, slots := 0, locals := 0 } : Room).cells ({ frames := 0, cells := 0, slots := 0, locals := 0 } : Room).slots) := by
  refine MetFree.of_bodySF (Jvm.Free.JP.mathPlain rfl (by decide +kernel)) hisR ?_
  intro p e s m args below meth c s₁ Bd hml0 hP hK
  obtain ⟨rfl, hZ, hh⟩ := hP
  have hx := Bd.exec
  have hby := Bd.bytes
  have hml : c.maxLocals = 4 := hml0
  have hown : s.vm.findClass "java/lang/Math" = some m.cls := findClass_of_methodNamed Bd.named
  have hnm := (name_of_methodNamed Bd.named Bd.method).1
  have X0 : Stand p l e ({ frames := 0, cells := 0, slots := 0, locals := 0 } : Room) s m #[(.long q0), (.long q1)] below meth c s₁ [] 0 0 := Stand.of_body Bd
  have e0 : s₁.heap = h0 := by rw [← hh, Bd.state]; rfl
  have N0 := Fr.nil n0
  refine own_back (b := s₁.setTop (mkF m 0 #[.val (.long q0), .second, .val (.long q1), .second] [])) (fun t kt => castTop (ef_1 m q0 q1) kt) ?_
  refine own_back (b := s₁.setTop (mkF m 3 #[.val (.long q0), .second, .val (.long q1), .second] [(.int (lcmpW q0 q1))])) (fun t kt => ?_) ?_
  · show Steps p.tables e below (s₁.setTop (mkF m 0 #[.val (.long q0), .second, .val (.long q1), .second] [])) _
    refine XS.lloadN X0.here hx rfl (hb hby d1_0) rfl ?_
    show Steps p.tables e below (s₁.setTop (mkF m 1 #[.val (.long q0), .second, .val (.long q1), .second] [(.long q0)])) _
    refine XS.lloadN X0.here hx rfl (hb hby d1_1) rfl ?_
    show Steps p.tables e below (s₁.setTop (mkF m 2 #[.val (.long q0), .second, .val (.long q1), .second] [(.long q1), (.long q0)])) _
    refine XS.lcmp X0.here hx rfl (hb hby d1_2) rfl ?_
    exact kt
  by_cases hc3_1 : q1 < q0
  · refine own_back (b := s₁.setTop (mkF m 11 #[.val (.long q0), .second, .val (.long q1), .second] [(.long q1)])) (fun t kt => ?_) ?_
    · show Steps p.tables e below (s₁.setTop (mkF m 3 #[.val (.long q0), .second, .val (.long q1), .second] [(.int (lcmpW q0 q1))])) _
      refine XS.ifYes X0.here hx rfl (pc0 := 3) (pc' := 10) rfl (hb hby d1_3) rfl ((if0 _ _).trans (tlt ((lw_gt _ _).mpr hc3_1)).2.2.1) (by decide) (by decide) ?_
      show Steps p.tables e below (s₁.setTop (mkF m 10 #[.val (.long q0), .second, .val (.long q1), .second] [])) _
      refine XS.lloadN X0.here hx rfl (hb hby d1_10) rfl ?_
      exact kt
    obtain ⟨fs, hr, hrun, hended, hW, hsame⟩ := X0.leave (v := some (.long q1)) (fun h => by rw [Bd.returns] at h; cases h)
    refine ⟨_, _, ?_, hrun, hended, _, _, rfl, ?_, ⟨_, rfl⟩, hW, hsame.mono (by decide) (by decide)⟩
    · show Steps p.tables e below (s₁.setTop (mkF m 11 #[.val (.long q0), .second, .val (.long q1), .second] [(.long q1)])) _
      exact own_retL X0 hx Bd.returns (hb hby d1_11) hr
    · show Q1 Z q0 q1 h0 n0 _ s₁.heap _
      rw [e0]
      exact ⟨by rw [show f1 q0 q1 = q1 from by unfold f1; rw [if_pos hc3_1]], N0, rfl⟩
  · refine own_back (b := s₁.setTop (mkF m 11 #[.val (.long q0), .second, .val (.long q1), .second] [(.long q0)])) (fun t kt => ?_) ?_
    · show Steps p.tables e below (s₁.setTop (mkF m 3 #[.val (.long q0), .second, .val (.long q1), .second] [(.int (lcmpW q0 q1))])) _
      refine XS.ifNo X0.here hx rfl (hb hby d1_3) rfl ((if0 _ _).trans (flt (fun q => hc3_1 ((lw_gt _ _).mp q))).2.2.1) ?_
      show Steps p.tables e below (s₁.setTop (mkF m 6 #[.val (.long q0), .second, .val (.long q1), .second] [])) _
      refine XS.lloadN X0.here hx rfl (hb hby d1_6) rfl ?_
      show Steps p.tables e below (s₁.setTop (mkF m 7 #[.val (.long q0), .second, .val (.long q1), .second] [(.long q0)])) _
      refine XS.goto X0.here hx rfl (pc0 := 7) (pc' := 11) rfl (hb hby d1_7) (by decide) (by decide) ?_
      exact kt
    obtain ⟨fs, hr, hrun, hended, hW, hsame⟩ := X0.leave (v := some (.long q0)) (fun h => by rw [Bd.returns] at h; cases h)
    refine ⟨_, _, ?_, hrun, hended, _, _, rfl, ?_, ⟨_, rfl⟩, hW, hsame.mono (by decide) (by decide)⟩
    · show Steps p.tables e below (s₁.setTop (mkF m 11 #[.val (.long q0), .second, .val (.long q1), .second] [(.long q0)])) _
      exact own_retL X0 hx Bd.returns (hb hby d1_11) hr
    · show Q1 Z q0 q1 h0 n0 _ s₁.heap _
      rw [e0]
      exact ⟨by rw [show f1 q0 q1 = q0 from by unfold f1; rw [if_neg hc3_1]], N0, rfl⟩
theorem d2_0 : decode jdk_29_method_66_code 0 = .ok (.lload_n 0, 1) := by decide +kernel
theorem d2_1 : decode jdk_29_method_66_code 1 = .ok (.lload_n 2, 1) := by decide +kernel
theorem d2_2 : decode jdk_29_method_66_code 2 = .ok (.lcmp, 1) := by decide +kernel
theorem d2_3 : decode jdk_29_method_66_code 3 = .ok (.ifCond .lt 7, 3) := by decide +kernel
theorem d2_6 : decode jdk_29_method_66_code 6 = .ok (.lload_n 0, 1) := by decide +kernel
theorem d2_7 : decode jdk_29_method_66_code 7 = .ok (.goto 4, 3) := by decide +kernel
theorem d2_10 : decode jdk_29_method_66_code 10 = .ok (.lload_n 2, 1) := by decide +kernel
theorem d2_11 : decode jdk_29_method_66_code 11 = .ok (.lreturn, 1) := by decide +kernel
theorem ef_2 (m : MethodId) (x0 : Int64) (x1 : Int64) : entryFrame m #[(.long x0), (.long x1)] 4 = mkF m 0 #[.val (.long x0), .second, .val (.long x1), .second] [] := by first | (simp [entryFrame, mkF, argsToLocals, Value.category]; done) | rfl
def f2 (q0 : Int64) (q1 : Int64) : Int64 := (if q0 < q1 then q1 else q0)
def Q2 (Z : State) (q0 : Int64) (q1 : Int64) (h0 : Heap) (n0 : Nat) (v : Option Value) (h : Heap) (L : List Loc) : Prop := v = some (.long (f2 q0 q1)) ∧ Fr n0 L ∧ h = h0
set_option maxRecDepth 65536 in
set_option maxHeartbeats 40000000 in
theorem rm2 (l : Launch) (Z : State) (aw : Array Value) (hw : ∀ d ∈ tables_1, d.before aw Z = true) (ws : List Jvm.Cond) (q0 : Int64) (q1 : Int64) (h0 : Heap) (n0 : Nat) (Z0 : n0 ≤ h0.size) :
    MetFree l (⟨"java/lang/Math", "max", "(JJ)J"⟩ : MethodName) (head1 (Jvm.Cond.code (⟨"java/lang/Math", "max", "(JJ)J"⟩ : MethodName) jdk_29_method_66_code 4 (some .long) :: ws) ({ frames := 0, cells := 0, slots := 0, locals := 0 } : Room)) (fun a U => a = #[(.long q0), (.long q1)] ∧ Z.Warmed39 U.vm ∧ U.heap = h0) (fun _ _ _ _ _ => True) (fun _ U o U' => ∃ v L, o = .returned v ∧ Q2 Z q0 q1 h0 n0 v U'.heap L ∧ FrameEnd U o U' L ({ frames := 0, cells := 0, slots := 0, locals := 0 } : Room).cells ({ frames := 0, cells := 0, slots := 0, locals := 0 } : Room).slots) := by
  refine MetFree.of_bodySF (Jvm.Free.JP.mathPlain rfl (by decide +kernel)) hisR ?_
  intro p e s m args below meth c s₁ Bd hml0 hP hK
  obtain ⟨rfl, hZ, hh⟩ := hP
  have hx := Bd.exec
  have hby := Bd.bytes
  have hml : c.maxLocals = 4 := hml0
  have hown : s.vm.findClass "java/lang/Math" = some m.cls := findClass_of_methodNamed Bd.named
  have hnm := (name_of_methodNamed Bd.named Bd.method).1
  have X0 : Stand p l e ({ frames := 0, cells := 0, slots := 0, locals := 0 } : Room) s m #[(.long q0), (.long q1)] below meth c s₁ [] 0 0 := Stand.of_body Bd
  have e0 : s₁.heap = h0 := by rw [← hh, Bd.state]; rfl
  have N0 := Fr.nil n0
  refine own_back (b := s₁.setTop (mkF m 0 #[.val (.long q0), .second, .val (.long q1), .second] [])) (fun t kt => castTop (ef_2 m q0 q1) kt) ?_
  refine own_back (b := s₁.setTop (mkF m 3 #[.val (.long q0), .second, .val (.long q1), .second] [(.int (lcmpW q0 q1))])) (fun t kt => ?_) ?_
  · show Steps p.tables e below (s₁.setTop (mkF m 0 #[.val (.long q0), .second, .val (.long q1), .second] [])) _
    refine XS.lloadN X0.here hx rfl (hb hby d2_0) rfl ?_
    show Steps p.tables e below (s₁.setTop (mkF m 1 #[.val (.long q0), .second, .val (.long q1), .second] [(.long q0)])) _
    refine XS.lloadN X0.here hx rfl (hb hby d2_1) rfl ?_
    show Steps p.tables e below (s₁.setTop (mkF m 2 #[.val (.long q0), .second, .val (.long q1), .second] [(.long q1), (.long q0)])) _
    refine XS.lcmp X0.here hx rfl (hb hby d2_2) rfl ?_
    exact kt
  by_cases hc3_1 : q0 < q1
  · refine own_back (b := s₁.setTop (mkF m 11 #[.val (.long q0), .second, .val (.long q1), .second] [(.long q1)])) (fun t kt => ?_) ?_
    · show Steps p.tables e below (s₁.setTop (mkF m 3 #[.val (.long q0), .second, .val (.long q1), .second] [(.int (lcmpW q0 q1))])) _
      refine XS.ifYes X0.here hx rfl (pc0 := 3) (pc' := 10) rfl (hb hby d2_3) rfl ((if0 _ _).trans (tlt ((lw_lt _ _).mpr hc3_1)).1) (by decide) (by decide) ?_
      show Steps p.tables e below (s₁.setTop (mkF m 10 #[.val (.long q0), .second, .val (.long q1), .second] [])) _
      refine XS.lloadN X0.here hx rfl (hb hby d2_10) rfl ?_
      exact kt
    obtain ⟨fs, hr, hrun, hended, hW, hsame⟩ := X0.leave (v := some (.long q1)) (fun h => by rw [Bd.returns] at h; cases h)
    refine ⟨_, _, ?_, hrun, hended, _, _, rfl, ?_, ⟨_, rfl⟩, hW, hsame.mono (by decide) (by decide)⟩
    · show Steps p.tables e below (s₁.setTop (mkF m 11 #[.val (.long q0), .second, .val (.long q1), .second] [(.long q1)])) _
      exact own_retL X0 hx Bd.returns (hb hby d2_11) hr
    · show Q2 Z q0 q1 h0 n0 _ s₁.heap _
      rw [e0]
      exact ⟨by rw [show f2 q0 q1 = q1 from by unfold f2; rw [if_pos hc3_1]], N0, rfl⟩
  · refine own_back (b := s₁.setTop (mkF m 11 #[.val (.long q0), .second, .val (.long q1), .second] [(.long q0)])) (fun t kt => ?_) ?_
    · show Steps p.tables e below (s₁.setTop (mkF m 3 #[.val (.long q0), .second, .val (.long q1), .second] [(.int (lcmpW q0 q1))])) _
      refine XS.ifNo X0.here hx rfl (hb hby d2_3) rfl ((if0 _ _).trans (flt (fun q => hc3_1 ((lw_lt _ _).mp q))).1) ?_
      show Steps p.tables e below (s₁.setTop (mkF m 6 #[.val (.long q0), .second, .val (.long q1), .second] [])) _
      refine XS.lloadN X0.here hx rfl (hb hby d2_6) rfl ?_
      show Steps p.tables e below (s₁.setTop (mkF m 7 #[.val (.long q0), .second, .val (.long q1), .second] [(.long q0)])) _
      refine XS.goto X0.here hx rfl (pc0 := 7) (pc' := 11) rfl (hb hby d2_7) (by decide) (by decide) ?_
      exact kt
    obtain ⟨fs, hr, hrun, hended, hW, hsame⟩ := X0.leave (v := some (.long q0)) (fun h => by rw [Bd.returns] at h; cases h)
    refine ⟨_, _, ?_, hrun, hended, _, _, rfl, ?_, ⟨_, rfl⟩, hW, hsame.mono (by decide) (by decide)⟩
    · show Steps p.tables e below (s₁.setTop (mkF m 11 #[.val (.long q0), .second, .val (.long q1), .second] [(.long q0)])) _
      exact own_retL X0 hx Bd.returns (hb hby d2_11) hr
    · show Q2 Z q0 q1 h0 n0 _ s₁.heap _
      rw [e0]
      exact ⟨by rw [show f2 q0 q1 = q0 from by unfold f2; rw [if_neg hc3_1]], N0, rfl⟩
theorem d3_0 : decode prog_3_method_1_code 0 = .ok (.aload_n 0, 1) := by decide +kernel
theorem d3_1 : decode prog_3_method_1_code 1 = .ok (.invokespecial 1, 3) := by decide +kernel
theorem d3_4 : decode prog_3_method_1_code 4 = .ok (.lload_n 1, 1) := by decide +kernel
theorem d3_5 : decode prog_3_method_1_code 5 = .ok (.lconst 0, 1) := by decide +kernel
theorem d3_6 : decode prog_3_method_1_code 6 = .ok (.lcmp, 1) := by decide +kernel
theorem d3_7 : decode prog_3_method_1_code 7 = .ok (.ifCond .lt 9, 3) := by decide +kernel
theorem d3_10 : decode prog_3_method_1_code 10 = .ok (.lload_n 3, 1) := by decide +kernel
theorem d3_11 : decode prog_3_method_1_code 11 = .ok (.lload_n 1, 1) := by decide +kernel
theorem d3_12 : decode prog_3_method_1_code 12 = .ok (.lcmp, 1) := by decide +kernel
theorem d3_13 : decode prog_3_method_1_code 13 = .ok (.ifCond .gt 18, 3) := by decide +kernel
theorem d3_31 : decode prog_3_method_1_code 31 = .ok (.aload_n 0, 1) := by decide +kernel
theorem d3_32 : decode prog_3_method_1_code 32 = .ok (.lload_n 1, 1) := by decide +kernel
theorem d3_33 : decode prog_3_method_1_code 33 = .ok (.putfield 16, 3) := by decide +kernel
theorem d3_36 : decode prog_3_method_1_code 36 = .ok (.aload_n 0, 1) := by decide +kernel
theorem d3_37 : decode prog_3_method_1_code 37 = .ok (.lload_n 3, 1) := by decide +kernel
theorem d3_38 : decode prog_3_method_1_code 38 = .ok (.putfield 22, 3) := by decide +kernel
theorem d3_41 : decode prog_3_method_1_code 41 = .ok (.return_, 1) := by decide +kernel
theorem pn_3 : plainName "com/example/byteloom/byteloom/ByteRange" = true := by first | (simp [plainName, overriddenIn]; done) | decide +kernel
theorem ef_3 (m : MethodId) (x0 : Addr) (x1 : Int64) (x2 : Int64) : entryFrame m #[(.ref x0), (.long x1), (.long x2)] 5 = mkF m 0 #[.val (.ref x0), .val (.long x1), .second, .val (.long x2), .second] [] := by first | (simp [entryFrame, mkF, argsToLocals, Value.category]; done) | rfl
def Q3 (Z : State) (a0 : Addr) (q1 : Int64) (q2 : Int64) (h0 : Heap) (n0 : Nat) (v : Option Value) (h : Heap) (L : List Loc) : Prop := v = none ∧ Fr n0 L ∧ Keep h0 h [a0] ∧ Exa Z h a0 "com/example/byteloom/byteloom/ByteRange" ∧ Fld Z h a0 "com/example/byteloom/byteloom/ByteRange" "from" "J" (.long q1) ∧ Fld Z h a0 "com/example/byteloom/byteloom/ByteRange" "to" "J" (.long q2)
set_option maxRecDepth 65536 in
set_option maxHeartbeats 40000000 in
theorem rm3 (l : Launch) (Z : State) (aw : Array Value) (hw : ∀ d ∈ tables_1, d.before aw Z = true) (ws : List Jvm.Cond) (a0 : Addr) (q1 : Int64) (q2 : Int64) (h0 : Heap) (n0 : Nat) (Z0 : n0 ≤ h0.size) (F_from_a0 : Fld Z h0 a0 "com/example/byteloom/byteloom/ByteRange" "from" "J" (.long (0 : Int64))) (F_to_a0 : Fld Z h0 a0 "com/example/byteloom/byteloom/ByteRange" "to" "J" (.long (0 : Int64))) (E_a0 : Exa Z h0 a0 "com/example/byteloom/byteloom/ByteRange") (g_a0 : n0 ≤ a0) (hq0 : ¬ (q1 < (0 : Int64))) (hq1 : q1 < q2) :
    MetFree l (⟨"com/example/byteloom/byteloom/ByteRange", "<init>", "(JJ)V"⟩ : MethodName) (head1 (Jvm.Cond.code (⟨"com/example/byteloom/byteloom/ByteRange", "<init>", "(JJ)V"⟩ : MethodName) prog_3_method_1_code 5 none :: ws) ({ frames := 1, cells := 0, slots := 0, locals := 12 } : Room)) (fun a U => a = #[(.ref a0), (.long q1), (.long q2)] ∧ Z.Warmed39 U.vm ∧ U.heap = h0) (fun _ _ _ _ _ => True) (fun _ U o U' => ∃ v L, o = .returned v ∧ Q3 Z a0 q1 q2 h0 n0 v U'.heap L ∧ FrameEnd U o U' L ({ frames := 1, cells := 0, slots := 0, locals := 12 } : Room).cells ({ frames := 1, cells := 0, slots := 0, locals := 12 } : Room).slots) := by
  refine MetFree.of_bodySF (plainFor_of_name pn_3) hisR ?_
  intro p e s m args below meth c s₁ Bd hml0 hP hK
  obtain ⟨rfl, hZ, hh⟩ := hP
  have hx := Bd.exec
  have hby := Bd.bytes
  have hml : c.maxLocals = 5 := hml0
  have hown : s.vm.findClass "com/example/byteloom/byteloom/ByteRange" = some m.cls := findClass_of_methodNamed Bd.named
  have hnm := (name_of_methodNamed Bd.named Bd.method).1
  have X0 : Stand p l e ({ frames := 1, cells := 0, slots := 0, locals := 12 } : Room) s m #[(.ref a0), (.long q1), (.long q2)] below meth c s₁ [] 0 0 := Stand.of_body Bd
  have e0 : s₁.heap = h0 := by rw [← hh, Bd.state]; rfl
  have N0 := Fr.nil n0
  refine own_back (b := s₁.setTop (mkF m 0 #[.val (.ref a0), .val (.long q1), .second, .val (.long q2), .second] [])) (fun t kt => castTop (ef_3 m a0 q1 q2) kt) ?_
  obtain ⟨T1, X1, e1, st1⟩ := initO X0 hx hZ hown (hw _ (List.mem_of_getElem? (i := 14) rfl)) (hw _ (List.mem_of_getElem? (i := 15) rfl)) (hw _ (List.mem_of_getElem? (i := 16) rfl)) e0 (g := (mkF m 1 #[.val (.ref a0), .val (.long q1), .second, .val (.long q2), .second] [(.ref a0)])) rfl (by rw [hml]; rfl) rfl (hb hby d3_1) (by decide) (W := 0) (by show 2 * 0 + _ ≤ _; exact Nat.le_of_eq rfl) (by decide)
  obtain ⟨T2, h2, X2, e2, W2, st2⟩ := putF X1 hx hZ hown (host := "") (Or.inl (hw _ (List.mem_of_getElem? (i := 17) rfl))) Via.refl e1 F_from_a0 E_a0 (Or.inr ⟨(hw _ (List.mem_of_getElem? (i := 18) rfl)), rfl, hnm⟩) (hw _ (List.mem_of_getElem? (i := 9) rfl)) (ty := .long) (by decide) rfl rfl (g := (mkF m 33 #[.val (.ref a0), .val (.long q1), .second, .val (.long q2), .second] [(.long q1), (.ref a0)])) rfl rfl (hb hby d3_33)
  have Fw2 := F_from_a0.same W2
  have f2_0 := F_to_a0.other W2 (Or.inr (slot_ne (Or.inr (hw _ (List.mem_of_getElem? (i := 20) rfl))) (Or.inr (hw _ (List.mem_of_getElem? (i := 18) rfl))) (by decide) (t := .long) (t' := .long) (by decide) (by decide)))
  have f2_1 := E_a0.wr W2
  have K2 : Keep h0 h2 [a0] := (Keep.refl h0 _).wr W2 (Or.inl (List.mem_of_getElem? (i := 0) rfl))
  have Z2 : n0 ≤ h2.size := Nat.le_trans Z0 (Keep.of_wr W2).1
  have N2 := Fr.snoc X2 N0 g_a0
  obtain ⟨T3, h3, X3, e3, W3, st3⟩ := putF X2 hx hZ hown (host := "") (Or.inl (hw _ (List.mem_of_getElem? (i := 19) rfl))) Via.refl e2 f2_0 f2_1 (Or.inr ⟨(hw _ (List.mem_of_getElem? (i := 20) rfl)), rfl, hnm⟩) (hw _ (List.mem_of_getElem? (i := 9) rfl)) (ty := .long) (by decide) rfl rfl (g := (mkF m 38 #[.val (.ref a0), .val (.long q1), .second, .val (.long q2), .second] [(.long q2), (.ref a0)])) rfl rfl (hb hby d3_38)
  have Fw3 := f2_0.same W3
  have f3_0 := f2_1.wr W3
  have f3_1 := Fw2.other W3 (Or.inr (slot_ne (Or.inr (hw _ (List.mem_of_getElem? (i := 18) rfl))) (Or.inr (hw _ (List.mem_of_getElem? (i := 20) rfl))) (by decide) (t := .long) (t' := .long) (by decide) (by decide)))
  have K3 : Keep h0 h3 [a0] := K2.wr W3 (Or.inl (List.mem_of_getElem? (i := 0) rfl))
  have Z3 : n0 ≤ h3.size := Nat.le_trans Z2 (Keep.of_wr W3).1
  have N3 := Fr.snoc X3 N2 g_a0
  refine own_back (b := T3.setTop (mkF m 41 #[.val (.ref a0), .val (.long q1), .second, .val (.long q2), .second] [])) (fun t kt => ?_) ?_
  · show Steps p.tables e below (s₁.setTop (mkF m 0 #[.val (.ref a0), .val (.long q1), .second, .val (.long q2), .second] [])) _
    refine XS.aloadN X0.here hx rfl (hb hby d3_0) rfl rfl ?_
    show Steps p.tables e below (s₁.setTop (mkF m 1 #[.val (.ref a0), .val (.long q1), .second, .val (.long q2), .second] [(.ref a0)])) _
    refine st1 _ ?_
    show Steps p.tables e below (T1.setTop (mkF m 4 #[.val (.ref a0), .val (.long q1), .second, .val (.long q2), .second] [])) _
    refine XS.lloadN X1.here hx rfl (hb hby d3_4) rfl ?_
    show Steps p.tables e below (T1.setTop (mkF m 5 #[.val (.ref a0), .val (.long q1), .second, .val (.long q2), .second] [(.long q1)])) _
    refine XS.lconst X1.here hx rfl (hb hby d3_5) ?_
    show Steps p.tables e below (T1.setTop (mkF m 6 #[.val (.ref a0), .val (.long q1), .second, .val (.long q2), .second] [(.long (0 : Int64)), (.long q1)])) _
    refine XS.lcmp X1.here hx rfl (hb hby d3_6) rfl ?_
    show Steps p.tables e below (T1.setTop (mkF m 7 #[.val (.ref a0), .val (.long q1), .second, .val (.long q2), .second] [(.int (lcmpW q1 (0 : Int64)))])) _
    refine XS.ifNo X1.here hx rfl (hb hby d3_7) rfl ((if0 _ _).trans (flt (fun q => hq0 ((lw_lt _ _).mp q))).1) ?_
    show Steps p.tables e below (T1.setTop (mkF m 10 #[.val (.ref a0), .val (.long q1), .second, .val (.long q2), .second] [])) _
    refine XS.lloadN X1.here hx rfl (hb hby d3_10) rfl ?_
    show Steps p.tables e below (T1.setTop (mkF m 11 #[.val (.ref a0), .val (.long q1), .second, .val (.long q2), .second] [(.long q2)])) _
    refine XS.lloadN X1.here hx rfl (hb hby d3_11) rfl ?_
    show Steps p.tables e below (T1.setTop (mkF m 12 #[.val (.ref a0), .val (.long q1), .second, .val (.long q2), .second] [(.long q1), (.long q2)])) _
    refine XS.lcmp X1.here hx rfl (hb hby d3_12) rfl ?_
    show Steps p.tables e below (T1.setTop (mkF m 13 #[.val (.ref a0), .val (.long q1), .second, .val (.long q2), .second] [(.int (lcmpW q2 q1))])) _
    refine XS.ifYes X1.here hx rfl (pc0 := 13) (pc' := 31) rfl (hb hby d3_13) rfl ((if0 _ _).trans (tlt ((lw_gt _ _).mpr hq1)).2.2.1) (by decide) (by decide) ?_
    show Steps p.tables e below (T1.setTop (mkF m 31 #[.val (.ref a0), .val (.long q1), .second, .val (.long q2), .second] [])) _
    refine XS.aloadN X1.here hx rfl (hb hby d3_31) rfl rfl ?_
    show Steps p.tables e below (T1.setTop (mkF m 32 #[.val (.ref a0), .val (.long q1), .second, .val (.long q2), .second] [(.ref a0)])) _
    refine XS.lloadN X1.here hx rfl (hb hby d3_32) rfl ?_
    show Steps p.tables e below (T1.setTop (mkF m 33 #[.val (.ref a0), .val (.long q1), .second, .val (.long q2), .second] [(.long q1), (.ref a0)])) _
    refine st2 _ ?_
    show Steps p.tables e below (T2.setTop (mkF m 36 #[.val (.ref a0), .val (.long q1), .second, .val (.long q2), .second] [])) _
    refine XS.aloadN X2.here hx rfl (hb hby d3_36) rfl rfl ?_
    show Steps p.tables e below (T2.setTop (mkF m 37 #[.val (.ref a0), .val (.long q1), .second, .val (.long q2), .second] [(.ref a0)])) _
    refine XS.lloadN X2.here hx rfl (hb hby d3_37) rfl ?_
    show Steps p.tables e below (T2.setTop (mkF m 38 #[.val (.ref a0), .val (.long q1), .second, .val (.long q2), .second] [(.long q2), (.ref a0)])) _
    refine st3 _ ?_
    exact kt
  obtain ⟨fs, hr, hrun, hended, hW, hsame⟩ := X3.leave (v := none) (fun _ => rfl)
  refine ⟨_, _, ?_, hrun, hended, _, _, rfl, ?_, ⟨_, rfl⟩, hW, hsame.mono (by decide) (by decide)⟩
  · show Steps p.tables e below (T3.setTop (mkF m 41 #[.val (.ref a0), .val (.long q1), .second, .val (.long q2), .second] [])) _
    exact X3.returnOut hx Bd.returns (hb hby d3_41) hr
  · show Q3 Z a0 q1 q2 h0 n0 _ T3.heap _
    rw [e3]
    exact ⟨rfl, N3, K3, f3_0, f3_1, Fw3⟩
theorem d6_0 : decode jdk_35_method_36_code 0 = .ok (.lload_n 0, 1) := by decide +kernel
theorem d6_1 : decode jdk_35_method_36_code 1 = .ok (.lload_n 0, 1) := by decide +kernel
theorem d6_2 : decode jdk_35_method_36_code 2 = .ok (.bipush 32, 2) := by decide +kernel
theorem d6_4 : decode jdk_35_method_36_code 4 = .ok (.lushr, 1) := by decide +kernel
theorem d6_5 : decode jdk_35_method_36_code 5 = .ok (.lxor, 1) := by decide +kernel
theorem d6_6 : decode jdk_35_method_36_code 6 = .ok (.l2i, 1) := by decide +kernel
theorem d6_7 : decode jdk_35_method_36_code 7 = .ok (.ireturn, 1) := by decide +kernel
theorem pn_6 : plainName "java/lang/Long" = true := by first | (simp [plainName, overriddenIn]; done) | decide +kernel
theorem ef_6 (m : MethodId) (x0 : Int64) : entryFrame m #[(.long x0)] 2 = mkF m 0 #[.val (.long x0), .second] [] := by first | (simp [entryFrame, mkF, argsToLocals, Value.category]; done) | rfl
def f6 (q0 : Int64) : Int32 := ((q0 ^^^ ((q0.toUInt64 >>> ((32 : Int32) &&& 0x3f).toInt64.toUInt64).toInt64)).toInt32)
def Q6 (Z : State) (q0 : Int64) (h0 : Heap) (n0 : Nat) (v : Option Value) (h : Heap) (L : List Loc) : Prop := v = some (.int (f6 q0)) ∧ Fr n0 L ∧ h = h0
set_option maxRecDepth 65536 in
set_option maxHeartbeats 40000000 in
theorem rm6 (l : Launch) (Z : State) (aw : Array Value) (hw : ∀ d ∈ tables_1, d.before aw Z = true) (ws : List Jvm.Cond) (q0 : Int64) (h0 : Heap) (n0 : Nat) (Z0 : n0 ≤ h0.size) :
    MetFree l (⟨"java/lang/Long", "hashCode", "(J)I"⟩ : MethodName) (head1 (Jvm.Cond.code (⟨"java/lang/Long", "hashCode", "(J)I"⟩ : MethodName) jdk_35_method_36_code 2 (some .int) :: ws) ({ frames := 0, cells := 0, slots := 0, locals := 0 } : Room)) (fun a U => a = #[(.long q0)] ∧ Z.Warmed39 U.vm ∧ U.heap = h0) (fun _ _ _ _ _ => True) (fun _ U o U' => ∃ v L, o = .returned v ∧ Q6 Z q0 h0 n0 v U'.heap L ∧ FrameEnd U o U' L ({ frames := 0, cells := 0, slots := 0, locals := 0 } : Room).cells ({ frames := 0, cells := 0, slots := 0, locals := 0 } : Room).slots) := by
  refine MetFree.of_bodySF (plainFor_of_name pn_6) hisR ?_
  intro p e s m args below meth c s₁ Bd hml0 hP hK
  obtain ⟨rfl, hZ, hh⟩ := hP
  have hx := Bd.exec
  have hby := Bd.bytes
  have hml : c.maxLocals = 2 := hml0
  have hown : s.vm.findClass "java/lang/Long" = some m.cls := findClass_of_methodNamed Bd.named
  have hnm := (name_of_methodNamed Bd.named Bd.method).1
  have X0 : Stand p l e ({ frames := 0, cells := 0, slots := 0, locals := 0 } : Room) s m #[(.long q0)] below meth c s₁ [] 0 0 := Stand.of_body Bd
  have e0 : s₁.heap = h0 := by rw [← hh, Bd.state]; rfl
  have N0 := Fr.nil n0
  refine own_back (b := s₁.setTop (mkF m 0 #[.val (.long q0), .second] [])) (fun t kt => castTop (ef_6 m q0) kt) ?_
  refine own_back (b := s₁.setTop (mkF m 7 #[.val (.long q0), .second] [(.int ((q0 ^^^ ((q0.toUInt64 >>> ((32 : Int32) &&& 0x3f).toInt64.toUInt64).toInt64)).toInt32))])) (fun t kt => ?_) ?_
  · show Steps p.tables e below (s₁.setTop (mkF m 0 #[.val (.long q0), .second] [])) _
    refine XS.lloadN X0.here hx rfl (hb hby d6_0) rfl ?_
    show Steps p.tables e below (s₁.setTop (mkF m 1 #[.val (.long q0), .second] [(.long q0)])) _
    refine XS.lloadN X0.here hx rfl (hb hby d6_1) rfl ?_
    show Steps p.tables e below (s₁.setTop (mkF m 2 #[.val (.long q0), .second] [(.long q0), (.long q0)])) _
    refine XS.bipush X0.here hx rfl (hb hby d6_2) ?_
    show Steps p.tables e below (s₁.setTop (mkF m 4 #[.val (.long q0), .second] [(.int (32 : Int32)), (.long q0), (.long q0)])) _
    refine XS.lushr X0.here hx rfl (hb hby d6_4) rfl ?_
    show Steps p.tables e below (s₁.setTop (mkF m 5 #[.val (.long q0), .second] [(.long ((q0.toUInt64 >>> ((32 : Int32) &&& 0x3f).toInt64.toUInt64).toInt64)), (.long q0)])) _
    refine XS.lxor X0.here hx rfl (hb hby d6_5) rfl ?_
    show Steps p.tables e below (s₁.setTop (mkF m 6 #[.val (.long q0), .second] [(.long (q0 ^^^ ((q0.toUInt64 >>> ((32 : Int32) &&& 0x3f).toInt64.toUInt64).toInt64)))])) _
    refine XS.l2i X0.here hx rfl (hb hby d6_6) rfl ?_
    exact kt
  obtain ⟨fs, hr, hrun, hended, hW, hsame⟩ := X0.leave (v := some (.int ((q0 ^^^ ((q0.toUInt64 >>> ((32 : Int32) &&& 0x3f).toInt64.toUInt64).toInt64)).toInt32))) (fun h => by rw [Bd.returns] at h; cases h)
  refine ⟨_, _, ?_, hrun, hended, _, _, rfl, ?_, ⟨_, rfl⟩, hW, hsame.mono (by decide) (by decide)⟩
  · show Steps p.tables e below (s₁.setTop (mkF m 7 #[.val (.long q0), .second] [(.int ((q0 ^^^ ((q0.toUInt64 >>> ((32 : Int32) &&& 0x3f).toInt64.toUInt64).toInt64)).toInt32))])) _
    exact retI X0 hx Bd.returns (hb hby d6_7) hr
  · show Q6 Z q0 h0 n0 _ s₁.heap _
    rw [e0]
    exact ⟨by rw [show f6 q0 = ((q0 ^^^ ((q0.toUInt64 >>> ((32 : Int32) &&& 0x3f).toInt64.toUInt64).toInt64)).toInt32) from by unfold f6; rfl], N0, rfl⟩
theorem d5_0 : decode prog_3_method_6_code 0 = .ok (.aload_n 0, 1) := by decide +kernel
theorem d5_1 : decode prog_3_method_6_code 1 = .ok (.getfield 16, 3) := by decide +kernel
theorem d5_4 : decode prog_3_method_6_code 4 = .ok (.invokestatic 25, 3) := by decide +kernel
theorem d5_7 : decode prog_3_method_6_code 7 = .ok (.bipush 31, 2) := by decide +kernel
theorem d5_9 : decode prog_3_method_6_code 9 = .ok (.imul, 1) := by decide +kernel
theorem d5_10 : decode prog_3_method_6_code 10 = .ok (.aload_n 0, 1) := by decide +kernel
theorem d5_11 : decode prog_3_method_6_code 11 = .ok (.getfield 22, 3) := by decide +kernel
theorem d5_14 : decode prog_3_method_6_code 14 = .ok (.invokestatic 25, 3) := by decide +kernel
theorem d5_17 : decode prog_3_method_6_code 17 = .ok (.iadd, 1) := by decide +kernel
theorem d5_18 : decode prog_3_method_6_code 18 = .ok (.ireturn, 1) := by decide +kernel
theorem pn_5 : plainName "com/example/byteloom/byteloom/ByteRange" = true := by first | (simp [plainName, overriddenIn]; done) | decide +kernel
theorem pd_5_0 : parseMethodDescriptor "(J)I" = some ⟨[.long], some .int⟩ := by decide +kernel
theorem ef_5 (m : MethodId) (x0 : Addr) : entryFrame m #[(.ref x0)] 1 = mkF m 0 #[.val (.ref x0)] [] := by first | (simp [entryFrame, mkF, argsToLocals, Value.category]; done) | rfl
def f5 (w1 : Int64) (w2 : Int64) : Int32 := (((f6 w1) * (31 : Int32)) + (f6 w2))
def Q5 (Z : State) (a0 : Addr) (w1 : Int64) (w2 : Int64) (h0 : Heap) (n0 : Nat) (v : Option Value) (h : Heap) (L : List Loc) : Prop := v = some (.int (f5 w1 w2)) ∧ Fr n0 L ∧ h = h0
set_option maxRecDepth 65536 in
set_option maxHeartbeats 40000000 in
theorem rm5 (l : Launch) (Z : State) (aw : Array Value) (hw : ∀ d ∈ tables_1, d.before aw Z = true) (ws : List Jvm.Cond) (a0 : Addr) (w1 : Int64) (w2 : Int64) (h0 : Heap) (n0 : Nat) (Z0 : n0 ≤ h0.size) (F_from_a0 : Fld Z h0 a0 "com/example/byteloom/byteloom/ByteRange" "from" "J" (.long w1)) (F_to_a0 : Fld Z h0 a0 "com/example/byteloom/byteloom/ByteRange" "to" "J" (.long w2)) :
    MetFree l (⟨"com/example/byteloom/byteloom/ByteRange", "hashCode", "()I"⟩ : MethodName) (head1 (Jvm.Cond.code (⟨"com/example/byteloom/byteloom/ByteRange", "hashCode", "()I"⟩ : MethodName) prog_3_method_6_code 1 (some .int) :: ws) ({ frames := 1, cells := 0, slots := 0, locals := 14 } : Room)) (fun a U => a = #[(.ref a0)] ∧ Z.Warmed39 U.vm ∧ U.heap = h0) (fun _ _ _ _ _ => True) (fun _ U o U' => ∃ v L, o = .returned v ∧ Q5 Z a0 w1 w2 h0 n0 v U'.heap L ∧ FrameEnd U o U' L ({ frames := 1, cells := 0, slots := 0, locals := 14 } : Room).cells ({ frames := 1, cells := 0, slots := 0, locals := 14 } : Room).slots) := by
  refine MetFree.of_bodySF (plainFor_of_name pn_5) hisR ?_
  intro p e s m args below meth c s₁ Bd hml0 hP hK
  obtain ⟨rfl, hZ, hh⟩ := hP
  have hx := Bd.exec
  have hby := Bd.bytes
  have hml : c.maxLocals = 1 := hml0
  have hown : s.vm.findClass "com/example/byteloom/byteloom/ByteRange" = some m.cls := findClass_of_methodNamed Bd.named
  have hnm := (name_of_methodNamed Bd.named Bd.method).1
  have X0 : Stand p l e ({ frames := 1, cells := 0, slots := 0, locals := 14 } : Room) s m #[(.ref a0)] below meth c s₁ [] 0 0 := Stand.of_body Bd
  have e0 : s₁.heap = h0 := by rw [← hh, Bd.state]; rfl
  have N0 := Fr.nil n0
  refine own_back (b := s₁.setTop (mkF m 0 #[.val (.ref a0)] [])) (fun t kt => castTop (ef_5 m a0) kt) ?_
  obtain ⟨T1, X1, e1, st1⟩ := getF X0 hx hZ hown (host := "") (Or.inl (hw _ (List.mem_of_getElem? (i := 17) rfl))) Via.refl e0 F_from_a0 (g := (mkF m 1 #[.val (.ref a0)] [(.ref a0)])) rfl rfl (hb hby d5_1)
  obtain ⟨_, _, ⟨T2, L2, k2, n2⟩, -, X2, ⟨Lc2, hQ2, l2, y2, z2⟩, st2⟩ := Jvm.LawKit.callS X1 hx (y := (⟨"java/lang/Long", "hashCode", "(J)I"⟩ : MethodName)) hown (mvT hZ (hw _ (List.mem_of_getElem? (i := 26) rfl))) (mvT hZ (hw _ (List.mem_of_getElem? (i := 27) rfl))) (mvT hZ (hw _ (List.mem_of_getElem? (i := 28) rfl))) (mvT hZ (hw _ (List.mem_of_getElem? (i := 29) rfl))) (by decide) (backOf (W := 0) (rm6 l Z aw hw [] w1 h0 n0 Z0 ) hZ (hw _ (List.mem_of_getElem? (i := 29) rfl)) (hw _ (List.mem_of_getElem? (i := 28) rfl)) (by decide) (by decide)) (g := (mkF m 4 #[.val (.ref a0)] [(.long w1)])) rfl (by rw [hml]; rfl) (argsL := [(.long w1)]) (rest := []) (lenOf pd_5_0 rfl) rfl (by show 2 * 0 + _ ≤ _; exact Nat.le_of_eq rfl) (hb hby d5_4) (fun _ _ => ⟨rfl, e1, (by decide : 0 + 0 ≤ _), (by decide : 0 + 0 ≤ _)⟩)
  dsimp only [Pt.U, Pt.locs, Pt.cells, Pt.slots] at X2 l2 y2 z2 st2 hQ2
  subst l2 y2 z2
  obtain ⟨rfl, Nq2, e2⟩ := hQ2
  have N2 := Fr.app N0 Nq2
  obtain ⟨T3, X3, e3, st3⟩ := getF X2 hx hZ hown (host := "") (Or.inl (hw _ (List.mem_of_getElem? (i := 19) rfl))) Via.refl e2 F_to_a0 (g := (mkF m 11 #[.val (.ref a0)] [(.ref a0), (.int ((f6 w1) * (31 : Int32)))])) rfl rfl (hb hby d5_11)
  obtain ⟨_, _, ⟨T4, L4, k4, n4⟩, -, X4, ⟨Lc4, hQ4, l4, y4, z4⟩, st4⟩ := Jvm.LawKit.callS X3 hx (y := (⟨"java/lang/Long", "hashCode", "(J)I"⟩ : MethodName)) hown (mvT hZ (hw _ (List.mem_of_getElem? (i := 26) rfl))) (mvT hZ (hw _ (List.mem_of_getElem? (i := 27) rfl))) (mvT hZ (hw _ (List.mem_of_getElem? (i := 28) rfl))) (mvT hZ (hw _ (List.mem_of_getElem? (i := 29) rfl))) (by decide) (backOf (W := 1) (rm6 l Z aw hw [] w2 h0 n0 Z0 ) hZ (hw _ (List.mem_of_getElem? (i := 29) rfl)) (hw _ (List.mem_of_getElem? (i := 28) rfl)) (by decide) (by decide)) (g := (mkF m 14 #[.val (.ref a0)] [(.long w2), (.int ((f6 w1) * (31 : Int32)))])) rfl (by rw [hml]; rfl) (argsL := [(.long w2)]) (rest := [(.int ((f6 w1) * (31 : Int32)))]) (lenOf pd_5_0 rfl) rfl (by show 2 * 0 + _ ≤ _; exact Nat.le_of_eq rfl) (hb hby d5_14) (fun _ _ => ⟨rfl, e3, (by decide : 0 + 0 ≤ _), (by decide : 0 + 0 ≤ _)⟩)
  dsimp only [Pt.U, Pt.locs, Pt.cells, Pt.slots] at X4 l4 y4 z4 st4 hQ4
  subst l4 y4 z4
  obtain ⟨rfl, Nq4, e4⟩ := hQ4
  have N4 := Fr.app N2 Nq4
  refine own_back (b := T4.setTop (mkF m 18 #[.val (.ref a0)] [(.int (((f6 w1) * (31 : Int32)) + (f6 w2)))])) (fun t kt => ?_) ?_
  · show Steps p.tables e below (s₁.setTop (mkF m 0 #[.val (.ref a0)] [])) _
    refine XS.aloadN X0.here hx rfl (hb hby d5_0) rfl rfl ?_
    show Steps p.tables e below (s₁.setTop (mkF m 1 #[.val (.ref a0)] [(.ref a0)])) _
    refine st1 _ ?_
    show Steps p.tables e below (T1.setTop (mkF m 4 #[.val (.ref a0)] [(.long w1)])) _
    refine st2 _ ?_
    show Steps p.tables e below (T2.setTop (mkF m 7 #[.val (.ref a0)] [(.int (f6 w1))])) _
    refine XS.bipush X2.here hx rfl (hb hby d5_7) ?_
    show Steps p.tables e below (T2.setTop (mkF m 9 #[.val (.ref a0)] [(.int (31 : Int32)), (.int (f6 w1))])) _
    refine XS.imul X2.here hx rfl (hb hby d5_9) rfl ?_
    show Steps p.tables e below (T2.setTop (mkF m 10 #[.val (.ref a0)] [(.int ((f6 w1) * (31 : Int32)))])) _
    refine XS.aloadN X2.here hx rfl (hb hby d5_10) rfl rfl ?_
    show Steps p.tables e below (T2.setTop (mkF m 11 #[.val (.ref a0)] [(.ref a0), (.int ((f6 w1) * (31 : Int32)))])) _
    refine st3 _ ?_
    show Steps p.tables e below (T3.setTop (mkF m 14 #[.val (.ref a0)] [(.long w2), (.int ((f6 w1) * (31 : Int32)))])) _
    refine st4 _ ?_
    show Steps p.tables e below (T4.setTop (mkF m 17 #[.val (.ref a0)] [(.int (f6 w2)), (.int ((f6 w1) * (31 : Int32)))])) _
    refine XS.iadd X4.here hx rfl (hb hby d5_17) rfl ?_
    exact kt
  obtain ⟨fs, hr, hrun, hended, hW, hsame⟩ := X4.leave (v := some (.int (((f6 w1) * (31 : Int32)) + (f6 w2)))) (fun h => by rw [Bd.returns] at h; cases h)
  refine ⟨_, _, ?_, hrun, hended, _, _, rfl, ?_, ⟨_, rfl⟩, hW, hsame.mono (by decide) (by decide)⟩
  · show Steps p.tables e below (T4.setTop (mkF m 18 #[.val (.ref a0)] [(.int (((f6 w1) * (31 : Int32)) + (f6 w2)))])) _
    exact retI X4 hx Bd.returns (hb hby d5_18) hr
  · show Q5 Z a0 w1 w2 h0 n0 _ T4.heap _
    rw [e4]
    exact ⟨by rw [show f5 w1 w2 = (((f6 w1) * (31 : Int32)) + (f6 w2)) from by unfold f5; rfl], N4, rfl⟩
theorem d7_0 : decode prog_3_method_5_code 0 = .ok (.aload_n 1, 1) := by decide +kernel
theorem d7_1 : decode prog_3_method_5_code 1 = .ok (.instanceof 17, 3) := by decide +kernel
theorem d7_4 : decode prog_3_method_5_code 4 = .ok (.ifCond .eq 37, 3) := by decide +kernel
theorem d7_7 : decode prog_3_method_5_code 7 = .ok (.aload_n 1, 1) := by decide +kernel
theorem d7_8 : decode prog_3_method_5_code 8 = .ok (.checkcast 17, 3) := by decide +kernel
theorem d7_11 : decode prog_3_method_5_code 11 = .ok (.getfield 16, 3) := by decide +kernel
theorem d7_14 : decode prog_3_method_5_code 14 = .ok (.aload_n 0, 1) := by decide +kernel
theorem d7_15 : decode prog_3_method_5_code 15 = .ok (.getfield 16, 3) := by decide +kernel
theorem d7_18 : decode prog_3_method_5_code 18 = .ok (.lcmp, 1) := by decide +kernel
theorem d7_19 : decode prog_3_method_5_code 19 = .ok (.ifCond .ne 22, 3) := by decide +kernel
theorem d7_22 : decode prog_3_method_5_code 22 = .ok (.aload_n 1, 1) := by decide +kernel
theorem d7_23 : decode prog_3_method_5_code 23 = .ok (.checkcast 17, 3) := by decide +kernel
theorem d7_26 : decode prog_3_method_5_code 26 = .ok (.getfield 22, 3) := by decide +kernel
theorem d7_29 : decode prog_3_method_5_code 29 = .ok (.aload_n 0, 1) := by decide +kernel
theorem d7_30 : decode prog_3_method_5_code 30 = .ok (.getfield 22, 3) := by decide +kernel
theorem d7_33 : decode prog_3_method_5_code 33 = .ok (.lcmp, 1) := by decide +kernel
theorem d7_34 : decode prog_3_method_5_code 34 = .ok (.ifCond .ne 7, 3) := by decide +kernel
theorem d7_37 : decode prog_3_method_5_code 37 = .ok (.iconst 1, 1) := by decide +kernel
theorem d7_38 : decode prog_3_method_5_code 38 = .ok (.goto 4, 3) := by decide +kernel
theorem d7_41 : decode prog_3_method_5_code 41 = .ok (.iconst 0, 1) := by decide +kernel
theorem d7_42 : decode prog_3_method_5_code 42 = .ok (.ireturn, 1) := by decide +kernel
theorem pn_7 : plainName "com/example/byteloom/byteloom/ByteRange" = true := by first | (simp [plainName, overriddenIn]; done) | decide +kernel
theorem ef_7 (m : MethodId) (x0 : Addr) (x1 : Addr) : entryFrame m #[(.ref x0), (.ref x1)] 2 = mkF m 0 #[.val (.ref x0), .val (.ref x1)] [] := by first | (simp [entryFrame, mkF, argsToLocals, Value.category]; done) | rfl
def f7 (w1 : Int64) (w2 : Int64) (w3 : Int64) (w4 : Int64) : Int32 := (if w3 = w1 then (if w4 = w2 then (1 : Int32) else (0 : Int32)) else (0 : Int32))
def Q7 (Z : State) (a0 : Addr) (a1 : Addr) (w1 : Int64) (w2 : Int64) (w3 : Int64) (w4 : Int64) (h0 : Heap) (n0 : Nat) (v : Option Value) (h : Heap) (L : List Loc) : Prop := v = some (.int (f7 w1 w2 w3 w4)) ∧ Fr n0 L ∧ h = h0
set_option maxRecDepth 65536 in
set_option maxHeartbeats 40000000 in
theorem rm7 (l : Launch) (Z : State) (aw : Array Value) (hw : ∀ d ∈ tables_1, d.before aw Z = true) (ws : List Jvm.Cond) (a0 : Addr) (a1 : Addr) (w1 : Int64) (w2 : Int64) (w3 : Int64) (w4 : Int64) (h0 : Heap) (n0 : Nat) (Z0 : n0 ≤ h0.size) (F_from_a0 : Fld Z h0 a0 "com/example/byteloom/byteloom/ByteRange" "from" "J" (.long w1)) (F_to_a0 : Fld Z h0 a0 "com/example/byteloom/byteloom/ByteRange" "to" "J" (.long w2)) (F_from_a1 : Fld Z h0 a1 "com/example/byteloom/byteloom/ByteRange" "from" "J" (.long w3)) (F_to_a1 : Fld Z h0 a1 "com/example/byteloom/byteloom/ByteRange" "to" "J" (.long w4)) (E_a1 : Exa Z h0 a1 "com/example/byteloom/byteloom/ByteRange") :
    MetFree l (⟨"com/example/byteloom/byteloom/ByteRange", "equals", "(Ljava/lang/Object;)Z"⟩ : MethodName) (head1 (Jvm.Cond.code (⟨"com/example/byteloom/byteloom/ByteRange", "equals", "(Ljava/lang/Object;)Z"⟩ : MethodName) prog_3_method_5_code 2 (some .boolean) :: ws) ({ frames := 0, cells := 0, slots := 0, locals := 0 } : Room)) (fun a U => a = #[(.ref a0), (.ref a1)] ∧ Z.Warmed39 U.vm ∧ U.heap = h0) (fun _ _ _ _ _ => True) (fun _ U o U' => ∃ v L, o = .returned v ∧ Q7 Z a0 a1 w1 w2 w3 w4 h0 n0 v U'.heap L ∧ FrameEnd U o U' L ({ frames := 0, cells := 0, slots := 0, locals := 0 } : Room).cells ({ frames := 0, cells := 0, slots := 0, locals := 0 } : Room).slots) := by
  refine MetFree.of_bodySF (plainFor_of_name pn_7) hisR ?_
  intro p e s m args below meth c s₁ Bd hml0 hP hK
  obtain ⟨rfl, hZ, hh⟩ := hP
  have hx := Bd.exec
  have hby := Bd.bytes
  have hml : c.maxLocals = 2 := hml0
  have hown : s.vm.findClass "com/example/byteloom/byteloom/ByteRange" = some m.cls := findClass_of_methodNamed Bd.named
  have hnm := (name_of_methodNamed Bd.named Bd.method).1
  have X0 : Stand p l e ({ frames := 0, cells := 0, slots := 0, locals := 0 } : Room) s m #[(.ref a0), (.ref a1)] below meth c s₁ [] 0 0 := Stand.of_body Bd
  have e0 : s₁.heap = h0 := by rw [← hh, Bd.state]; rfl
  have N0 := Fr.nil n0
  refine own_back (b := s₁.setTop (mkF m 0 #[.val (.ref a0), .val (.ref a1)] [])) (fun t kt => castTop (ef_7 m a0 a1) kt) ?_
  obtain ⟨T1, X1, e1, st1⟩ := instY X0 hx hZ hown (hw _ (List.mem_of_getElem? (i := 35) rfl)) e0 (Ins.self E_a1) (g := (mkF m 1 #[.val (.ref a0), .val (.ref a1)] [(.ref a1)])) rfl rfl (hb hby d7_1)
  obtain ⟨T2, X2, e2, st2⟩ := castY X1 hx hZ hown (hw _ (List.mem_of_getElem? (i := 35) rfl)) e1 (Ins.self E_a1) (g := (mkF m 8 #[.val (.ref a0), .val (.ref a1)] [(.ref a1)])) rfl rfl (hb hby d7_8)
  obtain ⟨T3, X3, e3, st3⟩ := getF X2 hx hZ hown (host := "") (Or.inl (hw _ (List.mem_of_getElem? (i := 17) rfl))) Via.refl e2 F_from_a1 (g := (mkF m 11 #[.val (.ref a0), .val (.ref a1)] [(.ref a1)])) rfl rfl (hb hby d7_11)
  obtain ⟨T4, X4, e4, st4⟩ := getF X3 hx hZ hown (host := "") (Or.inl (hw _ (List.mem_of_getElem? (i := 17) rfl))) Via.refl e3 F_from_a0 (g := (mkF m 15 #[.val (.ref a0), .val (.ref a1)] [(.ref a0), (.long w3)])) rfl rfl (hb hby d7_15)
  refine own_back (b := T4.setTop (mkF m 19 #[.val (.ref a0), .val (.ref a1)] [(.int (lcmpW w3 w1))])) (fun t kt => ?_) ?_
  · show Steps p.tables e below (s₁.setTop (mkF m 0 #[.val (.ref a0), .val (.ref a1)] [])) _
    refine XS.aloadN X0.here hx rfl (hb hby d7_0) rfl rfl ?_
    show Steps p.tables e below (s₁.setTop (mkF m 1 #[.val (.ref a0), .val (.ref a1)] [(.ref a1)])) _
    refine st1 _ ?_
    show Steps p.tables e below (T1.setTop (mkF m 4 #[.val (.ref a0), .val (.ref a1)] [(.int (1 : Int32))])) _
    refine XS.ifNo X1.here hx rfl (hb hby d7_4) rfl ((if0 _ _).trans (feq (by decide : ¬ ((1 : Int32) = (0 : Int32)))).1) ?_
    show Steps p.tables e below (T1.setTop (mkF m 7 #[.val (.ref a0), .val (.ref a1)] [])) _
    refine XS.aloadN X1.here hx rfl (hb hby d7_7) rfl rfl ?_
    show Steps p.tables e below (T1.setTop (mkF m 8 #[.val (.ref a0), .val (.ref a1)] [(.ref a1)])) _
    refine st2 _ ?_
    show Steps p.tables e below (T2.setTop (mkF m 11 #[.val (.ref a0), .val (.ref a1)] [(.ref a1)])) _
    refine st3 _ ?_
    show Steps p.tables e below (T3.setTop (mkF m 14 #[.val (.ref a0), .val (.ref a1)] [(.long w3)])) _
    refine XS.aloadN X3.here hx rfl (hb hby d7_14) rfl rfl ?_
    show Steps p.tables e below (T3.setTop (mkF m 15 #[.val (.ref a0), .val (.ref a1)] [(.ref a0), (.long w3)])) _
    refine st4 _ ?_
    show Steps p.tables e below (T4.setTop (mkF m 18 #[.val (.ref a0), .val (.ref a1)] [(.long w1), (.long w3)])) _
    refine XS.lcmp X4.here hx rfl (hb hby d7_18) rfl ?_
    exact kt
  by_cases hc19_5 : w3 = w1
  · obtain ⟨T6, X6, e6, st6⟩ := castY X4 hx hZ hown (hw _ (List.mem_of_getElem? (i := 35) rfl)) e4 (Ins.self E_a1) (g := (mkF m 23 #[.val (.ref a0), .val (.ref a1)] [(.ref a1)])) rfl rfl (hb hby d7_23)
    obtain ⟨T7, X7, e7, st7⟩ := getF X6 hx hZ hown (host := "") (Or.inl (hw _ (List.mem_of_getElem? (i := 19) rfl))) Via.refl e6 F_to_a1 (g := (mkF m 26 #[.val (.ref a0), .val (.ref a1)] [(.ref a1)])) rfl rfl (hb hby d7_26)
    obtain ⟨T8, X8, e8, st8⟩ := getF X7 hx hZ hown (host := "") (Or.inl (hw _ (List.mem_of_getElem? (i := 19) rfl))) Via.refl e7 F_to_a0 (g := (mkF m 30 #[.val (.ref a0), .val (.ref a1)] [(.ref a0), (.long w4)])) rfl rfl (hb hby d7_30)
    refine own_back (b := T8.setTop (mkF m 34 #[.val (.ref a0), .val (.ref a1)] [(.int (lcmpW w4 w2))])) (fun t kt => ?_) ?_
    · show Steps p.tables e below (T4.setTop (mkF m 19 #[.val (.ref a0), .val (.ref a1)] [(.int (lcmpW w3 w1))])) _
      refine XS.ifNo X4.here hx rfl (hb hby d7_19) rfl ((if0 _ _).trans (teq ((lw_eq _ _).mpr hc19_5)).2) ?_
      show Steps p.tables e below (T4.setTop (mkF m 22 #[.val (.ref a0), .val (.ref a1)] [])) _
      refine XS.aloadN X4.here hx rfl (hb hby d7_22) rfl rfl ?_
      show Steps p.tables e below (T4.setTop (mkF m 23 #[.val (.ref a0), .val (.ref a1)] [(.ref a1)])) _
      refine st6 _ ?_
      show Steps p.tables e below (T6.setTop (mkF m 26 #[.val (.ref a0), .val (.ref a1)] [(.ref a1)])) _
      refine st7 _ ?_
      show Steps p.tables e below (T7.setTop (mkF m 29 #[.val (.ref a0), .val (.ref a1)] [(.long w4)])) _
      refine XS.aloadN X7.here hx rfl (hb hby d7_29) rfl rfl ?_
      show Steps p.tables e below (T7.setTop (mkF m 30 #[.val (.ref a0), .val (.ref a1)] [(.ref a0), (.long w4)])) _
      refine st8 _ ?_
      show Steps p.tables e below (T8.setTop (mkF m 33 #[.val (.ref a0), .val (.ref a1)] [(.long w2), (.long w4)])) _
      refine XS.lcmp X8.here hx rfl (hb hby d7_33) rfl ?_
      exact kt
    by_cases hc34_9 : w4 = w2
    · refine own_back (b := T8.setTop (mkF m 42 #[.val (.ref a0), .val (.ref a1)] [(.int (1 : Int32))])) (fun t kt => ?_) ?_
      · show Steps p.tables e below (T8.setTop (mkF m 34 #[.val (.ref a0), .val (.ref a1)] [(.int (lcmpW w4 w2))])) _
        refine XS.ifNo X8.here hx rfl (hb hby d7_34) rfl ((if0 _ _).trans (teq ((lw_eq _ _).mpr hc34_9)).2) ?_
        show Steps p.tables e below (T8.setTop (mkF m 37 #[.val (.ref a0), .val (.ref a1)] [])) _
        refine XS.iconst X8.here hx rfl (hb hby d7_37) ?_
        show Steps p.tables e below (T8.setTop (mkF m 38 #[.val (.ref a0), .val (.ref a1)] [(.int (1 : Int32))])) _
        refine XS.goto X8.here hx rfl (pc0 := 38) (pc' := 42) rfl (hb hby d7_38) (by decide) (by decide) ?_
        exact kt
      obtain ⟨fs, hr, hrun, hended, hW, hsame⟩ := X8.leave (v := some (.int (1 : Int32))) (fun h => by rw [Bd.returns] at h; cases h)
      refine ⟨_, _, ?_, hrun, hended, _, _, rfl, ?_, ⟨_, rfl⟩, hW, hsame.mono (by decide) (by decide)⟩
      · show Steps p.tables e below (T8.setTop (mkF m 42 #[.val (.ref a0), .val (.ref a1)] [(.int (1 : Int32))])) _
        exact retN X8 hx (t := .boolean) Bd.returns (by simp) (hb hby d7_42) hr
      · show Q7 Z a0 a1 w1 w2 w3 w4 h0 n0 _ T8.heap _
        rw [e8]
        exact ⟨by rw [show f7 w1 w2 w3 w4 = (1 : Int32) from by unfold f7; rw [if_pos hc19_5, if_pos hc34_9]], N0, rfl⟩
    · refine own_back (b := T8.setTop (mkF m 42 #[.val (.ref a0), .val (.ref a1)] [(.int (0 : Int32))])) (fun t kt => ?_) ?_
      · show Steps p.tables e below (T8.setTop (mkF m 34 #[.val (.ref a0), .val (.ref a1)] [(.int (lcmpW w4 w2))])) _
        refine XS.ifYes X8.here hx rfl (pc0 := 34) (pc' := 41) rfl (hb hby d7_34) rfl ((if0 _ _).trans (feq (fun q => hc34_9 ((lw_eq _ _).mp q))).2) (by decide) (by decide) ?_
        show Steps p.tables e below (T8.setTop (mkF m 41 #[.val (.ref a0), .val (.ref a1)] [])) _
        refine XS.iconst X8.here hx rfl (hb hby d7_41) ?_
        exact kt
      obtain ⟨fs, hr, hrun, hended, hW, hsame⟩ := X8.leave (v := some (.int (0 : Int32))) (fun h => by rw [Bd.returns] at h; cases h)
      refine ⟨_, _, ?_, hrun, hended, _, _, rfl, ?_, ⟨_, rfl⟩, hW, hsame.mono (by decide) (by decide)⟩
      · show Steps p.tables e below (T8.setTop (mkF m 42 #[.val (.ref a0), .val (.ref a1)] [(.int (0 : Int32))])) _
        exact retN X8 hx (t := .boolean) Bd.returns (by simp) (hb hby d7_42) hr
      · show Q7 Z a0 a1 w1 w2 w3 w4 h0 n0 _ T8.heap _
        rw [e8]
        exact ⟨by rw [show f7 w1 w2 w3 w4 = (0 : Int32) from by unfold f7; rw [if_pos hc19_5, if_neg hc34_9]], N0, rfl⟩
  · refine own_back (b := T4.setTop (mkF m 42 #[.val (.ref a0), .val (.ref a1)] [(.int (0 : Int32))])) (fun t kt => ?_) ?_
    · show Steps p.tables e below (T4.setTop (mkF m 19 #[.val (.ref a0), .val (.ref a1)] [(.int (lcmpW w3 w1))])) _
      refine XS.ifYes X4.here hx rfl (pc0 := 19) (pc' := 41) rfl (hb hby d7_19) rfl ((if0 _ _).trans (feq (fun q => hc19_5 ((lw_eq _ _).mp q))).2) (by decide) (by decide) ?_
      show Steps p.tables e below (T4.setTop (mkF m 41 #[.val (.ref a0), .val (.ref a1)] [])) _
      refine XS.iconst X4.here hx rfl (hb hby d7_41) ?_
      exact kt
    obtain ⟨fs, hr, hrun, hended, hW, hsame⟩ := X4.leave (v := some (.int (0 : Int32))) (fun h => by rw [Bd.returns] at h; cases h)
    refine ⟨_, _, ?_, hrun, hended, _, _, rfl, ?_, ⟨_, rfl⟩, hW, hsame.mono (by decide) (by decide)⟩
    · show Steps p.tables e below (T4.setTop (mkF m 42 #[.val (.ref a0), .val (.ref a1)] [(.int (0 : Int32))])) _
      exact retN X4 hx (t := .boolean) Bd.returns (by simp) (hb hby d7_42) hr
    · show Q7 Z a0 a1 w1 w2 w3 w4 h0 n0 _ T4.heap _
      rw [e4]
      exact ⟨by rw [show f7 w1 w2 w3 w4 = (0 : Int32) from by unfold f7; rw [if_neg hc19_5]], N0, rfl⟩
theorem pn_0 : plainName "com/example/byteloom/byteloom/ByteRangeHashCodePinLaw" = true := by first | (simp [plainName, overriddenIn]; done) | decide +kernel
theorem pd_0_0 : parseMethodDescriptor "(JJ)J" = some ⟨[.long, .long], some .long⟩ := by decide +kernel
theorem pd_0_1 : parseMethodDescriptor "(JJ)V" = some ⟨[.long, .long], none⟩ := by decide +kernel
theorem pd_0_2 : parseMethodDescriptor "()I" = some ⟨[], some .int⟩ := by decide +kernel
theorem pd_0_3 : parseMethodDescriptor "(Ljava/lang/Object;)Z" = some ⟨[(.object "java/lang/Object")], some .boolean⟩ := by decide +kernel
theorem ef_0 (m : MethodId) (x0 : Int64) (x1 : Int64) : entryFrame m #[(.long x0), (.long x1)] maxLocals = mkF m 0 #[.val (.long x0), .second, .val (.long x1), .second, .unset, .unset, .unset, .unset, .unset, .unset, .unset, .unset, .unset, .unset, .unset, .unset, .unset] [] := by first | (simp [entryFrame, mkF, argsToLocals, Value.category, maxLocals]; done) | rfl
def m0_0 (q0 : Int64) (q1 : Int64) : Int64 := (if (f1 (q0 &&& (9223372036854775807 : Int64)) (q1 &&& (9223372036854775807 : Int64))) = (f2 (q0 &&& (9223372036854775807 : Int64)) (q1 &&& (9223372036854775807 : Int64))) then (if (f2 (q0 &&& (9223372036854775807 : Int64)) (q1 &&& (9223372036854775807 : Int64))) = (0 : Int64) then (f1 (q0 &&& (9223372036854775807 : Int64)) (q1 &&& (9223372036854775807 : Int64))) else ((f1 (q0 &&& (9223372036854775807 : Int64)) (q1 &&& (9223372036854775807 : Int64))) - (1 : Int64))) else (f1 (q0 &&& (9223372036854775807 : Int64)) (q1 &&& (9223372036854775807 : Int64))))
def m0_1 (q0 : Int64) (q1 : Int64) : Int64 := (if (f1 (q0 &&& (9223372036854775807 : Int64)) (q1 &&& (9223372036854775807 : Int64))) = (f2 (q0 &&& (9223372036854775807 : Int64)) (q1 &&& (9223372036854775807 : Int64))) then (if (f2 (q0 &&& (9223372036854775807 : Int64)) (q1 &&& (9223372036854775807 : Int64))) = (0 : Int64) then (1 : Int64) else (f2 (q0 &&& (9223372036854775807 : Int64)) (q1 &&& (9223372036854775807 : Int64)))) else (f2 (q0 &&& (9223372036854775807 : Int64)) (q1 &&& (9223372036854775807 : Int64))))
theorem own_nn (x : Int64) : ¬ (x &&& (9223372036854775807 : Int64)) < (0 : Int64) := by
  have h := c_maskL x 9223372036854775807 63 (by decide) (by decide)
  have k0 : (0 : Int64).toInt = 0 := rfl
  rw [Int64.lt_iff_toInt_lt, h, k0]
  have : (2 ^ 63 : Nat) = 9223372036854775808 := by decide
  omega
theorem own_lohi (x y : Int64) : ¬ m0_0 x y < (0 : Int64) ∧ m0_0 x y < m0_1 x y := by
  have hx := own_nn x
  have hy := own_nn y
  unfold m0_0 m0_1
  generalize (x &&& (9223372036854775807 : Int64)) = a at *
  generalize (y &&& (9223372036854775807 : Int64)) = b at *
  have k0 : (0 : Int64).toInt = 0 := rfl
  have k1 : (1 : Int64).toInt = 1 := rfl
  rw [Int64.lt_iff_toInt_lt, k0] at hx hy
  have h1 : (f1 a b).toInt = if b.toInt < a.toInt then b.toInt else a.toInt := by
    unfold f1; simp only [Int64.lt_iff_toInt_lt]; split <;> rfl
  have h2 : (f2 a b).toInt = if a.toInt < b.toInt then b.toInt else a.toInt := by
    unfold f2; simp only [Int64.lt_iff_toInt_lt]; split <;> rfl
  generalize f1 a b = l at *
  generalize f2 a b = g at *
  have hs := c_lsub l 1
  have hr := rng64 (l - 1)
  have hr2 := rng64 l
  simp only [Int64.lt_iff_toInt_lt, ← Int64.toInt_inj, k0]
  rw [k1] at hs
  by_cases e1 : l.toInt = g.toInt
  · by_cases e2 : g.toInt = 0
    · simp only [if_pos e1, if_pos e2, k1]
      split at h1 <;> split at h2 <;> omega
    · simp only [if_pos e1, if_neg e2]
      split at h1 <;> split at h2 <;> omega
  · simp only [if_neg e1]
    split at h1 <;> split at h2 <;> omega
def f0 (q0 : Int64) (q1 : Int64) : Int32 := (if (f7 (m0_0 q0 q1) (m0_1 q0 q1) (m0_0 q0 q1) (m0_1 q0 q1)) = (0 : Int32) then (0 : Int32) else (1 : Int32))
def Q0 (Z : State) (q0 : Int64) (q1 : Int64) (h0 : Heap) (n0 : Nat) (v : Option Value) (h : Heap) (L : List Loc) : Prop := v = some (.int (f0 q0 q1)) ∧ Fr n0 L
set_option maxRecDepth 65536 in
set_option maxHeartbeats 40000000 in
theorem rm0 (l : Launch) (Z : State) (aw : Array Value) (hw : ∀ d ∈ tables_1, d.before aw Z = true) (ws : List Jvm.Cond) (q0 : Int64) (q1 : Int64) (h0 : Heap) (n0 : Nat) (Z0 : n0 ≤ h0.size) :
    MetFree l x (head1 (Jvm.Cond.code x code maxLocals ret :: ws) room_1) (fun a U => a = #[(.long q0), (.long q1)] ∧ Z.Warmed39 U.vm ∧ U.heap = h0) (fun _ _ _ _ _ => True) (fun _ U o U' => ∃ v L, o = .returned v ∧ Q0 Z q0 q1 h0 n0 v U'.heap L ∧ FrameEnd U o U' L room_1.cells room_1.slots) := by
  refine MetFree.of_bodySF (plainFor_of_name pn_0) hisR ?_
  intro p e s m args below meth c s₁ Bd hml0 hP hK
  obtain ⟨rfl, hZ, hh⟩ := hP
  have hx := Bd.exec
  have hby := Bd.bytes
  have hml : c.maxLocals = 17 := hml0
  have hown : s.vm.findClass "com/example/byteloom/byteloom/ByteRangeHashCodePinLaw" = some m.cls := findClass_of_methodNamed Bd.named
  have hnm := (name_of_methodNamed Bd.named Bd.method).1
  have X0 : Stand p l e room_1 s m #[(.long q0), (.long q1)] below meth c s₁ [] 0 0 := Stand.of_body Bd
  have e0 : s₁.heap = h0 := by rw [← hh, Bd.state]; rfl
  have N0 := Fr.nil n0
  refine own_back (b := s₁.setTop (mkF m 0 #[.val (.long q0), .second, .val (.long q1), .second, .unset, .unset, .unset, .unset, .unset, .unset, .unset, .unset, .unset, .unset, .unset, .unset, .unset] [])) (fun t kt => castTop (ef_0 m q0 q1) kt) ?_
  obtain ⟨_, _, ⟨T1, L1, k1, n1⟩, -, X1, ⟨Lc1, hQ1, l1, y1, z1⟩, st1⟩ := Jvm.LawKit.callS X0 hx (y := (⟨"java/lang/Math", "min", "(JJ)J"⟩ : MethodName)) hown (mvT hZ (hw _ (List.mem_of_getElem? (i := 1) rfl))) (mvT hZ (hw _ (List.mem_of_getElem? (i := 2) rfl))) (mvT hZ (hw _ (List.mem_of_getElem? (i := 3) rfl))) (mvT hZ (hw _ (List.mem_of_getElem? (i := 4) rfl))) (by decide) (backOf (W := 0) (rm1 l Z aw hw [] (q0 &&& (9223372036854775807 : Int64)) (q1 &&& (9223372036854775807 : Int64)) h0 n0 Z0 ) hZ (hw _ (List.mem_of_getElem? (i := 4) rfl)) (hw _ (List.mem_of_getElem? (i := 3) rfl)) (by decide) (by decide)) (g := (mkF m 18 #[.val (.long q0), .second, .val (.long q1), .second, .val (.long (q0 &&& (9223372036854775807 : Int64))), .second, .val (.long (q1 &&& (9223372036854775807 : Int64))), .second, .unset, .unset, .unset, .unset, .unset, .unset, .unset, .unset, .unset] [(.long (q1 &&& (9223372036854775807 : Int64))), (.long (q0 &&& (9223372036854775807 : Int64)))])) rfl (by rw [hml]; rfl) (argsL := [(.long (q0 &&& (9223372036854775807 : Int64))), (.long (q1 &&& (9223372036854775807 : Int64)))]) (rest := []) (lenOf pd_0_0 rfl) rfl (by show 2 * 0 + _ ≤ _; exact Nat.le_of_eq rfl) (hb hby at_18) (fun _ _ => ⟨rfl, e0, (by decide : 0 + 0 ≤ _), (by decide : 0 + 0 ≤ _)⟩)
  dsimp only [Pt.U, Pt.locs, Pt.cells, Pt.slots] at X1 l1 y1 z1 st1 hQ1
  subst l1 y1 z1
  obtain ⟨rfl, Nq1, e1⟩ := hQ1
  have N1 := Fr.app N0 Nq1
  obtain ⟨_, _, ⟨T2, L2, k2, n2⟩, -, X2, ⟨Lc2, hQ2, l2, y2, z2⟩, st2⟩ := Jvm.LawKit.callS X1 hx (y := (⟨"java/lang/Math", "max", "(JJ)J"⟩ : MethodName)) hown (mvT hZ (hw _ (List.mem_of_getElem? (i := 5) rfl))) (mvT hZ (hw _ (List.mem_of_getElem? (i := 6) rfl))) (mvT hZ (hw _ (List.mem_of_getElem? (i := 3) rfl))) (mvT hZ (hw _ (List.mem_of_getElem? (i := 7) rfl))) (by decide) (backOf (W := 0) (rm2 l Z aw hw [] (q0 &&& (9223372036854775807 : Int64)) (q1 &&& (9223372036854775807 : Int64)) h0 n0 Z0 ) hZ (hw _ (List.mem_of_getElem? (i := 7) rfl)) (hw _ (List.mem_of_getElem? (i := 3) rfl)) (by decide) (by decide)) (g := (mkF m 27 #[.val (.long q0), .second, .val (.long q1), .second, .val (.long (q0 &&& (9223372036854775807 : Int64))), .second, .val (.long (q1 &&& (9223372036854775807 : Int64))), .second, .val (.long (f1 (q0 &&& (9223372036854775807 : Int64)) (q1 &&& (9223372036854775807 : Int64)))), .second, .unset, .unset, .unset, .unset, .unset, .unset, .unset] [(.long (q1 &&& (9223372036854775807 : Int64))), (.long (q0 &&& (9223372036854775807 : Int64)))])) rfl (by rw [hml]; rfl) (argsL := [(.long (q0 &&& (9223372036854775807 : Int64))), (.long (q1 &&& (9223372036854775807 : Int64)))]) (rest := []) (lenOf pd_0_0 rfl) rfl (by show 2 * 0 + _ ≤ _; exact Nat.le_of_eq rfl) (hb hby at_27) (fun _ _ => ⟨rfl, e1, (by decide : 0 + 0 ≤ _), (by decide : 0 + 0 ≤ _)⟩)
  dsimp only [Pt.U, Pt.locs, Pt.cells, Pt.slots] at X2 l2 y2 z2 st2 hQ2
  subst l2 y2 z2
  obtain ⟨rfl, Nq2, e2⟩ := hQ2
  have N2 := Fr.app N1 Nq2
  refine own_back (b := T2.setTop (mkF m 37 #[.val (.long q0), .second, .val (.long q1), .second, .val (.long (q0 &&& (9223372036854775807 : Int64))), .second, .val (.long (q1 &&& (9223372036854775807 : Int64))), .second, .val (.long (f1 (q0 &&& (9223372036854775807 : Int64)) (q1 &&& (9223372036854775807 : Int64)))), .second, .val (.long (f2 (q0 &&& (9223372036854775807 : Int64)) (q1 &&& (9223372036854775807 : Int64)))), .second, .unset, .unset, .unset, .unset, .unset] [(.int (lcmpW (f1 (q0 &&& (9223372036854775807 : Int64)) (q1 &&& (9223372036854775807 : Int64))) (f2 (q0 &&& (9223372036854775807 : Int64)) (q1 &&& (9223372036854775807 : Int64)))))])) (fun t kt => ?_) ?_
  · show Steps p.tables e below (s₁.setTop (mkF m 0 #[.val (.long q0), .second, .val (.long q1), .second, .unset, .unset, .unset, .unset, .unset, .unset, .unset, .unset, .unset, .unset, .unset, .unset, .unset] [])) _
    refine XS.lloadN X0.here hx rfl (hb hby at_0) rfl ?_
    show Steps p.tables e below (s₁.setTop (mkF m 1 #[.val (.long q0), .second, .val (.long q1), .second, .unset, .unset, .unset, .unset, .unset, .unset, .unset, .unset, .unset, .unset, .unset, .unset, .unset] [(.long q0)])) _
    refine X0.ldc2Long hx hown (mvT hZ (hw _ (List.mem_of_getElem? (i := 0) rfl))) (g := (mkF m 1 #[.val (.long q0), .second, .val (.long q1), .second, .unset, .unset, .unset, .unset, .unset, .unset, .unset, .unset, .unset, .unset, .unset, .unset, .unset] [(.long q0)])) rfl (hb hby at_1) _ ?_
    show Steps p.tables e below (s₁.setTop (mkF m 4 #[.val (.long q0), .second, .val (.long q1), .second, .unset, .unset, .unset, .unset, .unset, .unset, .unset, .unset, .unset, .unset, .unset, .unset, .unset] [(.long (9223372036854775807 : Int64)), (.long q0)])) _
    refine XS.land X0.here hx rfl (hb hby at_4) rfl ?_
    show Steps p.tables e below (s₁.setTop (mkF m 5 #[.val (.long q0), .second, .val (.long q1), .second, .unset, .unset, .unset, .unset, .unset, .unset, .unset, .unset, .unset, .unset, .unset, .unset, .unset] [(.long (q0 &&& (9223372036854775807 : Int64)))])) _
    refine XS.lstore X0.here hx rfl (hb hby at_5) rfl (l' := #[.val (.long q0), .second, .val (.long q1), .second, .val (.long (q0 &&& (9223372036854775807 : Int64))), .second, .unset, .unset, .unset, .unset, .unset, .unset, .unset, .unset, .unset, .unset, .unset]) rfl ?_
    show Steps p.tables e below (s₁.setTop (mkF m 7 #[.val (.long q0), .second, .val (.long q1), .second, .val (.long (q0 &&& (9223372036854775807 : Int64))), .second, .unset, .unset, .unset, .unset, .unset, .unset, .unset, .unset, .unset, .unset, .unset] [])) _
    refine XS.lloadN X0.here hx rfl (hb hby at_7) rfl ?_
    show Steps p.tables e below (s₁.setTop (mkF m 8 #[.val (.long q0), .second, .val (.long q1), .second, .val (.long (q0 &&& (9223372036854775807 : Int64))), .second, .unset, .unset, .unset, .unset, .unset, .unset, .unset, .unset, .unset, .unset, .unset] [(.long q1)])) _
    refine X0.ldc2Long hx hown (mvT hZ (hw _ (List.mem_of_getElem? (i := 0) rfl))) (g := (mkF m 8 #[.val (.long q0), .second, .val (.long q1), .second, .val (.long (q0 &&& (9223372036854775807 : Int64))), .second, .unset, .unset, .unset, .unset, .unset, .unset, .unset, .unset, .unset, .unset, .unset] [(.long q1)])) rfl (hb hby at_8) _ ?_
    show Steps p.tables e below (s₁.setTop (mkF m 11 #[.val (.long q0), .second, .val (.long q1), .second, .val (.long (q0 &&& (9223372036854775807 : Int64))), .second, .unset, .unset, .unset, .unset, .unset, .unset, .unset, .unset, .unset, .unset, .unset] [(.long (9223372036854775807 : Int64)), (.long q1)])) _
    refine XS.land X0.here hx rfl (hb hby at_11) rfl ?_
    show Steps p.tables e below (s₁.setTop (mkF m 12 #[.val (.long q0), .second, .val (.long q1), .second, .val (.long (q0 &&& (9223372036854775807 : Int64))), .second, .unset, .unset, .unset, .unset, .unset, .unset, .unset, .unset, .unset, .unset, .unset] [(.long (q1 &&& (9223372036854775807 : Int64)))])) _
    refine XS.lstore X0.here hx rfl (hb hby at_12) rfl (l' := #[.val (.long q0), .second, .val (.long q1), .second, .val (.long (q0 &&& (9223372036854775807 : Int64))), .second, .val (.long (q1 &&& (9223372036854775807 : Int64))), .second, .unset, .unset, .unset, .unset, .unset, .unset, .unset, .unset, .unset]) rfl ?_
    show Steps p.tables e below (s₁.setTop (mkF m 14 #[.val (.long q0), .second, .val (.long q1), .second, .val (.long (q0 &&& (9223372036854775807 : Int64))), .second, .val (.long (q1 &&& (9223372036854775807 : Int64))), .second, .unset, .unset, .unset, .unset, .unset, .unset, .unset, .unset, .unset] [])) _
    refine XS.lload X0.here hx rfl (hb hby at_14) rfl ?_
    show Steps p.tables e below (s₁.setTop (mkF m 16 #[.val (.long q0), .second, .val (.long q1), .second, .val (.long (q0 &&& (9223372036854775807 : Int64))), .second, .val (.long (q1 &&& (9223372036854775807 : Int64))), .second, .unset, .unset, .unset, .unset, .unset, .unset, .unset, .unset, .unset] [(.long (q0 &&& (9223372036854775807 : Int64)))])) _
    refine XS.lload X0.here hx rfl (hb hby at_16) rfl ?_
    show Steps p.tables e below (s₁.setTop (mkF m 18 #[.val (.long q0), .second, .val (.long q1), .second, .val (.long (q0 &&& (9223372036854775807 : Int64))), .second, .val (.long (q1 &&& (9223372036854775807 : Int64))), .second, .unset, .unset, .unset, .unset, .unset, .unset, .unset, .unset, .unset] [(.long (q1 &&& (9223372036854775807 : Int64))), (.long (q0 &&& (9223372036854775807 : Int64)))])) _
    refine st1 _ ?_
    show Steps p.tables e below (T1.setTop (mkF m 21 #[.val (.long q0), .second, .val (.long q1), .second, .val (.long (q0 &&& (9223372036854775807 : Int64))), .second, .val (.long (q1 &&& (9223372036854775807 : Int64))), .second, .unset, .unset, .unset, .unset, .unset, .unset, .unset, .unset, .unset] [(.long (f1 (q0 &&& (9223372036854775807 : Int64)) (q1 &&& (9223372036854775807 : Int64))))])) _
    refine XS.lstore X1.here hx rfl (hb hby at_21) rfl (l' := #[.val (.long q0), .second, .val (.long q1), .second, .val (.long (q0 &&& (9223372036854775807 : Int64))), .second, .val (.long (q1 &&& (9223372036854775807 : Int64))), .second, .val (.long (f1 (q0 &&& (9223372036854775807 : Int64)) (q1 &&& (9223372036854775807 : Int64)))), .second, .unset, .unset, .unset, .unset, .unset, .unset, .unset]) rfl ?_
    show Steps p.tables e below (T1.setTop (mkF m 23 #[.val (.long q0), .second, .val (.long q1), .second, .val (.long (q0 &&& (9223372036854775807 : Int64))), .second, .val (.long (q1 &&& (9223372036854775807 : Int64))), .second, .val (.long (f1 (q0 &&& (9223372036854775807 : Int64)) (q1 &&& (9223372036854775807 : Int64)))), .second, .unset, .unset, .unset, .unset, .unset, .unset, .unset] [])) _
    refine XS.lload X1.here hx rfl (hb hby at_23) rfl ?_
    show Steps p.tables e below (T1.setTop (mkF m 25 #[.val (.long q0), .second, .val (.long q1), .second, .val (.long (q0 &&& (9223372036854775807 : Int64))), .second, .val (.long (q1 &&& (9223372036854775807 : Int64))), .second, .val (.long (f1 (q0 &&& (9223372036854775807 : Int64)) (q1 &&& (9223372036854775807 : Int64)))), .second, .unset, .unset, .unset, .unset, .unset, .unset, .unset] [(.long (q0 &&& (9223372036854775807 : Int64)))])) _
    refine XS.lload X1.here hx rfl (hb hby at_25) rfl ?_
    show Steps p.tables e below (T1.setTop (mkF m 27 #[.val (.long q0), .second, .val (.long q1), .second, .val (.long (q0 &&& (9223372036854775807 : Int64))), .second, .val (.long (q1 &&& (9223372036854775807 : Int64))), .second, .val (.long (f1 (q0 &&& (9223372036854775807 : Int64)) (q1 &&& (9223372036854775807 : Int64)))), .second, .unset, .unset, .unset, .unset, .unset, .unset, .unset] [(.long (q1 &&& (9223372036854775807 : Int64))), (.long (q0 &&& (9223372036854775807 : Int64)))])) _
    refine st2 _ ?_
    show Steps p.tables e below (T2.setTop (mkF m 30 #[.val (.long q0), .second, .val (.long q1), .second, .val (.long (q0 &&& (9223372036854775807 : Int64))), .second, .val (.long (q1 &&& (9223372036854775807 : Int64))), .second, .val (.long (f1 (q0 &&& (9223372036854775807 : Int64)) (q1 &&& (9223372036854775807 : Int64)))), .second, .unset, .unset, .unset, .unset, .unset, .unset, .unset] [(.long (f2 (q0 &&& (9223372036854775807 : Int64)) (q1 &&& (9223372036854775807 : Int64))))])) _
    refine XS.lstore X2.here hx rfl (hb hby at_30) rfl (l' := #[.val (.long q0), .second, .val (.long q1), .second, .val (.long (q0 &&& (9223372036854775807 : Int64))), .second, .val (.long (q1 &&& (9223372036854775807 : Int64))), .second, .val (.long (f1 (q0 &&& (9223372036854775807 : Int64)) (q1 &&& (9223372036854775807 : Int64)))), .second, .val (.long (f2 (q0 &&& (9223372036854775807 : Int64)) (q1 &&& (9223372036854775807 : Int64)))), .second, .unset, .unset, .unset, .unset, .unset]) rfl ?_
    show Steps p.tables e below (T2.setTop (mkF m 32 #[.val (.long q0), .second, .val (.long q1), .second, .val (.long (q0 &&& (9223372036854775807 : Int64))), .second, .val (.long (q1 &&& (9223372036854775807 : Int64))), .second, .val (.long (f1 (q0 &&& (9223372036854775807 : Int64)) (q1 &&& (9223372036854775807 : Int64)))), .second, .val (.long (f2 (q0 &&& (9223372036854775807 : Int64)) (q1 &&& (9223372036854775807 : Int64)))), .second, .unset, .unset, .unset, .unset, .unset] [])) _
    refine XS.lload X2.here hx rfl (hb hby at_32) rfl ?_
    show Steps p.tables e below (T2.setTop (mkF m 34 #[.val (.long q0), .second, .val (.long q1), .second, .val (.long (q0 &&& (9223372036854775807 : Int64))), .second, .val (.long (q1 &&& (9223372036854775807 : Int64))), .second, .val (.long (f1 (q0 &&& (9223372036854775807 : Int64)) (q1 &&& (9223372036854775807 : Int64)))), .second, .val (.long (f2 (q0 &&& (9223372036854775807 : Int64)) (q1 &&& (9223372036854775807 : Int64)))), .second, .unset, .unset, .unset, .unset, .unset] [(.long (f1 (q0 &&& (9223372036854775807 : Int64)) (q1 &&& (9223372036854775807 : Int64))))])) _
    refine XS.lload X2.here hx rfl (hb hby at_34) rfl ?_
    show Steps p.tables e below (T2.setTop (mkF m 36 #[.val (.long q0), .second, .val (.long q1), .second, .val (.long (q0 &&& (9223372036854775807 : Int64))), .second, .val (.long (q1 &&& (9223372036854775807 : Int64))), .second, .val (.long (f1 (q0 &&& (9223372036854775807 : Int64)) (q1 &&& (9223372036854775807 : Int64)))), .second, .val (.long (f2 (q0 &&& (9223372036854775807 : Int64)) (q1 &&& (9223372036854775807 : Int64)))), .second, .unset, .unset, .unset, .unset, .unset] [(.long (f2 (q0 &&& (9223372036854775807 : Int64)) (q1 &&& (9223372036854775807 : Int64)))), (.long (f1 (q0 &&& (9223372036854775807 : Int64)) (q1 &&& (9223372036854775807 : Int64))))])) _
    refine XS.lcmp X2.here hx rfl (hb hby at_36) rfl ?_
    exact kt
  refine own_back (b := T2.setTop (mkF m 59 #[.val (.long q0), .second, .val (.long q1), .second, .val (.long (q0 &&& (9223372036854775807 : Int64))), .second, .val (.long (q1 &&& (9223372036854775807 : Int64))), .second, .val (.long (m0_0 q0 q1)), .second, .val (.long (m0_1 q0 q1)), .second, .unset, .unset, .unset, .unset, .unset] [])) (fun t kt => ?_) ?_
  · by_cases hm37_3 : (f1 (q0 &&& (9223372036854775807 : Int64)) (q1 &&& (9223372036854775807 : Int64))) = (f2 (q0 &&& (9223372036854775807 : Int64)) (q1 &&& (9223372036854775807 : Int64)))
    · by_cases hm44_4 : (f2 (q0 &&& (9223372036854775807 : Int64)) (q1 &&& (9223372036854775807 : Int64))) = (0 : Int64)
      · rw [show (m0_0 q0 q1) = (f1 (q0 &&& (9223372036854775807 : Int64)) (q1 &&& (9223372036854775807 : Int64))) from by unfold m0_0; rw [if_pos hm37_3, if_pos hm44_4]] at kt
        rw [show (m0_1 q0 q1) = (1 : Int64) from by unfold m0_1; rw [if_pos hm37_3, if_pos hm44_4]] at kt
        show Steps p.tables e below (T2.setTop (mkF m 37 #[.val (.long q0), .second, .val (.long q1), .second, .val (.long (q0 &&& (9223372036854775807 : Int64))), .second, .val (.long (q1 &&& (9223372036854775807 : Int64))), .second, .val (.long (f1 (q0 &&& (9223372036854775807 : Int64)) (q1 &&& (9223372036854775807 : Int64)))), .second, .val (.long (f2 (q0 &&& (9223372036854775807 : Int64)) (q1 &&& (9223372036854775807 : Int64)))), .second, .unset, .unset, .unset, .unset, .unset] [(.int (lcmpW (f1 (q0 &&& (9223372036854775807 : Int64)) (q1 &&& (9223372036854775807 : Int64))) (f2 (q0 &&& (9223372036854775807 : Int64)) (q1 &&& (9223372036854775807 : Int64)))))])) _
        refine XS.ifNo X2.here hx rfl (hb hby at_37) rfl ((if0 _ _).trans (teq ((lw_eq _ _).mpr hm37_3)).2) ?_
        show Steps p.tables e below (T2.setTop (mkF m 40 #[.val (.long q0), .second, .val (.long q1), .second, .val (.long (q0 &&& (9223372036854775807 : Int64))), .second, .val (.long (q1 &&& (9223372036854775807 : Int64))), .second, .val (.long (f1 (q0 &&& (9223372036854775807 : Int64)) (q1 &&& (9223372036854775807 : Int64)))), .second, .val (.long (f2 (q0 &&& (9223372036854775807 : Int64)) (q1 &&& (9223372036854775807 : Int64)))), .second, .unset, .unset, .unset, .unset, .unset] [])) _
        refine XS.lload X2.here hx rfl (hb hby at_40) rfl ?_
        show Steps p.tables e below (T2.setTop (mkF m 42 #[.val (.long q0), .second, .val (.long q1), .second, .val (.long (q0 &&& (9223372036854775807 : Int64))), .second, .val (.long (q1 &&& (9223372036854775807 : Int64))), .second, .val (.long (f1 (q0 &&& (9223372036854775807 : Int64)) (q1 &&& (9223372036854775807 : Int64)))), .second, .val (.long (f2 (q0 &&& (9223372036854775807 : Int64)) (q1 &&& (9223372036854775807 : Int64)))), .second, .unset, .unset, .unset, .unset, .unset] [(.long (f2 (q0 &&& (9223372036854775807 : Int64)) (q1 &&& (9223372036854775807 : Int64))))])) _
        refine XS.lconst X2.here hx rfl (hb hby at_42) ?_
        show Steps p.tables e below (T2.setTop (mkF m 43 #[.val (.long q0), .second, .val (.long q1), .second, .val (.long (q0 &&& (9223372036854775807 : Int64))), .second, .val (.long (q1 &&& (9223372036854775807 : Int64))), .second, .val (.long (f1 (q0 &&& (9223372036854775807 : Int64)) (q1 &&& (9223372036854775807 : Int64)))), .second, .val (.long (f2 (q0 &&& (9223372036854775807 : Int64)) (q1 &&& (9223372036854775807 : Int64)))), .second, .unset, .unset, .unset, .unset, .unset] [(.long (0 : Int64)), (.long (f2 (q0 &&& (9223372036854775807 : Int64)) (q1 &&& (9223372036854775807 : Int64))))])) _
        refine XS.lcmp X2.here hx rfl (hb hby at_43) rfl ?_
        show Steps p.tables e below (T2.setTop (mkF m 44 #[.val (.long q0), .second, .val (.long q1), .second, .val (.long (q0 &&& (9223372036854775807 : Int64))), .second, .val (.long (q1 &&& (9223372036854775807 : Int64))), .second, .val (.long (f1 (q0 &&& (9223372036854775807 : Int64)) (q1 &&& (9223372036854775807 : Int64)))), .second, .val (.long (f2 (q0 &&& (9223372036854775807 : Int64)) (q1 &&& (9223372036854775807 : Int64)))), .second, .unset, .unset, .unset, .unset, .unset] [(.int (lcmpW (f2 (q0 &&& (9223372036854775807 : Int64)) (q1 &&& (9223372036854775807 : Int64))) (0 : Int64)))])) _
        refine XS.ifNo X2.here hx rfl (hb hby at_44) rfl ((if0 _ _).trans (teq ((lw_eq _ _).mpr hm44_4)).2) ?_
        show Steps p.tables e below (T2.setTop (mkF m 47 #[.val (.long q0), .second, .val (.long q1), .second, .val (.long (q0 &&& (9223372036854775807 : Int64))), .second, .val (.long (q1 &&& (9223372036854775807 : Int64))), .second, .val (.long (f1 (q0 &&& (9223372036854775807 : Int64)) (q1 &&& (9223372036854775807 : Int64)))), .second, .val (.long (f2 (q0 &&& (9223372036854775807 : Int64)) (q1 &&& (9223372036854775807 : Int64)))), .second, .unset, .unset, .unset, .unset, .unset] [])) _
        refine XS.lconst X2.here hx rfl (hb hby at_47) ?_
        show Steps p.tables e below (T2.setTop (mkF m 48 #[.val (.long q0), .second, .val (.long q1), .second, .val (.long (q0 &&& (9223372036854775807 : Int64))), .second, .val (.long (q1 &&& (9223372036854775807 : Int64))), .second, .val (.long (f1 (q0 &&& (9223372036854775807 : Int64)) (q1 &&& (9223372036854775807 : Int64)))), .second, .val (.long (f2 (q0 &&& (9223372036854775807 : Int64)) (q1 &&& (9223372036854775807 : Int64)))), .second, .unset, .unset, .unset, .unset, .unset] [(.long (1 : Int64))])) _
        refine XS.lstore X2.here hx rfl (hb hby at_48) rfl (l' := #[.val (.long q0), .second, .val (.long q1), .second, .val (.long (q0 &&& (9223372036854775807 : Int64))), .second, .val (.long (q1 &&& (9223372036854775807 : Int64))), .second, .val (.long (f1 (q0 &&& (9223372036854775807 : Int64)) (q1 &&& (9223372036854775807 : Int64)))), .second, .val (.long (1 : Int64)), .second, .unset, .unset, .unset, .unset, .unset]) rfl ?_
        show Steps p.tables e below (T2.setTop (mkF m 50 #[.val (.long q0), .second, .val (.long q1), .second, .val (.long (q0 &&& (9223372036854775807 : Int64))), .second, .val (.long (q1 &&& (9223372036854775807 : Int64))), .second, .val (.long (f1 (q0 &&& (9223372036854775807 : Int64)) (q1 &&& (9223372036854775807 : Int64)))), .second, .val (.long (1 : Int64)), .second, .unset, .unset, .unset, .unset, .unset] [])) _
        refine XS.goto X2.here hx rfl (pc0 := 50) (pc' := 59) rfl (hb hby at_50) (by decide) (by decide) ?_
        exact kt
      · rw [show (m0_0 q0 q1) = ((f1 (q0 &&& (9223372036854775807 : Int64)) (q1 &&& (9223372036854775807 : Int64))) - (1 : Int64)) from by unfold m0_0; rw [if_pos hm37_3, if_neg hm44_4]] at kt
        rw [show (m0_1 q0 q1) = (f2 (q0 &&& (9223372036854775807 : Int64)) (q1 &&& (9223372036854775807 : Int64))) from by unfold m0_1; rw [if_pos hm37_3, if_neg hm44_4]] at kt
        show Steps p.tables e below (T2.setTop (mkF m 37 #[.val (.long q0), .second, .val (.long q1), .second, .val (.long (q0 &&& (9223372036854775807 : Int64))), .second, .val (.long (q1 &&& (9223372036854775807 : Int64))), .second, .val (.long (f1 (q0 &&& (9223372036854775807 : Int64)) (q1 &&& (9223372036854775807 : Int64)))), .second, .val (.long (f2 (q0 &&& (9223372036854775807 : Int64)) (q1 &&& (9223372036854775807 : Int64)))), .second, .unset, .unset, .unset, .unset, .unset] [(.int (lcmpW (f1 (q0 &&& (9223372036854775807 : Int64)) (q1 &&& (9223372036854775807 : Int64))) (f2 (q0 &&& (9223372036854775807 : Int64)) (q1 &&& (9223372036854775807 : Int64)))))])) _
        refine XS.ifNo X2.here hx rfl (hb hby at_37) rfl ((if0 _ _).trans (teq ((lw_eq _ _).mpr hm37_3)).2) ?_
        show Steps p.tables e below (T2.setTop (mkF m 40 #[.val (.long q0), .second, .val (.long q1), .second, .val (.long (q0 &&& (9223372036854775807 : Int64))), .second, .val (.long (q1 &&& (9223372036854775807 : Int64))), .second, .val (.long (f1 (q0 &&& (9223372036854775807 : Int64)) (q1 &&& (9223372036854775807 : Int64)))), .second, .val (.long (f2 (q0 &&& (9223372036854775807 : Int64)) (q1 &&& (9223372036854775807 : Int64)))), .second, .unset, .unset, .unset, .unset, .unset] [])) _
        refine XS.lload X2.here hx rfl (hb hby at_40) rfl ?_
        show Steps p.tables e below (T2.setTop (mkF m 42 #[.val (.long q0), .second, .val (.long q1), .second, .val (.long (q0 &&& (9223372036854775807 : Int64))), .second, .val (.long (q1 &&& (9223372036854775807 : Int64))), .second, .val (.long (f1 (q0 &&& (9223372036854775807 : Int64)) (q1 &&& (9223372036854775807 : Int64)))), .second, .val (.long (f2 (q0 &&& (9223372036854775807 : Int64)) (q1 &&& (9223372036854775807 : Int64)))), .second, .unset, .unset, .unset, .unset, .unset] [(.long (f2 (q0 &&& (9223372036854775807 : Int64)) (q1 &&& (9223372036854775807 : Int64))))])) _
        refine XS.lconst X2.here hx rfl (hb hby at_42) ?_
        show Steps p.tables e below (T2.setTop (mkF m 43 #[.val (.long q0), .second, .val (.long q1), .second, .val (.long (q0 &&& (9223372036854775807 : Int64))), .second, .val (.long (q1 &&& (9223372036854775807 : Int64))), .second, .val (.long (f1 (q0 &&& (9223372036854775807 : Int64)) (q1 &&& (9223372036854775807 : Int64)))), .second, .val (.long (f2 (q0 &&& (9223372036854775807 : Int64)) (q1 &&& (9223372036854775807 : Int64)))), .second, .unset, .unset, .unset, .unset, .unset] [(.long (0 : Int64)), (.long (f2 (q0 &&& (9223372036854775807 : Int64)) (q1 &&& (9223372036854775807 : Int64))))])) _
        refine XS.lcmp X2.here hx rfl (hb hby at_43) rfl ?_
        show Steps p.tables e below (T2.setTop (mkF m 44 #[.val (.long q0), .second, .val (.long q1), .second, .val (.long (q0 &&& (9223372036854775807 : Int64))), .second, .val (.long (q1 &&& (9223372036854775807 : Int64))), .second, .val (.long (f1 (q0 &&& (9223372036854775807 : Int64)) (q1 &&& (9223372036854775807 : Int64)))), .second, .val (.long (f2 (q0 &&& (9223372036854775807 : Int64)) (q1 &&& (9223372036854775807 : Int64)))), .second, .unset, .unset, .unset, .unset, .unset] [(.int (lcmpW (f2 (q0 &&& (9223372036854775807 : Int64)) (q1 &&& (9223372036854775807 : Int64))) (0 : Int64)))])) _
        refine XS.ifYes X2.here hx rfl (pc0 := 44) (pc' := 53) rfl (hb hby at_44) rfl ((if0 _ _).trans (feq (fun q => hm44_4 ((lw_eq _ _).mp q))).2) (by decide) (by decide) ?_
        show Steps p.tables e below (T2.setTop (mkF m 53 #[.val (.long q0), .second, .val (.long q1), .second, .val (.long (q0 &&& (9223372036854775807 : Int64))), .second, .val (.long (q1 &&& (9223372036854775807 : Int64))), .second, .val (.long (f1 (q0 &&& (9223372036854775807 : Int64)) (q1 &&& (9223372036854775807 : Int64)))), .second, .val (.long (f2 (q0 &&& (9223372036854775807 : Int64)) (q1 &&& (9223372036854775807 : Int64)))), .second, .unset, .unset, .unset, .unset, .unset] [])) _
        refine XS.lload X2.here hx rfl (hb hby at_53) rfl ?_
        show Steps p.tables e below (T2.setTop (mkF m 55 #[.val (.long q0), .second, .val (.long q1), .second, .val (.long (q0 &&& (9223372036854775807 : Int64))), .second, .val (.long (q1 &&& (9223372036854775807 : Int64))), .second, .val (.long (f1 (q0 &&& (9223372036854775807 : Int64)) (q1 &&& (9223372036854775807 : Int64)))), .second, .val (.long (f2 (q0 &&& (9223372036854775807 : Int64)) (q1 &&& (9223372036854775807 : Int64)))), .second, .unset, .unset, .unset, .unset, .unset] [(.long (f1 (q0 &&& (9223372036854775807 : Int64)) (q1 &&& (9223372036854775807 : Int64))))])) _
        refine XS.lconst X2.here hx rfl (hb hby at_55) ?_
        show Steps p.tables e below (T2.setTop (mkF m 56 #[.val (.long q0), .second, .val (.long q1), .second, .val (.long (q0 &&& (9223372036854775807 : Int64))), .second, .val (.long (q1 &&& (9223372036854775807 : Int64))), .second, .val (.long (f1 (q0 &&& (9223372036854775807 : Int64)) (q1 &&& (9223372036854775807 : Int64)))), .second, .val (.long (f2 (q0 &&& (9223372036854775807 : Int64)) (q1 &&& (9223372036854775807 : Int64)))), .second, .unset, .unset, .unset, .unset, .unset] [(.long (1 : Int64)), (.long (f1 (q0 &&& (9223372036854775807 : Int64)) (q1 &&& (9223372036854775807 : Int64))))])) _
        refine XS.lsub X2.here hx rfl (hb hby at_56) rfl ?_
        show Steps p.tables e below (T2.setTop (mkF m 57 #[.val (.long q0), .second, .val (.long q1), .second, .val (.long (q0 &&& (9223372036854775807 : Int64))), .second, .val (.long (q1 &&& (9223372036854775807 : Int64))), .second, .val (.long (f1 (q0 &&& (9223372036854775807 : Int64)) (q1 &&& (9223372036854775807 : Int64)))), .second, .val (.long (f2 (q0 &&& (9223372036854775807 : Int64)) (q1 &&& (9223372036854775807 : Int64)))), .second, .unset, .unset, .unset, .unset, .unset] [(.long ((f1 (q0 &&& (9223372036854775807 : Int64)) (q1 &&& (9223372036854775807 : Int64))) - (1 : Int64)))])) _
        refine XS.lstore X2.here hx rfl (hb hby at_57) rfl (l' := #[.val (.long q0), .second, .val (.long q1), .second, .val (.long (q0 &&& (9223372036854775807 : Int64))), .second, .val (.long (q1 &&& (9223372036854775807 : Int64))), .second, .val (.long ((f1 (q0 &&& (9223372036854775807 : Int64)) (q1 &&& (9223372036854775807 : Int64))) - (1 : Int64))), .second, .val (.long (f2 (q0 &&& (9223372036854775807 : Int64)) (q1 &&& (9223372036854775807 : Int64)))), .second, .unset, .unset, .unset, .unset, .unset]) rfl ?_
        exact kt
    · rw [show (m0_0 q0 q1) = (f1 (q0 &&& (9223372036854775807 : Int64)) (q1 &&& (9223372036854775807 : Int64))) from by unfold m0_0; rw [if_neg hm37_3]] at kt
      rw [show (m0_1 q0 q1) = (f2 (q0 &&& (9223372036854775807 : Int64)) (q1 &&& (9223372036854775807 : Int64))) from by unfold m0_1; rw [if_neg hm37_3]] at kt
      show Steps p.tables e below (T2.setTop (mkF m 37 #[.val (.long q0), .second, .val (.long q1), .second, .val (.long (q0 &&& (9223372036854775807 : Int64))), .second, .val (.long (q1 &&& (9223372036854775807 : Int64))), .second, .val (.long (f1 (q0 &&& (9223372036854775807 : Int64)) (q1 &&& (9223372036854775807 : Int64)))), .second, .val (.long (f2 (q0 &&& (9223372036854775807 : Int64)) (q1 &&& (9223372036854775807 : Int64)))), .second, .unset, .unset, .unset, .unset, .unset] [(.int (lcmpW (f1 (q0 &&& (9223372036854775807 : Int64)) (q1 &&& (9223372036854775807 : Int64))) (f2 (q0 &&& (9223372036854775807 : Int64)) (q1 &&& (9223372036854775807 : Int64)))))])) _
      refine XS.ifYes X2.here hx rfl (pc0 := 37) (pc' := 59) rfl (hb hby at_37) rfl ((if0 _ _).trans (feq (fun q => hm37_3 ((lw_eq _ _).mp q))).2) (by decide) (by decide) ?_
      exact kt
  obtain ⟨T5, h5, X5, e5, E5, A5, D5, -, st5⟩ := newO X2 hx hZ hown (hw _ (List.mem_of_getElem? (i := 8) rfl)) (hw _ (List.mem_of_getElem? (i := 9) rfl)) (hw _ (List.mem_of_getElem? (i := 10) rfl)) e2 (g := (mkF m 59 #[.val (.long q0), .second, .val (.long q1), .second, .val (.long (q0 &&& (9223372036854775807 : Int64))), .second, .val (.long (q1 &&& (9223372036854775807 : Int64))), .second, .val (.long (m0_0 q0 q1)), .second, .val (.long (m0_1 q0 q1)), .second, .unset, .unset, .unset, .unset, .unset] [])) rfl (hb hby at_59) (by decide) (by decide)
  obtain ⟨b5, g5⟩ : ∃ z, z = h0.size := ⟨_, rfl⟩
  rw [← g5] at A5 D5 st5
  have lo5 : n0 ≤ b5 := Nat.le_trans Z0 (Nat.le_of_eq g5.symm)
  have sz5 : h0.size ≤ b5 := Nat.le_trans (Nat.le_refl _) (Nat.le_of_eq g5.symm)
  have K5 : Keep h0 h5 [] := (Keep.refl h0 _).ext E5
  have Z5 : n0 ≤ h5.size := Nat.le_trans Z0 E5.1
  have F5_from : Fld Z h5 b5 "com/example/byteloom/byteloom/ByteRange" "from" "J" (.long (0 : Int64)) := D5 (Or.inr (hw _ (List.mem_of_getElem? (i := 18) rfl))) (ty := .long) (by decide)
  have F5_to : Fld Z h5 b5 "com/example/byteloom/byteloom/ByteRange" "to" "J" (.long (0 : Int64)) := D5 (Or.inr (hw _ (List.mem_of_getElem? (i := 20) rfl))) (ty := .long) (by decide)
  obtain ⟨_, _, ⟨T6, L6, k6, n6⟩, -, X6, ⟨Lc6, hQ6, l6, y6, z6⟩, st6⟩ := X5.specialBack hx (y := (⟨"com/example/byteloom/byteloom/ByteRange", "<init>", "(JJ)V"⟩ : MethodName)) rfl hown (mvT hZ (hw _ (List.mem_of_getElem? (i := 11) rfl))) (mvT hZ (hw _ (List.mem_of_getElem? (i := 12) rfl))) (mvT hZ (hw _ (List.mem_of_getElem? (i := 13) rfl))) (by decide) (backOf (W := 1) (rm3 l Z aw hw [] b5 (m0_0 q0 q1) (m0_1 q0 q1) h5 n0 Z5 F5_from F5_to A5 lo5 (own_lohi q0 q1).1 (own_lohi q0 q1).2) hZ (hw _ (List.mem_of_getElem? (i := 13) rfl)) (hw _ (List.mem_of_getElem? (i := 10) rfl)) (by decide) (by decide)) (g := (mkF m 67 #[.val (.long q0), .second, .val (.long q1), .second, .val (.long (q0 &&& (9223372036854775807 : Int64))), .second, .val (.long (q1 &&& (9223372036854775807 : Int64))), .second, .val (.long (m0_0 q0 q1)), .second, .val (.long (m0_1 q0 q1)), .second, .unset, .unset, .unset, .unset, .unset] [(.long (m0_1 q0 q1)), (.long (m0_0 q0 q1)), (.ref b5), (.ref b5)])) rfl (by rw [hml]; rfl) (Steps.refl _) (a := b5) (argsL := [(.long (m0_0 q0 q1)), (.long (m0_1 q0 q1))]) (rest := [(.ref b5)]) (lenOf pd_0_1 rfl) rfl (by show 2 * 0 + _ ≤ _; exact Nat.le_of_eq rfl) (hb hby at_67) (fun _ _ => ⟨rfl, e5, (by decide : 1 + 0 ≤ _), (by decide : 2 + 0 ≤ _)⟩)
  dsimp only [Pt.U, Pt.locs, Pt.cells, Pt.slots] at X6 l6 y6 z6 st6 hQ6
  subst l6 y6 z6
  obtain ⟨rfl, Nq6, Kq6, P6_0, P6_1, P6_2⟩ := hQ6
  have N6 := Fr.app N2 Nq6
  have K6 : Keep h0 T6.heap [] := K5.trans Kq6 (allS (Or.inr sz5) all0)
  have Z6 : n0 ≤ T6.heap.size := Nat.le_trans Z5 Kq6.1
  obtain ⟨T7, h7, X7, e7, E7, A7, D7, -, st7⟩ := newO X6 hx hZ hown (hw _ (List.mem_of_getElem? (i := 8) rfl)) (hw _ (List.mem_of_getElem? (i := 9) rfl)) (hw _ (List.mem_of_getElem? (i := 10) rfl)) rfl (g := (mkF m 72 #[.val (.long q0), .second, .val (.long q1), .second, .val (.long (q0 &&& (9223372036854775807 : Int64))), .second, .val (.long (q1 &&& (9223372036854775807 : Int64))), .second, .val (.long (m0_0 q0 q1)), .second, .val (.long (m0_1 q0 q1)), .second, .val (.ref b5), .unset, .unset, .unset, .unset] [])) rfl (hb hby at_72) (by decide) (by decide)
  obtain ⟨b7, g7⟩ : ∃ z, z = T6.heap.size := ⟨_, rfl⟩
  rw [← g7] at A7 D7 st7
  have ne7_b5 : b5 ≠ b7 := Nat.ne_of_lt (Nat.lt_of_lt_of_le P6_0.lt (Nat.le_of_eq g7.symm))
  have lo7 : n0 ≤ b7 := Nat.le_trans Z6 (Nat.le_of_eq g7.symm)
  have sz7 : h0.size ≤ b7 := Nat.le_trans K6.1 (Nat.le_of_eq g7.symm)
  have f7_0 := P6_0.ext E7
  have f7_1 := P6_1.ext E7
  have f7_2 := P6_2.ext E7
  have K7 := K6.ext E7
  have Z7 : n0 ≤ h7.size := Nat.le_trans Z6 E7.1
  have F7_from : Fld Z h7 b7 "com/example/byteloom/byteloom/ByteRange" "from" "J" (.long (0 : Int64)) := D7 (Or.inr (hw _ (List.mem_of_getElem? (i := 18) rfl))) (ty := .long) (by decide)
  have F7_to : Fld Z h7 b7 "com/example/byteloom/byteloom/ByteRange" "to" "J" (.long (0 : Int64)) := D7 (Or.inr (hw _ (List.mem_of_getElem? (i := 20) rfl))) (ty := .long) (by decide)
  obtain ⟨_, _, ⟨T8, L8, k8, n8⟩, -, X8, ⟨Lc8, hQ8, l8, y8, z8⟩, st8⟩ := X7.specialBack hx (y := (⟨"com/example/byteloom/byteloom/ByteRange", "<init>", "(JJ)V"⟩ : MethodName)) rfl hown (mvT hZ (hw _ (List.mem_of_getElem? (i := 11) rfl))) (mvT hZ (hw _ (List.mem_of_getElem? (i := 12) rfl))) (mvT hZ (hw _ (List.mem_of_getElem? (i := 13) rfl))) (by decide) (backOf (W := 1) (rm3 l Z aw hw [] b7 (m0_0 q0 q1) (m0_1 q0 q1) h7 n0 Z7 F7_from F7_to A7 lo7 (own_lohi q0 q1).1 (own_lohi q0 q1).2) hZ (hw _ (List.mem_of_getElem? (i := 13) rfl)) (hw _ (List.mem_of_getElem? (i := 10) rfl)) (by decide) (by decide)) (g := (mkF m 80 #[.val (.long q0), .second, .val (.long q1), .second, .val (.long (q0 &&& (9223372036854775807 : Int64))), .second, .val (.long (q1 &&& (9223372036854775807 : Int64))), .second, .val (.long (m0_0 q0 q1)), .second, .val (.long (m0_1 q0 q1)), .second, .val (.ref b5), .unset, .unset, .unset, .unset] [(.long (m0_1 q0 q1)), (.long (m0_0 q0 q1)), (.ref b7), (.ref b7)])) rfl (by rw [hml]; rfl) (Steps.refl _) (a := b7) (argsL := [(.long (m0_0 q0 q1)), (.long (m0_1 q0 q1))]) (rest := [(.ref b7)]) (lenOf pd_0_1 rfl) rfl (by show 2 * 0 + _ ≤ _; exact Nat.le_of_eq rfl) (hb hby at_80) (fun _ _ => ⟨rfl, e7, (by decide : 2 + 0 ≤ _), (by decide : 4 + 0 ≤ _)⟩)
  dsimp only [Pt.U, Pt.locs, Pt.cells, Pt.slots] at X8 l8 y8 z8 st8 hQ8
  subst l8 y8 z8
  obtain ⟨rfl, Nq8, Kq8, P8_0, P8_1, P8_2⟩ := hQ8
  have N8 := Fr.app N6 Nq8
  have f8_0 := f7_0.keep Kq8
  have f8_1 := f7_1.keep Kq8 (ninS ne7_b5 nin0)
  have f8_2 := f7_2.keep Kq8 (ninS ne7_b5 nin0)
  have K8 : Keep h0 T8.heap [] := K7.trans Kq8 (allS (Or.inr sz7) all0)
  have Z8 : n0 ≤ T8.heap.size := Nat.le_trans Z7 Kq8.1
  obtain ⟨cq9, kq9, q9a, q9b, q9c⟩ := isOf hZ rfl f8_0
  obtain ⟨_, _, ⟨T9, L9, k9, n9⟩, -, X9, ⟨Lc9, hQ9, l9, y9, z9⟩, st9⟩ := X8.virtualBack hx (y := (⟨"com/example/byteloom/byteloom/ByteRange", "hashCode", "()I"⟩ : MethodName)) (z := (⟨"com/example/byteloom/byteloom/ByteRange", "hashCode", "()I"⟩ : MethodName)) hown (mvT hZ (hw _ (List.mem_of_getElem? (i := 21) rfl))) (mvT hZ (hw _ (List.mem_of_getElem? (i := 22) rfl))) (notFace_of_selects (args := #[]) (mvT hZ (hw _ (List.mem_of_getElem? (i := 24) rfl)))) (mvT hZ (hw _ (List.mem_of_getElem? (i := 24) rfl))) (mvT hZ (hw _ (List.mem_of_getElem? (i := 23) rfl))) (by decide) (backOf (W := 0) (rm5 l Z aw hw [] b5 (m0_0 q0 q1) (m0_1 q0 q1) T8.heap n0 Z8 f8_1 f8_2) hZ (hw _ (List.mem_of_getElem? (i := 25) rfl)) (hw _ (List.mem_of_getElem? (i := 10) rfl)) (by decide) (by decide)) q9a q9c (g := (mkF m 87 #[.val (.long q0), .second, .val (.long q1), .second, .val (.long (q0 &&& (9223372036854775807 : Int64))), .second, .val (.long (q1 &&& (9223372036854775807 : Int64))), .second, .val (.long (m0_0 q0 q1)), .second, .val (.long (m0_1 q0 q1)), .second, .val (.ref b5), .val (.ref b7), .unset, .unset, .unset] [(.ref b5)])) rfl (by rw [hml]; rfl) (Steps.refl _) (argsL := []) (rest := []) (lenOf pd_0_2 rfl) rfl (by show 2 * 0 + _ ≤ _; exact Nat.le_of_eq rfl) (hb hby at_87) (fun _ _ => ⟨rfl, rfl, (by decide : 2 + 0 ≤ _), (by decide : 4 + 0 ≤ _)⟩)
  dsimp only [Pt.U, Pt.locs, Pt.cells, Pt.slots] at X9 l9 y9 z9 st9 hQ9
  subst l9 y9 z9
  obtain ⟨rfl, Nq9, e9⟩ := hQ9
  have N9 := Fr.app N8 Nq9
  obtain ⟨cq10, kq10, q10a, q10b, q10c⟩ := isOf hZ e9 P8_0
  obtain ⟨_, _, ⟨T10, L10, k10, n10⟩, -, X10, ⟨Lc10, hQ10, l10, y10, z10⟩, st10⟩ := X9.virtualBack hx (y := (⟨"com/example/byteloom/byteloom/ByteRange", "hashCode", "()I"⟩ : MethodName)) (z := (⟨"com/example/byteloom/byteloom/ByteRange", "hashCode", "()I"⟩ : MethodName)) hown (mvT hZ (hw _ (List.mem_of_getElem? (i := 21) rfl))) (mvT hZ (hw _ (List.mem_of_getElem? (i := 22) rfl))) (notFace_of_selects (args := #[]) (mvT hZ (hw _ (List.mem_of_getElem? (i := 24) rfl)))) (mvT hZ (hw _ (List.mem_of_getElem? (i := 24) rfl))) (mvT hZ (hw _ (List.mem_of_getElem? (i := 23) rfl))) (by decide) (backOf (W := 0) (rm5 l Z aw hw [] b7 (m0_0 q0 q1) (m0_1 q0 q1) T8.heap n0 Z8 P8_1 P8_2) hZ (hw _ (List.mem_of_getElem? (i := 25) rfl)) (hw _ (List.mem_of_getElem? (i := 10) rfl)) (by decide) (by decide)) q10a q10c (g := (mkF m 94 #[.val (.long q0), .second, .val (.long q1), .second, .val (.long (q0 &&& (9223372036854775807 : Int64))), .second, .val (.long (q1 &&& (9223372036854775807 : Int64))), .second, .val (.long (m0_0 q0 q1)), .second, .val (.long (m0_1 q0 q1)), .second, .val (.ref b5), .val (.ref b7), .val (.int (f5 (m0_0 q0 q1) (m0_1 q0 q1))), .unset, .unset] [(.ref b7)])) rfl (by rw [hml]; rfl) (Steps.refl _) (argsL := []) (rest := []) (lenOf pd_0_2 rfl) rfl (by show 2 * 0 + _ ≤ _; exact Nat.le_of_eq rfl) (hb hby at_94) (fun _ _ => ⟨rfl, e9, (by decide : 2 + 0 ≤ _), (by decide : 4 + 0 ≤ _)⟩)
  dsimp only [Pt.U, Pt.locs, Pt.cells, Pt.slots] at X10 l10 y10 z10 st10 hQ10
  subst l10 y10 z10
  obtain ⟨rfl, Nq10, e10⟩ := hQ10
  have N10 := Fr.app N9 Nq10
  obtain ⟨cq11, kq11, q11a, q11b, q11c⟩ := isOf hZ e10 f8_0
  obtain ⟨_, _, ⟨T11, L11, k11, n11⟩, -, X11, ⟨Lc11, hQ11, l11, y11, z11⟩, st11⟩ := X10.virtualBack hx (y := (⟨"com/example/byteloom/byteloom/ByteRange", "hashCode", "()I"⟩ : MethodName)) (z := (⟨"com/example/byteloom/byteloom/ByteRange", "hashCode", "()I"⟩ : MethodName)) hown (mvT hZ (hw _ (List.mem_of_getElem? (i := 21) rfl))) (mvT hZ (hw _ (List.mem_of_getElem? (i := 22) rfl))) (notFace_of_selects (args := #[]) (mvT hZ (hw _ (List.mem_of_getElem? (i := 24) rfl)))) (mvT hZ (hw _ (List.mem_of_getElem? (i := 24) rfl))) (mvT hZ (hw _ (List.mem_of_getElem? (i := 23) rfl))) (by decide) (backOf (W := 0) (rm5 l Z aw hw [] b5 (m0_0 q0 q1) (m0_1 q0 q1) T8.heap n0 Z8 f8_1 f8_2) hZ (hw _ (List.mem_of_getElem? (i := 25) rfl)) (hw _ (List.mem_of_getElem? (i := 10) rfl)) (by decide) (by decide)) q11a q11c (g := (mkF m 101 #[.val (.long q0), .second, .val (.long q1), .second, .val (.long (q0 &&& (9223372036854775807 : Int64))), .second, .val (.long (q1 &&& (9223372036854775807 : Int64))), .second, .val (.long (m0_0 q0 q1)), .second, .val (.long (m0_1 q0 q1)), .second, .val (.ref b5), .val (.ref b7), .val (.int (f5 (m0_0 q0 q1) (m0_1 q0 q1))), .val (.int (f5 (m0_0 q0 q1) (m0_1 q0 q1))), .unset] [(.ref b5)])) rfl (by rw [hml]; rfl) (Steps.refl _) (argsL := []) (rest := []) (lenOf pd_0_2 rfl) rfl (by show 2 * 0 + _ ≤ _; exact Nat.le_of_eq rfl) (hb hby at_101) (fun _ _ => ⟨rfl, e10, (by decide : 2 + 0 ≤ _), (by decide : 4 + 0 ≤ _)⟩)
  dsimp only [Pt.U, Pt.locs, Pt.cells, Pt.slots] at X11 l11 y11 z11 st11 hQ11
  subst l11 y11 z11
  obtain ⟨rfl, Nq11, e11⟩ := hQ11
  have N11 := Fr.app N10 Nq11
  obtain ⟨cq12, kq12, q12a, q12b, q12c⟩ := isOf hZ e11 f8_0
  obtain ⟨_, _, ⟨T12, L12, k12, n12⟩, -, X12, ⟨Lc12, hQ12, l12, y12, z12⟩, st12⟩ := X11.virtualBack hx (y := (⟨"com/example/byteloom/byteloom/ByteRange", "equals", "(Ljava/lang/Object;)Z"⟩ : MethodName)) (z := (⟨"com/example/byteloom/byteloom/ByteRange", "equals", "(Ljava/lang/Object;)Z"⟩ : MethodName)) hown (mvT hZ (hw _ (List.mem_of_getElem? (i := 30) rfl))) (mvT hZ (hw _ (List.mem_of_getElem? (i := 31) rfl))) (notFace_of_selects (args := #[]) (mvT hZ (hw _ (List.mem_of_getElem? (i := 33) rfl)))) (mvT hZ (hw _ (List.mem_of_getElem? (i := 33) rfl))) (mvT hZ (hw _ (List.mem_of_getElem? (i := 32) rfl))) (by decide) (backOf (W := 0) (rm7 l Z aw hw [] b5 b7 (m0_0 q0 q1) (m0_1 q0 q1) (m0_0 q0 q1) (m0_1 q0 q1) T8.heap n0 Z8 f8_1 f8_2 P8_1 P8_2 P8_0) hZ (hw _ (List.mem_of_getElem? (i := 34) rfl)) (hw _ (List.mem_of_getElem? (i := 10) rfl)) (by decide) (by decide)) q12a q12c (g := (mkF m 110 #[.val (.long q0), .second, .val (.long q1), .second, .val (.long (q0 &&& (9223372036854775807 : Int64))), .second, .val (.long (q1 &&& (9223372036854775807 : Int64))), .second, .val (.long (m0_0 q0 q1)), .second, .val (.long (m0_1 q0 q1)), .second, .val (.ref b5), .val (.ref b7), .val (.int (f5 (m0_0 q0 q1) (m0_1 q0 q1))), .val (.int (f5 (m0_0 q0 q1) (m0_1 q0 q1))), .val (.int (f5 (m0_0 q0 q1) (m0_1 q0 q1)))] [(.ref b7), (.ref b5)])) rfl (by rw [hml]; rfl) (Steps.refl _) (argsL := [(.ref b7)]) (rest := []) (lenOf pd_0_3 rfl) rfl (by show 2 * 0 + _ ≤ _; exact Nat.le_of_eq rfl) (hb hby at_110) (fun _ _ => ⟨rfl, e11, (by decide : 2 + 0 ≤ _), (by decide : 4 + 0 ≤ _)⟩)
  dsimp only [Pt.U, Pt.locs, Pt.cells, Pt.slots] at X12 l12 y12 z12 st12 hQ12
  subst l12 y12 z12
  obtain ⟨rfl, Nq12, e12⟩ := hQ12
  have N12 := Fr.app N11 Nq12
  refine own_back (b := T12.setTop (mkF m 113 #[.val (.long q0), .second, .val (.long q1), .second, .val (.long (q0 &&& (9223372036854775807 : Int64))), .second, .val (.long (q1 &&& (9223372036854775807 : Int64))), .second, .val (.long (m0_0 q0 q1)), .second, .val (.long (m0_1 q0 q1)), .second, .val (.ref b5), .val (.ref b7), .val (.int (f5 (m0_0 q0 q1) (m0_1 q0 q1))), .val (.int (f5 (m0_0 q0 q1) (m0_1 q0 q1))), .val (.int (f5 (m0_0 q0 q1) (m0_1 q0 q1)))] [(.int (f7 (m0_0 q0 q1) (m0_1 q0 q1) (m0_0 q0 q1) (m0_1 q0 q1)))])) (fun t kt => ?_) ?_
  · show Steps p.tables e below (T2.setTop (mkF m 59 #[.val (.long q0), .second, .val (.long q1), .second, .val (.long (q0 &&& (9223372036854775807 : Int64))), .second, .val (.long (q1 &&& (9223372036854775807 : Int64))), .second, .val (.long (m0_0 q0 q1)), .second, .val (.long (m0_1 q0 q1)), .second, .unset, .unset, .unset, .unset, .unset] [])) _
    refine st5 _ ?_
    show Steps p.tables e below (T5.setTop (mkF m 62 #[.val (.long q0), .second, .val (.long q1), .second, .val (.long (q0 &&& (9223372036854775807 : Int64))), .second, .val (.long (q1 &&& (9223372036854775807 : Int64))), .second, .val (.long (m0_0 q0 q1)), .second, .val (.long (m0_1 q0 q1)), .second, .unset, .unset, .unset, .unset, .unset] [(.ref b5)])) _
    refine XS.dup X5.here hx rfl (hb hby at_62) rfl rfl ?_
    show Steps p.tables e below (T5.setTop (mkF m 63 #[.val (.long q0), .second, .val (.long q1), .second, .val (.long (q0 &&& (9223372036854775807 : Int64))), .second, .val (.long (q1 &&& (9223372036854775807 : Int64))), .second, .val (.long (m0_0 q0 q1)), .second, .val (.long (m0_1 q0 q1)), .second, .unset, .unset, .unset, .unset, .unset] [(.ref b5), (.ref b5)])) _
    refine XS.lload X5.here hx rfl (hb hby at_63) rfl ?_
    show Steps p.tables e below (T5.setTop (mkF m 65 #[.val (.long q0), .second, .val (.long q1), .second, .val (.long (q0 &&& (9223372036854775807 : Int64))), .second, .val (.long (q1 &&& (9223372036854775807 : Int64))), .second, .val (.long (m0_0 q0 q1)), .second, .val (.long (m0_1 q0 q1)), .second, .unset, .unset, .unset, .unset, .unset] [(.long (m0_0 q0 q1)), (.ref b5), (.ref b5)])) _
    refine XS.lload X5.here hx rfl (hb hby at_65) rfl ?_
    show Steps p.tables e below (T5.setTop (mkF m 67 #[.val (.long q0), .second, .val (.long q1), .second, .val (.long (q0 &&& (9223372036854775807 : Int64))), .second, .val (.long (q1 &&& (9223372036854775807 : Int64))), .second, .val (.long (m0_0 q0 q1)), .second, .val (.long (m0_1 q0 q1)), .second, .unset, .unset, .unset, .unset, .unset] [(.long (m0_1 q0 q1)), (.long (m0_0 q0 q1)), (.ref b5), (.ref b5)])) _
    refine st6.trans ?_
    show Steps p.tables e below (T6.setTop (mkF m 70 #[.val (.long q0), .second, .val (.long q1), .second, .val (.long (q0 &&& (9223372036854775807 : Int64))), .second, .val (.long (q1 &&& (9223372036854775807 : Int64))), .second, .val (.long (m0_0 q0 q1)), .second, .val (.long (m0_1 q0 q1)), .second, .unset, .unset, .unset, .unset, .unset] [(.ref b5)])) _
    refine XS.astore X6.here hx rfl (hb hby at_70) rfl rfl (l' := #[.val (.long q0), .second, .val (.long q1), .second, .val (.long (q0 &&& (9223372036854775807 : Int64))), .second, .val (.long (q1 &&& (9223372036854775807 : Int64))), .second, .val (.long (m0_0 q0 q1)), .second, .val (.long (m0_1 q0 q1)), .second, .val (.ref b5), .unset, .unset, .unset, .unset]) rfl ?_
    show Steps p.tables e below (T6.setTop (mkF m 72 #[.val (.long q0), .second, .val (.long q1), .second, .val (.long (q0 &&& (9223372036854775807 : Int64))), .second, .val (.long (q1 &&& (9223372036854775807 : Int64))), .second, .val (.long (m0_0 q0 q1)), .second, .val (.long (m0_1 q0 q1)), .second, .val (.ref b5), .unset, .unset, .unset, .unset] [])) _
    refine st7 _ ?_
    show Steps p.tables e below (T7.setTop (mkF m 75 #[.val (.long q0), .second, .val (.long q1), .second, .val (.long (q0 &&& (9223372036854775807 : Int64))), .second, .val (.long (q1 &&& (9223372036854775807 : Int64))), .second, .val (.long (m0_0 q0 q1)), .second, .val (.long (m0_1 q0 q1)), .second, .val (.ref b5), .unset, .unset, .unset, .unset] [(.ref b7)])) _
    refine XS.dup X7.here hx rfl (hb hby at_75) rfl rfl ?_
    show Steps p.tables e below (T7.setTop (mkF m 76 #[.val (.long q0), .second, .val (.long q1), .second, .val (.long (q0 &&& (9223372036854775807 : Int64))), .second, .val (.long (q1 &&& (9223372036854775807 : Int64))), .second, .val (.long (m0_0 q0 q1)), .second, .val (.long (m0_1 q0 q1)), .second, .val (.ref b5), .unset, .unset, .unset, .unset] [(.ref b7), (.ref b7)])) _
    refine XS.lload X7.here hx rfl (hb hby at_76) rfl ?_
    show Steps p.tables e below (T7.setTop (mkF m 78 #[.val (.long q0), .second, .val (.long q1), .second, .val (.long (q0 &&& (9223372036854775807 : Int64))), .second, .val (.long (q1 &&& (9223372036854775807 : Int64))), .second, .val (.long (m0_0 q0 q1)), .second, .val (.long (m0_1 q0 q1)), .second, .val (.ref b5), .unset, .unset, .unset, .unset] [(.long (m0_0 q0 q1)), (.ref b7), (.ref b7)])) _
    refine XS.lload X7.here hx rfl (hb hby at_78) rfl ?_
    show Steps p.tables e below (T7.setTop (mkF m 80 #[.val (.long q0), .second, .val (.long q1), .second, .val (.long (q0 &&& (9223372036854775807 : Int64))), .second, .val (.long (q1 &&& (9223372036854775807 : Int64))), .second, .val (.long (m0_0 q0 q1)), .second, .val (.long (m0_1 q0 q1)), .second, .val (.ref b5), .unset, .unset, .unset, .unset] [(.long (m0_1 q0 q1)), (.long (m0_0 q0 q1)), (.ref b7), (.ref b7)])) _
    refine st8.trans ?_
    show Steps p.tables e below (T8.setTop (mkF m 83 #[.val (.long q0), .second, .val (.long q1), .second, .val (.long (q0 &&& (9223372036854775807 : Int64))), .second, .val (.long (q1 &&& (9223372036854775807 : Int64))), .second, .val (.long (m0_0 q0 q1)), .second, .val (.long (m0_1 q0 q1)), .second, .val (.ref b5), .unset, .unset, .unset, .unset] [(.ref b7)])) _
    refine XS.astore X8.here hx rfl (hb hby at_83) rfl rfl (l' := #[.val (.long q0), .second, .val (.long q1), .second, .val (.long (q0 &&& (9223372036854775807 : Int64))), .second, .val (.long (q1 &&& (9223372036854775807 : Int64))), .second, .val (.long (m0_0 q0 q1)), .second, .val (.long (m0_1 q0 q1)), .second, .val (.ref b5), .val (.ref b7), .unset, .unset, .unset]) rfl ?_
    show Steps p.tables e below (T8.setTop (mkF m 85 #[.val (.long q0), .second, .val (.long q1), .second, .val (.long (q0 &&& (9223372036854775807 : Int64))), .second, .val (.long (q1 &&& (9223372036854775807 : Int64))), .second, .val (.long (m0_0 q0 q1)), .second, .val (.long (m0_1 q0 q1)), .second, .val (.ref b5), .val (.ref b7), .unset, .unset, .unset] [])) _
    refine XS.aload X8.here hx rfl (hb hby at_85) rfl rfl ?_
    show Steps p.tables e below (T8.setTop (mkF m 87 #[.val (.long q0), .second, .val (.long q1), .second, .val (.long (q0 &&& (9223372036854775807 : Int64))), .second, .val (.long (q1 &&& (9223372036854775807 : Int64))), .second, .val (.long (m0_0 q0 q1)), .second, .val (.long (m0_1 q0 q1)), .second, .val (.ref b5), .val (.ref b7), .unset, .unset, .unset] [(.ref b5)])) _
    refine st9.trans ?_
    show Steps p.tables e below (T9.setTop (mkF m 90 #[.val (.long q0), .second, .val (.long q1), .second, .val (.long (q0 &&& (9223372036854775807 : Int64))), .second, .val (.long (q1 &&& (9223372036854775807 : Int64))), .second, .val (.long (m0_0 q0 q1)), .second, .val (.long (m0_1 q0 q1)), .second, .val (.ref b5), .val (.ref b7), .unset, .unset, .unset] [(.int (f5 (m0_0 q0 q1) (m0_1 q0 q1)))])) _
    refine XS.istore X9.here hx rfl (hb hby at_90) rfl (l' := #[.val (.long q0), .second, .val (.long q1), .second, .val (.long (q0 &&& (9223372036854775807 : Int64))), .second, .val (.long (q1 &&& (9223372036854775807 : Int64))), .second, .val (.long (m0_0 q0 q1)), .second, .val (.long (m0_1 q0 q1)), .second, .val (.ref b5), .val (.ref b7), .val (.int (f5 (m0_0 q0 q1) (m0_1 q0 q1))), .unset, .unset]) rfl ?_
    show Steps p.tables e below (T9.setTop (mkF m 92 #[.val (.long q0), .second, .val (.long q1), .second, .val (.long (q0 &&& (9223372036854775807 : Int64))), .second, .val (.long (q1 &&& (9223372036854775807 : Int64))), .second, .val (.long (m0_0 q0 q1)), .second, .val (.long (m0_1 q0 q1)), .second, .val (.ref b5), .val (.ref b7), .val (.int (f5 (m0_0 q0 q1) (m0_1 q0 q1))), .unset, .unset] [])) _
    refine XS.aload X9.here hx rfl (hb hby at_92) rfl rfl ?_
    show Steps p.tables e below (T9.setTop (mkF m 94 #[.val (.long q0), .second, .val (.long q1), .second, .val (.long (q0 &&& (9223372036854775807 : Int64))), .second, .val (.long (q1 &&& (9223372036854775807 : Int64))), .second, .val (.long (m0_0 q0 q1)), .second, .val (.long (m0_1 q0 q1)), .second, .val (.ref b5), .val (.ref b7), .val (.int (f5 (m0_0 q0 q1) (m0_1 q0 q1))), .unset, .unset] [(.ref b7)])) _
    refine st10.trans ?_
    show Steps p.tables e below (T10.setTop (mkF m 97 #[.val (.long q0), .second, .val (.long q1), .second, .val (.long (q0 &&& (9223372036854775807 : Int64))), .second, .val (.long (q1 &&& (9223372036854775807 : Int64))), .second, .val (.long (m0_0 q0 q1)), .second, .val (.long (m0_1 q0 q1)), .second, .val (.ref b5), .val (.ref b7), .val (.int (f5 (m0_0 q0 q1) (m0_1 q0 q1))), .unset, .unset] [(.int (f5 (m0_0 q0 q1) (m0_1 q0 q1)))])) _
    refine XS.istore X10.here hx rfl (hb hby at_97) rfl (l' := #[.val (.long q0), .second, .val (.long q1), .second, .val (.long (q0 &&& (9223372036854775807 : Int64))), .second, .val (.long (q1 &&& (9223372036854775807 : Int64))), .second, .val (.long (m0_0 q0 q1)), .second, .val (.long (m0_1 q0 q1)), .second, .val (.ref b5), .val (.ref b7), .val (.int (f5 (m0_0 q0 q1) (m0_1 q0 q1))), .val (.int (f5 (m0_0 q0 q1) (m0_1 q0 q1))), .unset]) rfl ?_
    show Steps p.tables e below (T10.setTop (mkF m 99 #[.val (.long q0), .second, .val (.long q1), .second, .val (.long (q0 &&& (9223372036854775807 : Int64))), .second, .val (.long (q1 &&& (9223372036854775807 : Int64))), .second, .val (.long (m0_0 q0 q1)), .second, .val (.long (m0_1 q0 q1)), .second, .val (.ref b5), .val (.ref b7), .val (.int (f5 (m0_0 q0 q1) (m0_1 q0 q1))), .val (.int (f5 (m0_0 q0 q1) (m0_1 q0 q1))), .unset] [])) _
    refine XS.aload X10.here hx rfl (hb hby at_99) rfl rfl ?_
    show Steps p.tables e below (T10.setTop (mkF m 101 #[.val (.long q0), .second, .val (.long q1), .second, .val (.long (q0 &&& (9223372036854775807 : Int64))), .second, .val (.long (q1 &&& (9223372036854775807 : Int64))), .second, .val (.long (m0_0 q0 q1)), .second, .val (.long (m0_1 q0 q1)), .second, .val (.ref b5), .val (.ref b7), .val (.int (f5 (m0_0 q0 q1) (m0_1 q0 q1))), .val (.int (f5 (m0_0 q0 q1) (m0_1 q0 q1))), .unset] [(.ref b5)])) _
    refine st11.trans ?_
    show Steps p.tables e below (T11.setTop (mkF m 104 #[.val (.long q0), .second, .val (.long q1), .second, .val (.long (q0 &&& (9223372036854775807 : Int64))), .second, .val (.long (q1 &&& (9223372036854775807 : Int64))), .second, .val (.long (m0_0 q0 q1)), .second, .val (.long (m0_1 q0 q1)), .second, .val (.ref b5), .val (.ref b7), .val (.int (f5 (m0_0 q0 q1) (m0_1 q0 q1))), .val (.int (f5 (m0_0 q0 q1) (m0_1 q0 q1))), .unset] [(.int (f5 (m0_0 q0 q1) (m0_1 q0 q1)))])) _
    refine XS.istore X11.here hx rfl (hb hby at_104) rfl (l' := #[.val (.long q0), .second, .val (.long q1), .second, .val (.long (q0 &&& (9223372036854775807 : Int64))), .second, .val (.long (q1 &&& (9223372036854775807 : Int64))), .second, .val (.long (m0_0 q0 q1)), .second, .val (.long (m0_1 q0 q1)), .second, .val (.ref b5), .val (.ref b7), .val (.int (f5 (m0_0 q0 q1) (m0_1 q0 q1))), .val (.int (f5 (m0_0 q0 q1) (m0_1 q0 q1))), .val (.int (f5 (m0_0 q0 q1) (m0_1 q0 q1)))]) rfl ?_
    show Steps p.tables e below (T11.setTop (mkF m 106 #[.val (.long q0), .second, .val (.long q1), .second, .val (.long (q0 &&& (9223372036854775807 : Int64))), .second, .val (.long (q1 &&& (9223372036854775807 : Int64))), .second, .val (.long (m0_0 q0 q1)), .second, .val (.long (m0_1 q0 q1)), .second, .val (.ref b5), .val (.ref b7), .val (.int (f5 (m0_0 q0 q1) (m0_1 q0 q1))), .val (.int (f5 (m0_0 q0 q1) (m0_1 q0 q1))), .val (.int (f5 (m0_0 q0 q1) (m0_1 q0 q1)))] [])) _
    refine XS.aload X11.here hx rfl (hb hby at_106) rfl rfl ?_
    show Steps p.tables e below (T11.setTop (mkF m 108 #[.val (.long q0), .second, .val (.long q1), .second, .val (.long (q0 &&& (9223372036854775807 : Int64))), .second, .val (.long (q1 &&& (9223372036854775807 : Int64))), .second, .val (.long (m0_0 q0 q1)), .second, .val (.long (m0_1 q0 q1)), .second, .val (.ref b5), .val (.ref b7), .val (.int (f5 (m0_0 q0 q1) (m0_1 q0 q1))), .val (.int (f5 (m0_0 q0 q1) (m0_1 q0 q1))), .val (.int (f5 (m0_0 q0 q1) (m0_1 q0 q1)))] [(.ref b5)])) _
    refine XS.aload X11.here hx rfl (hb hby at_108) rfl rfl ?_
    show Steps p.tables e below (T11.setTop (mkF m 110 #[.val (.long q0), .second, .val (.long q1), .second, .val (.long (q0 &&& (9223372036854775807 : Int64))), .second, .val (.long (q1 &&& (9223372036854775807 : Int64))), .second, .val (.long (m0_0 q0 q1)), .second, .val (.long (m0_1 q0 q1)), .second, .val (.ref b5), .val (.ref b7), .val (.int (f5 (m0_0 q0 q1) (m0_1 q0 q1))), .val (.int (f5 (m0_0 q0 q1) (m0_1 q0 q1))), .val (.int (f5 (m0_0 q0 q1) (m0_1 q0 q1)))] [(.ref b7), (.ref b5)])) _
    refine st12.trans ?_
    exact kt
  by_cases hc113_13 : (f7 (m0_0 q0 q1) (m0_1 q0 q1) (m0_0 q0 q1) (m0_1 q0 q1)) = (0 : Int32)
  · refine own_back (b := T12.setTop (mkF m 135 #[.val (.long q0), .second, .val (.long q1), .second, .val (.long (q0 &&& (9223372036854775807 : Int64))), .second, .val (.long (q1 &&& (9223372036854775807 : Int64))), .second, .val (.long (m0_0 q0 q1)), .second, .val (.long (m0_1 q0 q1)), .second, .val (.ref b5), .val (.ref b7), .val (.int (f5 (m0_0 q0 q1) (m0_1 q0 q1))), .val (.int (f5 (m0_0 q0 q1) (m0_1 q0 q1))), .val (.int (f5 (m0_0 q0 q1) (m0_1 q0 q1)))] [(.int (0 : Int32))])) (fun t kt => ?_) ?_
    · show Steps p.tables e below (T12.setTop (mkF m 113 #[.val (.long q0), .second, .val (.long q1), .second, .val (.long (q0 &&& (9223372036854775807 : Int64))), .second, .val (.long (q1 &&& (9223372036854775807 : Int64))), .second, .val (.long (m0_0 q0 q1)), .second, .val (.long (m0_1 q0 q1)), .second, .val (.ref b5), .val (.ref b7), .val (.int (f5 (m0_0 q0 q1) (m0_1 q0 q1))), .val (.int (f5 (m0_0 q0 q1) (m0_1 q0 q1))), .val (.int (f5 (m0_0 q0 q1) (m0_1 q0 q1)))] [(.int (f7 (m0_0 q0 q1) (m0_1 q0 q1) (m0_0 q0 q1) (m0_1 q0 q1)))])) _
      refine XS.ifYes X12.here hx rfl (pc0 := 113) (pc' := 134) rfl (hb hby at_113) rfl ((if0 _ _).trans (teq hc113_13).1) (by decide) (by decide) ?_
      show Steps p.tables e below (T12.setTop (mkF m 134 #[.val (.long q0), .second, .val (.long q1), .second, .val (.long (q0 &&& (9223372036854775807 : Int64))), .second, .val (.long (q1 &&& (9223372036854775807 : Int64))), .second, .val (.long (m0_0 q0 q1)), .second, .val (.long (m0_1 q0 q1)), .second, .val (.ref b5), .val (.ref b7), .val (.int (f5 (m0_0 q0 q1) (m0_1 q0 q1))), .val (.int (f5 (m0_0 q0 q1) (m0_1 q0 q1))), .val (.int (f5 (m0_0 q0 q1) (m0_1 q0 q1)))] [])) _
      refine XS.iconst X12.here hx rfl (hb hby at_134) ?_
      exact kt
    obtain ⟨fs, hr, hrun, hended, hW, hsame⟩ := X12.leave (v := some (.int (0 : Int32))) (fun h => by rw [Bd.returns] at h; cases h)
    refine ⟨_, _, ?_, hrun, hended, _, _, rfl, ?_, ⟨_, rfl⟩, hW, hsame.mono (by decide) (by decide)⟩
    · show Steps p.tables e below (T12.setTop (mkF m 135 #[.val (.long q0), .second, .val (.long q1), .second, .val (.long (q0 &&& (9223372036854775807 : Int64))), .second, .val (.long (q1 &&& (9223372036854775807 : Int64))), .second, .val (.long (m0_0 q0 q1)), .second, .val (.long (m0_1 q0 q1)), .second, .val (.ref b5), .val (.ref b7), .val (.int (f5 (m0_0 q0 q1) (m0_1 q0 q1))), .val (.int (f5 (m0_0 q0 q1) (m0_1 q0 q1))), .val (.int (f5 (m0_0 q0 q1) (m0_1 q0 q1)))] [(.int (0 : Int32))])) _
      exact retN X12 hx (t := .boolean) Bd.returns (by simp) (hb hby at_135) hr
    · show Q0 Z q0 q1 h0 n0 _ T12.heap _
      rw [e12]
      exact ⟨by rw [show f0 q0 q1 = (0 : Int32) from by unfold f0; rw [if_pos hc113_13]], N12⟩
  · refine own_back (b := T12.setTop (mkF m 135 #[.val (.long q0), .second, .val (.long q1), .second, .val (.long (q0 &&& (9223372036854775807 : Int64))), .second, .val (.long (q1 &&& (9223372036854775807 : Int64))), .second, .val (.long (m0_0 q0 q1)), .second, .val (.long (m0_1 q0 q1)), .second, .val (.ref b5), .val (.ref b7), .val (.int (f5 (m0_0 q0 q1) (m0_1 q0 q1))), .val (.int (f5 (m0_0 q0 q1) (m0_1 q0 q1))), .val (.int (f5 (m0_0 q0 q1) (m0_1 q0 q1)))] [(.int (1 : Int32))])) (fun t kt => ?_) ?_
    · show Steps p.tables e below (T12.setTop (mkF m 113 #[.val (.long q0), .second, .val (.long q1), .second, .val (.long (q0 &&& (9223372036854775807 : Int64))), .second, .val (.long (q1 &&& (9223372036854775807 : Int64))), .second, .val (.long (m0_0 q0 q1)), .second, .val (.long (m0_1 q0 q1)), .second, .val (.ref b5), .val (.ref b7), .val (.int (f5 (m0_0 q0 q1) (m0_1 q0 q1))), .val (.int (f5 (m0_0 q0 q1) (m0_1 q0 q1))), .val (.int (f5 (m0_0 q0 q1) (m0_1 q0 q1)))] [(.int (f7 (m0_0 q0 q1) (m0_1 q0 q1) (m0_0 q0 q1) (m0_1 q0 q1)))])) _
      refine XS.ifNo X12.here hx rfl (hb hby at_113) rfl ((if0 _ _).trans (feq hc113_13).1) ?_
      show Steps p.tables e below (T12.setTop (mkF m 116 #[.val (.long q0), .second, .val (.long q1), .second, .val (.long (q0 &&& (9223372036854775807 : Int64))), .second, .val (.long (q1 &&& (9223372036854775807 : Int64))), .second, .val (.long (m0_0 q0 q1)), .second, .val (.long (m0_1 q0 q1)), .second, .val (.ref b5), .val (.ref b7), .val (.int (f5 (m0_0 q0 q1) (m0_1 q0 q1))), .val (.int (f5 (m0_0 q0 q1) (m0_1 q0 q1))), .val (.int (f5 (m0_0 q0 q1) (m0_1 q0 q1)))] [])) _
      refine XS.iload X12.here hx rfl (hb hby at_116) rfl ?_
      show Steps p.tables e below (T12.setTop (mkF m 118 #[.val (.long q0), .second, .val (.long q1), .second, .val (.long (q0 &&& (9223372036854775807 : Int64))), .second, .val (.long (q1 &&& (9223372036854775807 : Int64))), .second, .val (.long (m0_0 q0 q1)), .second, .val (.long (m0_1 q0 q1)), .second, .val (.ref b5), .val (.ref b7), .val (.int (f5 (m0_0 q0 q1) (m0_1 q0 q1))), .val (.int (f5 (m0_0 q0 q1) (m0_1 q0 q1))), .val (.int (f5 (m0_0 q0 q1) (m0_1 q0 q1)))] [(.int (f5 (m0_0 q0 q1) (m0_1 q0 q1)))])) _
      refine XS.iload X12.here hx rfl (hb hby at_118) rfl ?_
      show Steps p.tables e below (T12.setTop (mkF m 120 #[.val (.long q0), .second, .val (.long q1), .second, .val (.long (q0 &&& (9223372036854775807 : Int64))), .second, .val (.long (q1 &&& (9223372036854775807 : Int64))), .second, .val (.long (m0_0 q0 q1)), .second, .val (.long (m0_1 q0 q1)), .second, .val (.ref b5), .val (.ref b7), .val (.int (f5 (m0_0 q0 q1) (m0_1 q0 q1))), .val (.int (f5 (m0_0 q0 q1) (m0_1 q0 q1))), .val (.int (f5 (m0_0 q0 q1) (m0_1 q0 q1)))] [(.int (f5 (m0_0 q0 q1) (m0_1 q0 q1))), (.int (f5 (m0_0 q0 q1) (m0_1 q0 q1)))])) _
      refine XS.icmpNo X12.here hx rfl (hb hby at_120) rfl (teq (rfl : (f5 (m0_0 q0 q1) (m0_1 q0 q1)) = (f5 (m0_0 q0 q1) (m0_1 q0 q1)))).2 ?_
      show Steps p.tables e below (T12.setTop (mkF m 123 #[.val (.long q0), .second, .val (.long q1), .second, .val (.long (q0 &&& (9223372036854775807 : Int64))), .second, .val (.long (q1 &&& (9223372036854775807 : Int64))), .second, .val (.long (m0_0 q0 q1)), .second, .val (.long (m0_1 q0 q1)), .second, .val (.ref b5), .val (.ref b7), .val (.int (f5 (m0_0 q0 q1) (m0_1 q0 q1))), .val (.int (f5 (m0_0 q0 q1) (m0_1 q0 q1))), .val (.int (f5 (m0_0 q0 q1) (m0_1 q0 q1)))] [])) _
      refine XS.iload X12.here hx rfl (hb hby at_123) rfl ?_
      show Steps p.tables e below (T12.setTop (mkF m 125 #[.val (.long q0), .second, .val (.long q1), .second, .val (.long (q0 &&& (9223372036854775807 : Int64))), .second, .val (.long (q1 &&& (9223372036854775807 : Int64))), .second, .val (.long (m0_0 q0 q1)), .second, .val (.long (m0_1 q0 q1)), .second, .val (.ref b5), .val (.ref b7), .val (.int (f5 (m0_0 q0 q1) (m0_1 q0 q1))), .val (.int (f5 (m0_0 q0 q1) (m0_1 q0 q1))), .val (.int (f5 (m0_0 q0 q1) (m0_1 q0 q1)))] [(.int (f5 (m0_0 q0 q1) (m0_1 q0 q1)))])) _
      refine XS.iload X12.here hx rfl (hb hby at_125) rfl ?_
      show Steps p.tables e below (T12.setTop (mkF m 127 #[.val (.long q0), .second, .val (.long q1), .second, .val (.long (q0 &&& (9223372036854775807 : Int64))), .second, .val (.long (q1 &&& (9223372036854775807 : Int64))), .second, .val (.long (m0_0 q0 q1)), .second, .val (.long (m0_1 q0 q1)), .second, .val (.ref b5), .val (.ref b7), .val (.int (f5 (m0_0 q0 q1) (m0_1 q0 q1))), .val (.int (f5 (m0_0 q0 q1) (m0_1 q0 q1))), .val (.int (f5 (m0_0 q0 q1) (m0_1 q0 q1)))] [(.int (f5 (m0_0 q0 q1) (m0_1 q0 q1))), (.int (f5 (m0_0 q0 q1) (m0_1 q0 q1)))])) _
      refine XS.icmpNo X12.here hx rfl (hb hby at_127) rfl (teq (rfl : (f5 (m0_0 q0 q1) (m0_1 q0 q1)) = (f5 (m0_0 q0 q1) (m0_1 q0 q1)))).2 ?_
      show Steps p.tables e below (T12.setTop (mkF m 130 #[.val (.long q0), .second, .val (.long q1), .second, .val (.long (q0 &&& (9223372036854775807 : Int64))), .second, .val (.long (q1 &&& (9223372036854775807 : Int64))), .second, .val (.long (m0_0 q0 q1)), .second, .val (.long (m0_1 q0 q1)), .second, .val (.ref b5), .val (.ref b7), .val (.int (f5 (m0_0 q0 q1) (m0_1 q0 q1))), .val (.int (f5 (m0_0 q0 q1) (m0_1 q0 q1))), .val (.int (f5 (m0_0 q0 q1) (m0_1 q0 q1)))] [])) _
      refine XS.iconst X12.here hx rfl (hb hby at_130) ?_
      show Steps p.tables e below (T12.setTop (mkF m 131 #[.val (.long q0), .second, .val (.long q1), .second, .val (.long (q0 &&& (9223372036854775807 : Int64))), .second, .val (.long (q1 &&& (9223372036854775807 : Int64))), .second, .val (.long (m0_0 q0 q1)), .second, .val (.long (m0_1 q0 q1)), .second, .val (.ref b5), .val (.ref b7), .val (.int (f5 (m0_0 q0 q1) (m0_1 q0 q1))), .val (.int (f5 (m0_0 q0 q1) (m0_1 q0 q1))), .val (.int (f5 (m0_0 q0 q1) (m0_1 q0 q1)))] [(.int (1 : Int32))])) _
      refine XS.goto X12.here hx rfl (pc0 := 131) (pc' := 135) rfl (hb hby at_131) (by decide) (by decide) ?_
      exact kt
    obtain ⟨fs, hr, hrun, hended, hW, hsame⟩ := X12.leave (v := some (.int (1 : Int32))) (fun h => by rw [Bd.returns] at h; cases h)
    refine ⟨_, _, ?_, hrun, hended, _, _, rfl, ?_, ⟨_, rfl⟩, hW, hsame.mono (by decide) (by decide)⟩
    · show Steps p.tables e below (T12.setTop (mkF m 135 #[.val (.long q0), .second, .val (.long q1), .second, .val (.long (q0 &&& (9223372036854775807 : Int64))), .second, .val (.long (q1 &&& (9223372036854775807 : Int64))), .second, .val (.long (m0_0 q0 q1)), .second, .val (.long (m0_1 q0 q1)), .second, .val (.ref b5), .val (.ref b7), .val (.int (f5 (m0_0 q0 q1) (m0_1 q0 q1))), .val (.int (f5 (m0_0 q0 q1) (m0_1 q0 q1))), .val (.int (f5 (m0_0 q0 q1) (m0_1 q0 q1)))] [(.int (1 : Int32))])) _
      exact retN X12 hx (t := .boolean) Bd.returns (by simp) (hb hby at_135) hr
    · show Q0 Z q0 q1 h0 n0 _ T12.heap _
      rw [e12]
      exact ⟨by rw [show f0 q0 q1 = (1 : Int32) from by unfold f0; rw [if_neg hc113_13]], N12⟩
theorem own_law (a b : Int64) : f0 a b = 1 := by
  have e : ∀ x y : Int64, f7 x y x y = 1 := fun x y => by unfold f7; rw [if_pos rfl, if_pos rfl]
  unfold f0
  rw [e]
  decide
set_option maxRecDepth 65536 in
set_option maxHeartbeats 40000000 in
theorem comes_1 {Post : Tables → Env → Array Value → State → Outcome → State → Prop} (hpost : ∀ tb e args s v u, (limb_1_1.after args s (.returned v) u = true ∧ limb_1_2.after args s (.returned v) u = true ∧ True) → FrameEnd s (.returned v) u (Jvm.fieldLocs frame_1_writes args s ++ Jvm.arrayLocs frame_1_arrays args s ++ Jvm.staticLocs frame_1_statics s) 16 128 → Post tb e args s (.returned v) u) :
    ArmFor flags0 classFile x code maxLocals ret World_1 tables_1 room_1 Calls_1 rest_1 Pre_1 Post := by
  intro l hfl _ _ p e ha hc hk s m args below hf hA hF happ hP
  obtain ⟨hcalls, hrest, hpre⟩ := hP
  obtain ⟨-, -, -, hnamed, -, -, -, hat⟩ := (Spec.applies_iff hf).mp happ
  obtain ⟨hg, hn⟩ := and_e (Cond.before_iff.mp (show (Jvm.Cond.and given_1 narrow_1).before args s = true from hpre))
  obtain ⟨gc, gr0⟩ := and_e hg
  obtain ⟨ga0, gr1⟩ := and_e gr0
  obtain ⟨w0, w1, rfl⟩ : ∃ w0 w1 : Value, args = #[w0, w1] := by
    have hs : args.size = 2 := by simpa [Cond.value, given_1] using gc
    obtain ⟨L⟩ := args
    match L, hs with
    | [w0, w1], _ => exact ⟨w0, w1, rfl⟩
  have hw := fun d (hd : d ∈ tables_1) => atoms_spec (ws := Jvm.Cond.code x code maxLocals ret :: tables_1) hat d (List.mem_cons_of_mem _ hd)
  have hfit : Fit s := fun {y c} hc i hi => by
    obtain ⟨ha, rfl⟩ := Array.getElem?_eq_some_iff.mp hc
    have q := List.all_eq_true.mp ((Array.all_eq_true_iff_forall_mem.mp hF) _ (Array.getElem_mem ha)) i (List.mem_range.mpr hi)
    simpa [Array.getElem?_eq_getElem hi] using q
  obtain ⟨i0, ei0⟩ := isL_v ga0
  obtain rfl : w0 = (.long i0) := Option.some.inj ei0
  obtain ⟨i1, ei1⟩ := isL_v gr1
  obtain rfl : w1 = (.long i1) := Option.some.inj ei1
  obtain ⟨n, o, h1, h2, h3, _, L, rfl, ⟨rfl, N⟩, hq⟩ := rm0 l s _ hw tables_1 i0 i1 s.heap s.heap.size (Nat.le_refl _)  p e ha hc hk s m _ below hf ((Spec.applies_iff_loose hf).mp happ).1 ⟨rfl, State.Warmed39.refl s, rfl⟩ trivial
  refine ⟨n, _, h1, h2, h3, hpost _ _ _ _ _ _ ⟨Cond.after_iff.mpr rfl, Cond.after_iff.mpr (eq_i res_at (Term.int_eval (1)) (congrArg Value.int (own_law i0 i1))), trivial⟩ ⟨hq.1, hq.2.1, (hq.2.2.sift fun y hy => Or.inr (N y hy)).mono (by decide) (by decide)⟩⟩
theorem main_1_1 : Claimed_1_1 := comes_1 fun _ _ _ _ _ _ h hF => ⟨h.1, hF⟩
theorem main_1_2 : Claimed_1_2 := comes_1 fun _ _ _ _ _ _ h hF => ⟨h.2.1, hF⟩
end Jvm.Pilot.@@N@@
namespace Jvm.Pilot.@@N@@
open Jvm Jvm.ClassFile Sem Op Lib Jvm.Free Jvm.Stand Jvm.Pilot.@@N@@.Jvm.D
/-! MADE BY PROGRAM (witnessworld.py) out of the Statement's table words and the real class files: 15 classes; the members and pool entries that the words name. The judged class is class 1, her method 1. -/
namespace start1
open Jvm.ClassFile
def u (s : String) : CpInfo := .utf8 (stringToUtf16 s)
/-- a pool by its gaps: so many unusable entries, then the entry; so many at the end -/
def gap : Nat → List CpInfo → List CpInfo
  | 0, r => r
  | n + 1, r => .unusable :: gap n r
def poolList (es : List (Nat × CpInfo)) (last : Nat) : List CpInfo := es.foldr (fun e r => gap e.1 (e.2 :: r)) (gap last [])
def pool (es : List (Nat × CpInfo)) (last : Nat) : Array CpInfo := ⟨poolList es last⟩
def fileOf (pool : Array CpInfo) (this : Nat) (attrs : Array Attribute := #[]) (ms : Array MethodInfo := #[]) (fl : Nat := 33) (sup : Nat := 0) (ifs : Array Nat := #[]) (fds : Array FieldInfo := #[]) : ClassFile where
  minorVersion := 0
  majorVersion := 65
  constantPool := pool
  accessFlags := fl
  thisClass := this
  superClass := sup
  interfaces := ifs
  fields := fds
  methods := ms
  attributes := attrs
def plain (name : String) (sup : Option ClassId) : Class where
  name := name
  kind := .ordinary
  loader := none
  accessFlags := 33
  super := sup
  interfaces := #[]
  cf := none
  fields := #[]
  methods := #[]
  instanceTypes := #[]
  staticTypes := #[]
  resolved := #[]
  callSites := []
  init := .initialized
  statics := none
  mirror := none

def pool0 : Array CpInfo := pool [(5, u "<init>"), (0, u "()V"), (1, .class_ 10), (1, u "java/lang/Object")] 113

def k0c0 : Code := { maxStack := 0, maxLocals := 1, code := object_method_1_code, exceptionTable := #[], attributes := #[] }
def k0m0 : Method := { name := "<init>", desc := "()V", sig := { parameters := [], returnType := none }, accessFlags := 1, code := some k0c0 }
/-- java/lang/Object -/
def k0 : Class := { plain "java/lang/Object" none with
  accessFlags := 33
  interfaces := #[]
  cf := some (fileOf pool0 8 #[] #[{ accessFlags := 1, nameIndex := 5, descriptorIndex := 6, attributes := #[] }] 33 0 #[] #[])
  fields := #[]
  methods := #[k0m0]
  instanceTypes := #[]
  staticTypes := #[]
  resolved := Array.replicate 124 none
  statics := none }

def pool1 : Array CpInfo := pool [(2, .class_ 4), (1, u "java/lang/Object"), (0, u "<init>"), (0, u "()V"), (2, .long 9223372036854775807), (1, .methodref 12 13), (0, .class_ 14), (0, .nameAndType 15 16), (0, u "java/lang/Math"), (0, u "min"), (0, u "(JJ)J"), (0, .methodref 12 18), (0, .nameAndType 19 16), (0, u "max"), (0, .class_ 21), (0, u "com/example/byteloom/byteloom/ByteRange"), (0, .methodref 20 23), (0, .nameAndType 5 24), (0, u "(JJ)V"), (0, .methodref 20 26), (0, .nameAndType 27 28), (0, u "hashCode"), (0, u "()I"), (0, .methodref 20 30), (0, .nameAndType 31 32), (0, u "equals"), (0, u "(Ljava/lang/Object;)Z"), (0, .class_ 34), (0, u "com/example/byteloom/byteloom/ByteRangeHashCodePinLaw"), (2, u "law"), (0, u "(JJ)Z")] 3

def k1m0 : Method := { name := "<init>", desc := "()V", sig := { parameters := [], returnType := none }, accessFlags := 2, code := none }
def k1c1 : Code := { maxStack := 6, maxLocals := 17, code := code, exceptionTable := #[], attributes := #[] }
def k1m1 : Method := { name := "law", desc := "(JJ)Z", sig := { parameters := [.long, .long], returnType := some .boolean }, accessFlags := 9, code := some k1c1 }
/-- com/example/byteloom/byteloom/ByteRangeHashCodePinLaw -/
def k1 : Class := { plain "com/example/byteloom/byteloom/ByteRangeHashCodePinLaw" (some 0) with
  accessFlags := 49
  interfaces := #[]
  cf := some (fileOf pool1 33 #[] #[{ accessFlags := 2, nameIndex := 5, descriptorIndex := 6, attributes := #[] }, { accessFlags := 9, nameIndex := 37, descriptorIndex := 38, attributes := #[] }] 49 2 #[] #[])
  fields := #[]
  methods := #[k1m0, k1m1]
  instanceTypes := #[]
  staticTypes := #[]
  resolved := Array.replicate 42 none
  statics := none }

def pool2 : Array CpInfo := pool [(1, .class_ 2), (0, u "java/lang/Math"), (1, .class_ 6), (1, u "java/lang/Object"), (0, u "<init>"), (0, u "()V"), (89, .class_ 100), (1, u "java/lang/Math$RandomNumberGeneratorHolder"), (20, u "(JJ)J"), (50, u "negativeZeroFloatBits"), (0, u "J"), (2, u "negativeZeroDoubleBits"), (21, u "max"), (2, u "min"), (43, u "$assertionsDisabled"), (0, u "Z"), (91, u "twoToTheDoubleScaleDown"), (0, u "D"), (4, u "twoToTheDoubleScaleUp"), (9, u "E"), (3, u "PI"), (2, u "TAU"), (2, u "DEGREES_TO_RADIANS"), (0, u "RADIANS_TO_DEGREES")] 94

def k2m0 : Method := { name := "<init>", desc := "()V", sig := { parameters := [], returnType := none }, accessFlags := 2, code := none }
def k2c1 : Code := { maxStack := 4, maxLocals := 4, code := jdk_29_method_66_code, exceptionTable := #[], attributes := #[] }
def k2m1 : Method := { name := "max", desc := "(JJ)J", sig := { parameters := [.long, .long], returnType := some .long }, accessFlags := 9, code := some k2c1 }
def k2c2 : Code := { maxStack := 4, maxLocals := 4, code := jdk_29_method_70_code, exceptionTable := #[], attributes := #[] }
def k2m2 : Method := { name := "min", desc := "(JJ)J", sig := { parameters := [.long, .long], returnType := some .long }, accessFlags := 9, code := some k2c2 }
/-- java/lang/Math -/
def k2 : Class := { plain "java/lang/Math" (some 0) with
  accessFlags := 49
  interfaces := #[]
  cf := some (fileOf pool2 1 #[.nestMembers #[98]] #[{ accessFlags := 2, nameIndex := 7, descriptorIndex := 8, attributes := #[] }, { accessFlags := 9, nameIndex := 198, descriptorIndex := 121, attributes := #[] }, { accessFlags := 9, nameIndex := 201, descriptorIndex := 121, attributes := #[] }] 49 4 #[] #[{ accessFlags := 25, nameIndex := 354, descriptorIndex := 339, attributes := #[] }, { accessFlags := 25, nameIndex := 358, descriptorIndex := 339, attributes := #[] }, { accessFlags := 25, nameIndex := 361, descriptorIndex := 339, attributes := #[] }, { accessFlags := 26, nameIndex := 364, descriptorIndex := 339, attributes := #[] }, { accessFlags := 26, nameIndex := 365, descriptorIndex := 339, attributes := #[] }, { accessFlags := 26, nameIndex := 172, descriptorIndex := 173, attributes := #[] }, { accessFlags := 26, nameIndex := 176, descriptorIndex := 173, attributes := #[] }, { accessFlags := 8, nameIndex := 344, descriptorIndex := 339, attributes := #[] }, { accessFlags := 8, nameIndex := 338, descriptorIndex := 339, attributes := #[] }, { accessFlags := 4120, nameIndex := 245, descriptorIndex := 246, attributes := #[] }])
  fields := #[{ name := "E", type := .double, accessFlags := 25, slot := 0, constantValue := 0 }, { name := "PI", type := .double, accessFlags := 25, slot := 1, constantValue := 0 }, { name := "TAU", type := .double, accessFlags := 25, slot := 2, constantValue := 0 }, { name := "DEGREES_TO_RADIANS", type := .double, accessFlags := 26, slot := 3, constantValue := 0 }, { name := "RADIANS_TO_DEGREES", type := .double, accessFlags := 26, slot := 4, constantValue := 0 }, { name := "negativeZeroFloatBits", type := .long, accessFlags := 26, slot := 5, constantValue := 0 }, { name := "negativeZeroDoubleBits", type := .long, accessFlags := 26, slot := 6, constantValue := 0 }, { name := "twoToTheDoubleScaleUp", type := .double, accessFlags := 8, slot := 7, constantValue := 0 }, { name := "twoToTheDoubleScaleDown", type := .double, accessFlags := 8, slot := 8, constantValue := 0 }, { name := "$assertionsDisabled", type := .boolean, accessFlags := 4120, slot := 9, constantValue := 0 }]
  methods := #[k2m0, k2m1, k2m2]
  instanceTypes := #[]
  staticTypes := #[.double, .double, .double, .double, .double, .long, .long, .double, .double, .boolean]
  resolved := Array.replicate 460 none
  statics := none }

def pool3 : Array CpInfo := pool [(1, .methodref 2 3), (0, .class_ 4), (0, .nameAndType 5 6), (0, u "java/lang/Object"), (0, u "<init>"), (0, u "()V"), (9, .fieldref 17 18), (0, .class_ 19), (0, .nameAndType 20 21), (0, u "com/example/byteloom/byteloom/ByteRange"), (0, u "from"), (0, u "J"), (0, .fieldref 17 23), (0, .nameAndType 24 21), (0, u "to"), (0, .methodref 26 27), (0, .class_ 28), (0, .nameAndType 29 30), (0, u "java/lang/Long"), (0, u "hashCode"), (0, u "(J)I"), (1, u "(JJ)V"), (5, u "equals"), (0, u "(Ljava/lang/Object;)Z"), (0, u "()I")] 21

def k3c0 : Code := { maxStack := 6, maxLocals := 5, code := prog_3_method_1_code, exceptionTable := #[], attributes := #[] }
def k3m0 : Method := { name := "<init>", desc := "(JJ)V", sig := { parameters := [.long, .long], returnType := none }, accessFlags := 1, code := some k3c0 }
def k3c1 : Code := { maxStack := 4, maxLocals := 2, code := prog_3_method_5_code, exceptionTable := #[], attributes := #[] }
def k3m1 : Method := { name := "equals", desc := "(Ljava/lang/Object;)Z", sig := { parameters := [(.object "java/lang/Object")], returnType := some .boolean }, accessFlags := 1, code := some k3c1 }
def k3c2 : Code := { maxStack := 3, maxLocals := 1, code := prog_3_method_6_code, exceptionTable := #[], attributes := #[] }
def k3m2 : Method := { name := "hashCode", desc := "()I", sig := { parameters := [], returnType := some .int }, accessFlags := 1, code := some k3c2 }
/-- com/example/byteloom/byteloom/ByteRange -/
def k3 : Class := { plain "com/example/byteloom/byteloom/ByteRange" (some 0) with
  accessFlags := 49
  interfaces := #[]
  cf := some (fileOf pool3 17 #[] #[{ accessFlags := 1, nameIndex := 5, descriptorIndex := 32, attributes := #[] }, { accessFlags := 1, nameIndex := 38, descriptorIndex := 39, attributes := #[] }, { accessFlags := 1, nameIndex := 29, descriptorIndex := 40, attributes := #[] }] 49 2 #[] #[{ accessFlags := 18, nameIndex := 20, descriptorIndex := 21, attributes := #[] }, { accessFlags := 18, nameIndex := 24, descriptorIndex := 21, attributes := #[] }])
  fields := #[{ name := "from", type := .long, accessFlags := 18, slot := 0, constantValue := 0 }, { name := "to", type := .long, accessFlags := 18, slot := 1, constantValue := 0 }]
  methods := #[k3m0, k3m1, k3m2]
  instanceTypes := #[.long, .long]
  staticTypes := #[]
  resolved := Array.replicate 62 none
  statics := none }

def pool4 : Array CpInfo := pool [(1, .class_ 2), (0, u "java/io/Serializable"), (0, .class_ 4), (0, u "java/lang/Object")] 2

/-- java/io/Serializable -/
def k4 : Class := { plain "java/io/Serializable" (some 0) with
  accessFlags := 1537
  interfaces := #[]
  cf := some (fileOf pool4 1 #[] #[] 1537 3 #[] #[])
  fields := #[]
  methods := #[]
  instanceTypes := #[]
  staticTypes := #[]
  resolved := Array.replicate 7 none
  statics := none }

def pool5 : Array CpInfo := pool [(2, .class_ 4), (1, u "java/lang/Object"), (0, u "<init>"), (0, u "()V"), (1, .class_ 10), (1, u "java/lang/Number"), (2, .class_ 14), (0, u "java/io/Serializable"), (0, u "serialVersionUID"), (0, u "J")] 20

def k5m0 : Method := { name := "<init>", desc := "()V", sig := { parameters := [], returnType := none }, accessFlags := 1, code := none }
/-- java/lang/Number -/
def k5 : Class := { plain "java/lang/Number" (some 0) with
  accessFlags := 1057
  interfaces := #[4]
  cf := some (fileOf pool5 8 #[] #[{ accessFlags := 1, nameIndex := 5, descriptorIndex := 6, attributes := #[] }] 1057 2 #[13] #[{ accessFlags := 26, nameIndex := 15, descriptorIndex := 16, attributes := #[] }])
  fields := #[{ name := "serialVersionUID", type := .long, accessFlags := 26, slot := 0, constantValue := 0 }]
  methods := #[k5m0]
  instanceTypes := #[]
  staticTypes := #[.long]
  resolved := Array.replicate 37 none
  statics := none }

def pool6 : Array CpInfo := pool [(1, .class_ 2), (0, u "java/lang/Comparable"), (0, .class_ 4), (0, u "java/lang/Object")] 7

/-- java/lang/Comparable -/
def k6 : Class := { plain "java/lang/Comparable" (some 0) with
  accessFlags := 1537
  interfaces := #[]
  cf := some (fileOf pool6 1 #[] #[] 1537 3 #[] #[])
  fields := #[]
  methods := #[]
  instanceTypes := #[]
  staticTypes := #[]
  resolved := Array.replicate 12 none
  statics := none }

def pool7 : Array CpInfo := pool [(1, .class_ 2), (0, u "java/lang/constant/Constable"), (0, .class_ 4), (0, u "java/lang/Object")] 6

/-- java/lang/constant/Constable -/
def k7 : Class := { plain "java/lang/constant/Constable" (some 0) with
  accessFlags := 1537
  interfaces := #[]
  cf := some (fileOf pool7 1 #[] #[] 1537 3 #[] #[])
  fields := #[]
  methods := #[]
  instanceTypes := #[]
  staticTypes := #[]
  resolved := Array.replicate 11 none
  statics := none }

def pool8 : Array CpInfo := pool [(1, .class_ 2), (0, u "java/lang/constant/ConstantDesc"), (0, .class_ 4), (0, u "java/lang/Object")] 32

/-- java/lang/constant/ConstantDesc -/
def k8 : Class := { plain "java/lang/constant/ConstantDesc" (some 0) with
  accessFlags := 1537
  interfaces := #[]
  cf := some (fileOf pool8 1 #[] #[] 1537 3 #[] #[])
  fields := #[]
  methods := #[]
  instanceTypes := #[]
  staticTypes := #[]
  resolved := Array.replicate 37 none
  statics := none }

def pool9 : Array CpInfo := pool [(1, .class_ 2), (0, u "java/lang/Long"), (98, u "(J)I"), (133, .class_ 237), (1, u "java/lang/Long$LongCache"), (33, .class_ 272), (0, u "java/lang/Number"), (2, u "value"), (0, u "J"), (2, u "hashCode"), (81, u "TYPE"), (0, u "Ljava/lang/Class;"), (0, .class_ 364), (0, u "java/lang/Comparable"), (0, .class_ 366), (0, u "java/lang/constant/Constable"), (0, .class_ 368), (0, u "java/lang/constant/ConstantDesc"), (0, u "MIN_VALUE"), (1, u "MAX_VALUE"), (4, u "SIZE"), (0, u "I"), (1, u "BYTES"), (1, u "serialVersionUID")] 142

def k9c0 : Code := { maxStack := 5, maxLocals := 2, code := jdk_35_method_36_code, exceptionTable := #[], attributes := #[] }
def k9m0 : Method := { name := "hashCode", desc := "(J)I", sig := { parameters := [.long], returnType := some .int }, accessFlags := 9, code := some k9c0 }
/-- java/lang/Long -/
def k9 : Class := { plain "java/lang/Long" (some 5) with
  accessFlags := 49
  interfaces := #[6, 7, 8]
  cf := some (fileOf pool9 1 #[.nestMembers #[235]] #[{ accessFlags := 9, nameIndex := 279, descriptorIndex := 101, attributes := #[] }] 49 271 #[363, 365, 367] #[{ accessFlags := 25, nameIndex := 369, descriptorIndex := 276, attributes := #[] }, { accessFlags := 25, nameIndex := 371, descriptorIndex := 276, attributes := #[] }, { accessFlags := 25, nameIndex := 361, descriptorIndex := 362, attributes := #[] }, { accessFlags := 18, nameIndex := 275, descriptorIndex := 276, attributes := #[] }, { accessFlags := 25, nameIndex := 376, descriptorIndex := 377, attributes := #[] }, { accessFlags := 25, nameIndex := 379, descriptorIndex := 377, attributes := #[] }, { accessFlags := 26, nameIndex := 381, descriptorIndex := 276, attributes := #[] }])
  fields := #[{ name := "MIN_VALUE", type := .long, accessFlags := 25, slot := 0, constantValue := 0 }, { name := "MAX_VALUE", type := .long, accessFlags := 25, slot := 1, constantValue := 0 }, { name := "TYPE", type := (.object "java/lang/Class"), accessFlags := 25, slot := 2, constantValue := 0 }, { name := "value", type := .long, accessFlags := 18, slot := 0, constantValue := 0 }, { name := "SIZE", type := .int, accessFlags := 25, slot := 3, constantValue := 0 }, { name := "BYTES", type := .int, accessFlags := 25, slot := 4, constantValue := 0 }, { name := "serialVersionUID", type := .long, accessFlags := 26, slot := 5, constantValue := 0 }]
  methods := #[k9m0]
  instanceTypes := #[.long]
  staticTypes := #[.long, .long, (.object "java/lang/Class"), .int, .int, .long]
  resolved := Array.replicate 524 none
  statics := none }

def pool10 : Array CpInfo := pool [(1, u "java/lang/Cloneable"), (0, .class_ 1), (0, u "java/lang/Object"), (0, .class_ 3)] 3

/-- java/lang/Cloneable -/
def k10 : Class := { plain "java/lang/Cloneable" (some 0) with
  accessFlags := 1537
  interfaces := #[]
  cf := some (fileOf pool10 2 #[] #[] 1537 4 #[] #[])
  fields := #[]
  methods := #[]
  instanceTypes := #[]
  staticTypes := #[]
  resolved := Array.replicate 8 none
  statics := none }

/-- the primitive byte -/
def k11 : Class := { plain "byte" none with kind := .primitive 'B', accessFlags := 0x411 }
/-- [B -/
def k12 : Class := { plain "[B" (some 0) with kind := .array 11 .byte, interfaces := #[10, 4], accessFlags := 1041 }

/-- the primitive int -/
def k13 : Class := { plain "int" none with kind := .primitive 'I', accessFlags := 0x411 }
/-- [I -/
def k14 : Class := { plain "[I" (some 0) with kind := .array 13 .int, interfaces := #[10, 4], accessFlags := 1041 }

def heap : Heap := #[]
def classes : Array Class := #[k0, k1, k2, k3, k4, k5, k6, k7, k8, k9, k10, k11, k12, k13, k14]
def interned : List (Array UInt16 × Addr) := []
def slotsUsed : Nat := 0
def theMethod : MethodId := ⟨1, 1⟩
def args0 : Array Value := #[.long 10, .long 5]
def aboutOver (below : List Frame) : State where
  vm := { classes := classes, interned := interned.toArray }
  heap := heap
  slotsUsed := slotsUsed
  threads := #[{ frames := .invoking theMethod args0 :: below }]
def below0 : List Frame := [.native { method := ⟨0, 0⟩, args := #[] }]
def about1 : State := aboutOver below0
def p0 : Program := .bare "" "" ""
def e0 : Env := launch0.env 0 0 0
theorem w_frames : about1.frames = Frame.invoking theMethod args0 :: below0 := rfl
set_option maxRecDepth 65536 in
theorem w_args : argsFit about1.vm theMethod args0 = true := by decide +kernel
set_option maxRecDepth 65536 in
theorem w_heap : heapFits about1 = true := by decide +kernel
set_option maxRecDepth 65536 in
theorem w_runnable : about1.curStatus? = some .runnable := by decide +kernel
set_option maxRecDepth 65536 in
theorem w_alone : about1.alone = true := by decide +kernel
set_option maxRecDepth 65536 in
theorem w_named : about1.methodNamed? x = some theMethod := by decide +kernel
set_option maxRecDepth 65536 in
theorem w_hears : about1.hears theMethod below0 = true := by decide +kernel
set_option maxRecDepth 65536 in
theorem w_ripe : about1.ripe theMethod args0 below0 = true := by decide +kernel
theorem w_running : about1.status = .running := rfl
set_option maxRecDepth 65536 in
theorem w_room : about1.hasRoom e0.platform room_1 = true :=
  launch0.hasRoom_least _ room_1 (by decide +kernel) (by decide +kernel) (by decide +kernel) (by decide +kernel) (by decide +kernel) (by decide +kernel)
theorem allAtoms_all (ts : List Jvm.Cond) (a : Array Jvm.Value) (st : Jvm.State) : (allAtoms ts).before a st = ts.all (fun c => c.before a st) := by
  induction ts with
  | nil => rfl
  | cons c t ih =>
    show (Jvm.Cond.and c (allAtoms t)).before a st = _
    rw [Jvm.Cond.before_and, ih, List.all_cons]
def words1 : List Jvm.Cond := Jvm.Cond.code x code maxLocals ret :: tables_1
/-- a 'code' word, met by the world's own term for the bytes: nothing is compared byte by byte -/
theorem code_word {y : MethodName} {bytes : ByteArray} {mx : Nat} {rt : Option FieldType} {a : Array Value} {s : State} {m : MethodId} {meth : Method} {c : Code} (h1 : s.methodNamed? y = some m) (h2 : s.vm.method? m = some meth) (h3 : meth.code = some c) (h4 : c.code = bytes)
    (h5 : (c.maxLocals == mx && c.exceptionTable.isEmpty && decide (c.maxStack ≤ mostOperands) && decide (meth.sig.returnType = rt) && !meth.locks && decide (parseMethodDescriptor y.desc = some meth.sig)) = true) : (Jvm.Cond.code y bytes mx rt).before a s = true := by
  simp only [Bool.and_eq_true, beq_iff_eq, Bool.not_eq_true', decide_eq_true_eq] at h5
  obtain ⟨⟨⟨⟨⟨g1, g2⟩, g3⟩, g4⟩, g5⟩, g6⟩ := h5
  simp [Cond.before, Cond.holds, Cond.value, h1, h2, h3, h4, g1, g2, g3, g4, g5, g6]
def isCode : Jvm.Cond → Bool
  | .code _ _ _ _ => true
  | _ => false
theorem all_split {L : List Jvm.Cond} {P : Jvm.Cond → Bool} (h1 : L.all (fun c => isCode c || P c) = true) (h2 : ∀ c ∈ L.filter isCode, P c = true) : L.all P = true := by
  refine List.all_eq_true.mpr fun c hc => ?_
  have h := List.all_eq_true.mp h1 c hc
  rcases Bool.eq_false_or_eq_true (isCode c) with hi | hi
  · exact h2 c (List.mem_filter.mpr ⟨hc, hi⟩)
  · simpa [hi] using h
set_option maxRecDepth 65536 in
theorem w_c0 : (Jvm.Cond.code x code maxLocals ret).before args0 about1 = true := code_word (m := ⟨1, 1⟩) (meth := k1m1) (c := k1c1) (by decide +kernel) rfl rfl rfl (by decide +kernel)
set_option maxRecDepth 65536 in
theorem w_c1 : (Jvm.Cond.code ({ cls := "java/lang/Math", name := "min", desc := "(JJ)J" } : Jvm.MethodName) jdk_29_method_70_code (4 : Nat) (Option.some Jvm.ClassFile.FieldType.long)).before args0 about1 = true := code_word (m := ⟨2, 2⟩) (meth := k2m2) (c := k2c2) (by decide +kernel) rfl rfl rfl (by decide +kernel)
set_option maxRecDepth 65536 in
theorem w_c2 : (Jvm.Cond.code ({ cls := "java/lang/Math", name := "max", desc := "(JJ)J" } : Jvm.MethodName) jdk_29_method_66_code (4 : Nat) (Option.some Jvm.ClassFile.FieldType.long)).before args0 about1 = true := code_word (m := ⟨2, 1⟩) (meth := k2m1) (c := k2c1) (by decide +kernel) rfl rfl rfl (by decide +kernel)
set_option maxRecDepth 65536 in
theorem w_c3 : (Jvm.Cond.code ({ cls := "com/example/byteloom/byteloom/ByteRange", name := "<init>", desc := "(JJ)V" } : Jvm.MethodName) prog_3_method_1_code (5 : Nat) (Option.none : Option Jvm.ClassFile.FieldType)).before args0 about1 = true := code_word (m := ⟨3, 0⟩) (meth := k3m0) (c := k3c0) (by decide +kernel) rfl rfl rfl (by decide +kernel)
set_option maxRecDepth 65536 in
theorem w_c4 : (Jvm.Cond.code ({ cls := "java/lang/Object", name := "<init>", desc := "()V" } : Jvm.MethodName) object_method_1_code (1 : Nat) (Option.none : Option Jvm.ClassFile.FieldType)).before args0 about1 = true := code_word (m := ⟨0, 0⟩) (meth := k0m0) (c := k0c0) (by decide +kernel) rfl rfl rfl (by decide +kernel)
set_option maxRecDepth 65536 in
theorem w_c5 : (Jvm.Cond.code ({ cls := "com/example/byteloom/byteloom/ByteRange", name := "hashCode", desc := "()I" } : Jvm.MethodName) prog_3_method_6_code (1 : Nat) (Option.some Jvm.ClassFile.FieldType.int)).before args0 about1 = true := code_word (m := ⟨3, 2⟩) (meth := k3m2) (c := k3c2) (by decide +kernel) rfl rfl rfl (by decide +kernel)
set_option maxRecDepth 65536 in
theorem w_c6 : (Jvm.Cond.code ({ cls := "java/lang/Long", name := "hashCode", desc := "(J)I" } : Jvm.MethodName) jdk_35_method_36_code (2 : Nat) (Option.some Jvm.ClassFile.FieldType.int)).before args0 about1 = true := code_word (m := ⟨9, 0⟩) (meth := k9m0) (c := k9c0) (by decide +kernel) rfl rfl rfl (by decide +kernel)
set_option maxRecDepth 65536 in
theorem w_c7 : (Jvm.Cond.code ({ cls := "com/example/byteloom/byteloom/ByteRange", name := "equals", desc := "(Ljava/lang/Object;)Z" } : Jvm.MethodName) prog_3_method_5_code (2 : Nat) (Option.some Jvm.ClassFile.FieldType.boolean)).before args0 about1 = true := code_word (m := ⟨3, 1⟩) (meth := k3m1) (c := k3c1) (by decide +kernel) rfl rfl rfl (by decide +kernel)
def codes1 : List Jvm.Cond := [Jvm.Cond.code x code maxLocals ret, Jvm.Cond.code ({ cls := "java/lang/Math", name := "min", desc := "(JJ)J" } : Jvm.MethodName) jdk_29_method_70_code (4 : Nat) (Option.some Jvm.ClassFile.FieldType.long), Jvm.Cond.code ({ cls := "java/lang/Math", name := "max", desc := "(JJ)J" } : Jvm.MethodName) jdk_29_method_66_code (4 : Nat) (Option.some Jvm.ClassFile.FieldType.long), Jvm.Cond.code ({ cls := "com/example/byteloom/byteloom/ByteRange", name := "<init>", desc := "(JJ)V" } : Jvm.MethodName) prog_3_method_1_code (5 : Nat) (Option.none : Option Jvm.ClassFile.FieldType), Jvm.Cond.code ({ cls := "java/lang/Object", name := "<init>", desc := "()V" } : Jvm.MethodName) object_method_1_code (1 : Nat) (Option.none : Option Jvm.ClassFile.FieldType), Jvm.Cond.code ({ cls := "com/example/byteloom/byteloom/ByteRange", name := "hashCode", desc := "()I" } : Jvm.MethodName) prog_3_method_6_code (1 : Nat) (Option.some Jvm.ClassFile.FieldType.int), Jvm.Cond.code ({ cls := "java/lang/Long", name := "hashCode", desc := "(J)I" } : Jvm.MethodName) jdk_35_method_36_code (2 : Nat) (Option.some Jvm.ClassFile.FieldType.int), Jvm.Cond.code ({ cls := "com/example/byteloom/byteloom/ByteRange", name := "equals", desc := "(Ljava/lang/Object;)Z" } : Jvm.MethodName) prog_3_method_5_code (2 : Nat) (Option.some Jvm.ClassFile.FieldType.boolean)]
set_option maxRecDepth 65536 in
theorem codes_eq : words1.filter isCode = codes1 := rfl
theorem w_codes : ∀ c ∈ words1.filter isCode, c.before args0 about1 = true := by
  rw [codes_eq]
  intro c hc
  simp only [codes1, List.mem_cons, List.not_mem_nil, or_false] at hc
  rcases hc with rfl | rfl | rfl | rfl | rfl | rfl | rfl | rfl
  · exact w_c0
  · exact w_c1
  · exact w_c2
  · exact w_c3
  · exact w_c4
  · exact w_c5
  · exact w_c6
  · exact w_c7
set_option maxRecDepth 65536 in
theorem w_t1 : (words1.take 24).all (fun c => isCode c || c.before args0 about1) = true := by decide +kernel
set_option maxRecDepth 65536 in
theorem w_t2 : (words1.drop 24).all (fun c => isCode c || c.before args0 about1) = true := by decide +kernel
theorem w_tables : (allAtoms (Jvm.Cond.code x code maxLocals ret :: tables_1)).before args0 about1 = true := by
  rw [allAtoms_all]
  show words1.all (fun c => c.before args0 about1) = true
  refine all_split ?_ w_codes
  rw [← List.take_append_drop 24 words1, List.all_append, w_t1, w_t2]
  rfl
set_option maxRecDepth 65536 in
theorem w_case : (Jvm.Cond.and given_1 narrow_1).before args0 about1 = true := by decide +kernel
theorem w_applies : (headSpec (Jvm.Cond.code x code maxLocals ret :: tables_1) room_1).applies x e0.platform about1 = true :=
  (Spec.applies_iff w_frames).mpr ⟨w_running, w_runnable, w_alone, w_named, w_hears, w_ripe, w_room, w_tables⟩
theorem atStart : AtStart classFile x code maxLocals ret World_1 tables_1 room_1 Calls_1 rest_1 Pre_1 launch0 p0 e0 about1 theMethod args0 below0 :=
  ⟨lists_1, trivial, launch0.admits_env _ _ _, launch0.least_env, fairChoices_fair.cas, fairChoices_fair.clock, w_frames, w_args, w_heap, w_applies, trivial, trivial, w_case⟩
end start1
theorem witness_1 : WitnessClaimed_1 := ⟨start1.p0, start1.e0, start1.about1, start1.theMethod, start1.args0, start1.below0, start1.atStart⟩
end Jvm.Pilot.@@N@@
