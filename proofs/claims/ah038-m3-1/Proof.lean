import JvmDerived
import JvmDerived.Pilot.@@N@@Statement
import JvmDerived.Pilot.@@N@@Code
set_option linter.unusedVariables false
set_option linter.unusedSimpArgs false

namespace Jvm.RoadKit
open Sem ClassFile Op Lib Jvm.Stand Jvm.Free Jvm.LawKit
section New
variable {p : Program} {l : Launch} {e : Env} {R : Room} {s : State} {m : MethodId} {args : Array Value} {below : List Frame} {meth : Method} {c : Code} {T : State} {locs : List Loc} {cells slots : Nat}
theorem retI (X : Stand p l e R s m args below meth c T locs cells slots) (hx : p.tables.exec = Jvm.exec) {pc : Nat} {Ls : Array Slot} {z : Int32} {rest : List Value} (hret : meth.sig.returnType = some .int) (hd : decode c.code pc = .ok (.ireturn, 1)) {fs : List Frame}
    (hl : ∀ (f : JFrame) (acts : List Action), f.method = m → f.locked = none → f.entered = [] → (doReturn e (T.setTop f) acts (some (.int z))).1 = T.setFrames fs) : Steps p.tables e below (T.setTop (mkF m pc Ls (.int z :: rest))) (T.setFrames fs) :=
  retOut X hx hret rfl (Or.inl ⟨rfl, Or.inl rfl, z, rfl⟩) hd hl
theorem own_retL (X : Stand p l e R s m args below meth c T locs cells slots) (hx : p.tables.exec = Jvm.exec) {pc : Nat} {Ls : Array Slot} {z : Int64} {rest : List Value} (hret : meth.sig.returnType = some .long) (hd : decode c.code pc = .ok (.lreturn, 1)) {fs : List Frame}
    (hl : ∀ (f : JFrame) (acts : List Action), f.method = m → f.locked = none → f.entered = [] → (doReturn e (T.setTop f) acts (some (.long z))).1 = T.setFrames fs) : Steps p.tables e below (T.setTop (mkF m pc Ls (.long z :: rest))) (T.setFrames fs) :=
  retOut X hx hret rfl (Or.inr (Or.inl ⟨rfl, rfl, z, rfl⟩)) hd hl
theorem own_retA (X : Stand p l e R s m args below meth c T locs cells slots) (hx : p.tables.exec = Jvm.exec) {pc : Nat} {Ls : Array Slot} {w : Value} {t : FieldType} {rest : List Value} (hret : meth.sig.returnType = some t) (ht : t.isReference = true) (hw : w.isRef = true) (hd : decode c.code pc = .ok (.areturn, 1)) {fs : List Frame}
    (hl : ∀ (f : JFrame) (acts : List Action), f.method = m → f.locked = none → f.entered = [] → (doReturn e (T.setTop f) acts (some w)).1 = T.setFrames fs) : Steps p.tables e below (T.setTop (mkF m pc Ls (w :: rest))) (T.setFrames fs) :=
  retOut X hx hret (by cases t <;> first | (cases ht; done) | (cases w <;> first | rfl | cases hw)) (Or.inr (Or.inr (Or.inr (Or.inr ⟨rfl, ht, hw⟩)))) hd hl
theorem own_back {tb : Tables} {e : Env} {below : List Frame} {a b : State} {P : State → Outcome → Prop} (h : ∀ t, Steps tb e below b t → Steps tb e below a t) (k : ∃ t o, Steps tb e below b t ∧ P t o) : ∃ t o, Steps tb e below a t ∧ P t o := by
  obtain ⟨t, o, k1, k2⟩ := k
  exact ⟨t, o, h t k1, k2⟩
theorem own_sta_keep {Z : State} {h h' : Heap} {C n d : String} {v : Value} (F : Sta Z h C n d v) (K : Keep h h' []) : Sta Z h' C n d v := by
  obtain ⟨cf, i, k, f, st, cell, h1, h2, h3, h4, h5, r⟩ := F
  exact ⟨cf, i, k, f, st, cell, h1, h2, h3, h4, K.2.1 _ _ h5 nin0, r⟩
def ElA (Z : State) (h : Heap) (a : Addr) (ty : FieldType) (j : Int32) (v : Value) : Prop := ∃ c : Cell, Arr Z h a c ty ∧ ¬ (j < 0 ∨ c.slots.size ≤ j.toNatClampNeg) ∧ c.slots[j.toNatClampNeg]? = some v
theorem ElA.lt {Z : State} {h : Heap} {a : Addr} {ty : FieldType} {j : Int32} {v : Value} (F : ElA Z h a ty j v) : a < h.size := by obtain ⟨c, A, -⟩ := F; exact A.lt
theorem ElA.ext {Z : State} {h h' : Heap} {a : Addr} {ty : FieldType} {j : Int32} {v : Value} (F : ElA Z h a ty j v) (E : Ext h h') : ElA Z h' a ty j v := by obtain ⟨c, A, r⟩ := F; exact ⟨c, A.ext E, r⟩
theorem ElA.other {Z : State} {h h' : Heap} {a b : Addr} {ty : FieldType} {j : Int32} {v w : Value} {sl : Nat} (F : ElA Z h b ty j v) (W : Wr h h' a sl w) (q : b ≠ a) : ElA Z h' b ty j v := by obtain ⟨c, A, r⟩ := F; exact ⟨c, A.other W q, r⟩
theorem ElA.keep {Z : State} {h h' : Heap} {a : Addr} {ty : FieldType} {j : Int32} {v : Value} {ws : List Addr} (F : ElA Z h a ty j v) (K : Keep h h' ws) (q : a ∉ ws) : ElA Z h' a ty j v := by obtain ⟨c, A, r⟩ := F; exact ⟨c, ⟨K.2.1 a c A.1 q, A.2⟩, r⟩
theorem ElA.store {Z : State} {h h' : Heap} {a : Addr} {ty : FieldType} {j : Int32} {v : Value} {c : Cell} (A : Arr Z h a c ty) (hj : ¬ (j < 0 ∨ c.slots.size ≤ j.toNatClampNeg)) (W : Wr h h' a j.toNatClampNeg v) : ElA Z h' a ty j v :=
  ⟨_, A.same W, by rw [sz_set]; exact hj, get_hit hj rfl⟩
theorem own_irr (x : Int32) : ¬ x < x := by rw [Int32.lt_iff_toInt_lt]; omega
theorem own_irrL (x : Int64) : ¬ x < x := by rw [Int64.lt_iff_toInt_lt]; omega
end New
end Jvm.RoadKit
namespace Jvm.Pilot.@@N@@
open Jvm Jvm.ClassFile Sem Op Lib Jvm.Free Jvm.Stand Jvm.LawKit Jvm.RoadKit Bundle Jvm.Pilot.@@N@@.Jvm.D

theorem d1_0 : decode prog_25_method_3_code 0 = .ok (.iload_n 0, 1) := by decide +kernel
theorem d1_1 : decode prog_25_method_3_code 1 = .ok (.ifCond .lt 9, 3) := by decide +kernel
theorem d1_4 : decode prog_25_method_3_code 4 = .ok (.iload_n 0, 1) := by decide +kernel
theorem d1_5 : decode prog_25_method_3_code 5 = .ok (.ldc 76, 2) := by decide +kernel
theorem d1_7 : decode prog_25_method_3_code 7 = .ok (.if_icmp .le 7, 3) := by decide +kernel
theorem d1_10 : decode prog_25_method_3_code 10 = .ok (.iconst (-1), 1) := by decide +kernel
theorem d1_11 : decode prog_25_method_3_code 11 = .ok (.goto 7, 3) := by decide +kernel
theorem d1_14 : decode prog_25_method_3_code 14 = .ok (.bipush 12, 2) := by decide +kernel
theorem d1_16 : decode prog_25_method_3_code 16 = .ok (.iload_n 0, 1) := by decide +kernel
theorem d1_17 : decode prog_25_method_3_code 17 = .ok (.iadd, 1) := by decide +kernel
theorem d1_18 : decode prog_25_method_3_code 18 = .ok (.ireturn, 1) := by decide +kernel
theorem pn_1 : plainName "com/example/keptlog/keptlog/log/RecordBatch" = true := by first | (simp [plainName, overriddenIn]; done) | decide +kernel
theorem ef_1 (m : MethodId) (x0 : Int32) : entryFrame m #[(.int x0)] 1 = mkF m 0 #[.val (.int x0)] [] := by first | (simp [entryFrame, mkF, argsToLocals, Value.category]; done) | rfl
def f1 (p0 : Int32) : Int32 := (if p0 < (0 : Int32) then (-1 : Int32) else (if (2147483635 : Int32) < p0 then (-1 : Int32) else ((12 : Int32) + p0)))
def Q1 (Z : State) (p0 : Int32) (h0 : Heap) (n0 : Nat) (v : Option Value) (h : Heap) (L : List Loc) : Prop := v = some (.int (f1 p0)) ∧ Fr n0 L ∧ h = h0
set_option maxRecDepth 65536 in
set_option maxHeartbeats 40000000 in
theorem rm1 (l : Launch) (Z : State) (a0 : Array Value) (hw : ∀ d ∈ tables_1, d.before a0 Z = true) (ws : List Jvm.Cond) (p0 : Int32) (h0 : Heap) (n0 : Nat) (Z0 : n0 ≤ h0.size) :
    MetFree l (⟨"com/example/keptlog/keptlog/log/RecordBatch", "wholeSize", "(I)I"⟩ : MethodName) (head1 (Jvm.Cond.code (⟨"com/example/keptlog/keptlog/log/RecordBatch", "wholeSize", "(I)I"⟩ : MethodName) prog_25_method_3_code 1 (some .int) :: ws) ({ frames := 0, cells := 0, slots := 0, locals := 0 } : Room)) (fun a U => a = #[(.int p0)] ∧ Z.Warmed39 U.vm ∧ U.heap = h0) (fun _ _ _ _ _ => True) (fun _ U o U' => ∃ v L, o = .returned v ∧ Q1 Z p0 h0 n0 v U'.heap L ∧ FrameEnd U o U' L ({ frames := 0, cells := 0, slots := 0, locals := 0 } : Room).cells ({ frames := 0, cells := 0, slots := 0, locals := 0 } : Room).slots) := by
  refine MetFree.of_bodySF (plainFor_of_name pn_1) hisR ?_
  intro p e s m args below meth c s₁ Bd hml0 hP hK
  obtain ⟨rfl, hZ, hh⟩ := hP
  have hx := Bd.exec
  have hby := Bd.bytes
  have hml : c.maxLocals = 1 := hml0
  have hown : s.vm.findClass "com/example/keptlog/keptlog/log/RecordBatch" = some m.cls := findClass_of_methodNamed Bd.named
  have hnm := (name_of_methodNamed Bd.named Bd.method).1
  have X0 : Stand p l e ({ frames := 0, cells := 0, slots := 0, locals := 0 } : Room) s m #[(.int p0)] below meth c s₁ [] 0 0 := Stand.of_body Bd
  have e0 : s₁.heap = h0 := by rw [← hh, Bd.state]; rfl
  have N0 := Fr.nil n0
  refine own_back (b := s₁.setTop (mkF m 0 #[.val (.int p0)] [])) (fun t kt => castTop (ef_1 m p0) kt) ?_
  refine own_back (b := s₁.setTop (mkF m 1 #[.val (.int p0)] [(.int p0)])) (fun t kt => ?_) ?_
  · show Steps p.tables e below (s₁.setTop (mkF m 0 #[.val (.int p0)] [])) _
    refine XS.iloadN X0.here hx rfl (hb hby d1_0) rfl ?_
    exact kt
  by_cases hc1_1 : p0 < (0 : Int32)
  · refine own_back (b := s₁.setTop (mkF m 18 #[.val (.int p0)] [(.int (-1 : Int32))])) (fun t kt => ?_) ?_
    · show Steps p.tables e below (s₁.setTop (mkF m 1 #[.val (.int p0)] [(.int p0)])) _
      refine XS.ifYes X0.here hx rfl (pc0 := 1) (pc' := 10) rfl (hb hby d1_1) rfl ((if0 _ _).trans (tlt hc1_1).1) (by decide) (by decide) ?_
      show Steps p.tables e below (s₁.setTop (mkF m 10 #[.val (.int p0)] [])) _
      refine XS.iconst X0.here hx rfl (hb hby d1_10) ?_
      show Steps p.tables e below (s₁.setTop (mkF m 11 #[.val (.int p0)] [(.int (-1 : Int32))])) _
      refine XS.goto X0.here hx rfl (pc0 := 11) (pc' := 18) rfl (hb hby d1_11) (by decide) (by decide) ?_
      exact kt
    obtain ⟨fs, hr, hrun, hended, hW, hsame⟩ := X0.leave (v := some (.int (-1 : Int32))) (fun h => by rw [Bd.returns] at h; cases h)
    refine ⟨_, _, ?_, hrun, hended, _, _, rfl, ?_, ⟨_, rfl⟩, hW, hsame.mono (by decide) (by decide)⟩
    · show Steps p.tables e below (s₁.setTop (mkF m 18 #[.val (.int p0)] [(.int (-1 : Int32))])) _
      exact retI X0 hx Bd.returns (hb hby d1_18) hr
    · show Q1 Z p0 h0 n0 _ s₁.heap _
      rw [e0]
      exact ⟨by rw [show f1 p0 = (-1 : Int32) from by unfold f1; rw [if_pos hc1_1]], N0, rfl⟩
  · refine own_back (b := s₁.setTop (mkF m 7 #[.val (.int p0)] [(.int (2147483635 : Int32)), (.int p0)])) (fun t kt => ?_) ?_
    · show Steps p.tables e below (s₁.setTop (mkF m 1 #[.val (.int p0)] [(.int p0)])) _
      refine XS.ifNo X0.here hx rfl (hb hby d1_1) rfl ((if0 _ _).trans (flt hc1_1).1) ?_
      show Steps p.tables e below (s₁.setTop (mkF m 4 #[.val (.int p0)] [])) _
      refine XS.iloadN X0.here hx rfl (hb hby d1_4) rfl ?_
      show Steps p.tables e below (s₁.setTop (mkF m 5 #[.val (.int p0)] [(.int p0)])) _
      refine X0.ldcInt hx hown (mvT hZ (hw _ (List.mem_of_getElem? (i := 4) rfl))) (g := (mkF m 5 #[.val (.int p0)] [(.int p0)])) rfl (hb hby d1_5) _ ?_
      exact kt
    by_cases hc7_2 : (2147483635 : Int32) < p0
    · refine own_back (b := s₁.setTop (mkF m 18 #[.val (.int p0)] [(.int (-1 : Int32))])) (fun t kt => ?_) ?_
      · show Steps p.tables e below (s₁.setTop (mkF m 7 #[.val (.int p0)] [(.int (2147483635 : Int32)), (.int p0)])) _
        refine XS.icmpNo X0.here hx rfl (hb hby d1_7) rfl (tlt hc7_2).2.2.2 ?_
        show Steps p.tables e below (s₁.setTop (mkF m 10 #[.val (.int p0)] [])) _
        refine XS.iconst X0.here hx rfl (hb hby d1_10) ?_
        show Steps p.tables e below (s₁.setTop (mkF m 11 #[.val (.int p0)] [(.int (-1 : Int32))])) _
        refine XS.goto X0.here hx rfl (pc0 := 11) (pc' := 18) rfl (hb hby d1_11) (by decide) (by decide) ?_
        exact kt
      obtain ⟨fs, hr, hrun, hended, hW, hsame⟩ := X0.leave (v := some (.int (-1 : Int32))) (fun h => by rw [Bd.returns] at h; cases h)
      refine ⟨_, _, ?_, hrun, hended, _, _, rfl, ?_, ⟨_, rfl⟩, hW, hsame.mono (by decide) (by decide)⟩
      · show Steps p.tables e below (s₁.setTop (mkF m 18 #[.val (.int p0)] [(.int (-1 : Int32))])) _
        exact retI X0 hx Bd.returns (hb hby d1_18) hr
      · show Q1 Z p0 h0 n0 _ s₁.heap _
        rw [e0]
        exact ⟨by rw [show f1 p0 = (-1 : Int32) from by unfold f1; rw [if_neg hc1_1, if_pos hc7_2]], N0, rfl⟩
    · refine own_back (b := s₁.setTop (mkF m 18 #[.val (.int p0)] [(.int ((12 : Int32) + p0))])) (fun t kt => ?_) ?_
      · show Steps p.tables e below (s₁.setTop (mkF m 7 #[.val (.int p0)] [(.int (2147483635 : Int32)), (.int p0)])) _
        refine XS.icmpYes X0.here hx rfl (pc0 := 7) (pc' := 14) rfl (hb hby d1_7) rfl (flt hc7_2).2.2.2 (by decide) (by decide) ?_
        show Steps p.tables e below (s₁.setTop (mkF m 14 #[.val (.int p0)] [])) _
        refine XS.bipush X0.here hx rfl (hb hby d1_14) ?_
        show Steps p.tables e below (s₁.setTop (mkF m 16 #[.val (.int p0)] [(.int (12 : Int32))])) _
        refine XS.iloadN X0.here hx rfl (hb hby d1_16) rfl ?_
        show Steps p.tables e below (s₁.setTop (mkF m 17 #[.val (.int p0)] [(.int p0), (.int (12 : Int32))])) _
        refine XS.iadd X0.here hx rfl (hb hby d1_17) rfl ?_
        exact kt
      obtain ⟨fs, hr, hrun, hended, hW, hsame⟩ := X0.leave (v := some (.int ((12 : Int32) + p0))) (fun h => by rw [Bd.returns] at h; cases h)
      refine ⟨_, _, ?_, hrun, hended, _, _, rfl, ?_, ⟨_, rfl⟩, hW, hsame.mono (by decide) (by decide)⟩
      · show Steps p.tables e below (s₁.setTop (mkF m 18 #[.val (.int p0)] [(.int ((12 : Int32) + p0))])) _
        exact retI X0 hx Bd.returns (hb hby d1_18) hr
      · show Q1 Z p0 h0 n0 _ s₁.heap _
        rw [e0]
        exact ⟨by rw [show f1 p0 = ((12 : Int32) + p0) from by unfold f1; rw [if_neg hc1_1, if_neg hc7_2]], N0, rfl⟩
theorem pn_0 : plainName "com/example/keptlog/keptlog/log/RecordBatchWholeSizePinLaw" = true := by first | (simp [plainName, overriddenIn]; done) | decide +kernel
theorem pd_0_0 : parseMethodDescriptor "(I)I" = some ⟨[.int], some .int⟩ := by decide +kernel
theorem ef_0 (m : MethodId) (x0 : Int32) (x1 : Int32) : entryFrame m #[(.int x0), (.int x1)] maxLocals = mkF m 0 #[.val (.int x0), .val (.int x1), .unset, .unset, .unset, .unset, .unset] [] := by first | (simp [entryFrame, mkF, argsToLocals, Value.category, maxLocals]; done) | rfl
def m0_0 (p0 : Int32) (p1 : Int32) : Int32 := (if (p1 &&& (3 : Int32)) = (1 : Int32) then ((2147483633 : Int32) + (p0 &&& (3 : Int32))) else (if (p1 &&& (3 : Int32)) = (2 : Int32) then ((p0 &&& (3 : Int32)) - (2 : Int32)) else p0))
def f0 (p0 : Int32) (p1 : Int32) : Int32 := (if (m0_0 p0 p1) < (0 : Int32) then (if (f1 (m0_0 p0 p1)) < (0 : Int32) then (1 : Int32) else (0 : Int32)) else (if (2147483647 : Int64) < ((12 : Int64) + ((m0_0 p0 p1).toInt64)) then (if (f1 (m0_0 p0 p1)) < (0 : Int32) then (1 : Int32) else (0 : Int32)) else (if ((f1 (m0_0 p0 p1)).toInt64) = ((12 : Int64) + ((m0_0 p0 p1).toInt64)) then (1 : Int32) else (0 : Int32))))
def Q0 (Z : State) (p0 : Int32) (p1 : Int32) (h0 : Heap) (n0 : Nat) (v : Option Value) (h : Heap) (L : List Loc) : Prop := v = some (.int (f0 p0 p1)) ∧ Fr n0 L
set_option maxRecDepth 65536 in
set_option maxHeartbeats 40000000 in
theorem rm0 (l : Launch) (Z : State) (a0 : Array Value) (hw : ∀ d ∈ tables_1, d.before a0 Z = true) (ws : List Jvm.Cond) (p0 : Int32) (p1 : Int32) (h0 : Heap) (n0 : Nat) (Z0 : n0 ≤ h0.size) :
    MetFree l x (head1 (Jvm.Cond.code x code maxLocals ret :: ws) room_1) (fun a U => a = #[(.int p0), (.int p1)] ∧ Z.Warmed39 U.vm ∧ U.heap = h0) (fun _ _ _ _ _ => True) (fun _ U o U' => ∃ v L, o = .returned v ∧ Q0 Z p0 p1 h0 n0 v U'.heap L ∧ FrameEnd U o U' L room_1.cells room_1.slots) := by
  refine MetFree.of_bodySF (plainFor_of_name pn_0) hisR ?_
  intro p e s m args below meth c s₁ Bd hml0 hP hK
  obtain ⟨rfl, hZ, hh⟩ := hP
  have hx := Bd.exec
  have hby := Bd.bytes
  have hml : c.maxLocals = 7 := hml0
  have hown : s.vm.findClass "com/example/keptlog/keptlog/log/RecordBatchWholeSizePinLaw" = some m.cls := findClass_of_methodNamed Bd.named
  have hnm := (name_of_methodNamed Bd.named Bd.method).1
  have X0 : Stand p l e room_1 s m #[(.int p0), (.int p1)] below meth c s₁ [] 0 0 := Stand.of_body Bd
  have e0 : s₁.heap = h0 := by rw [← hh, Bd.state]; rfl
  have N0 := Fr.nil n0
  refine own_back (b := s₁.setTop (mkF m 0 #[.val (.int p0), .val (.int p1), .unset, .unset, .unset, .unset, .unset] [])) (fun t kt => castTop (ef_0 m p0 p1) kt) ?_
  refine own_back (b := s₁.setTop (mkF m 6 #[.val (.int p0), .val (.int p1), .val (.int (p1 &&& (3 : Int32))), .unset, .unset, .unset, .unset] [(.int (1 : Int32)), (.int (p1 &&& (3 : Int32)))])) (fun t kt => ?_) ?_
  · show Steps p.tables e below (s₁.setTop (mkF m 0 #[.val (.int p0), .val (.int p1), .unset, .unset, .unset, .unset, .unset] [])) _
    refine XS.iloadN X0.here hx rfl (hb hby at_0) rfl ?_
    show Steps p.tables e below (s₁.setTop (mkF m 1 #[.val (.int p0), .val (.int p1), .unset, .unset, .unset, .unset, .unset] [(.int p1)])) _
    refine XS.iconst X0.here hx rfl (hb hby at_1) ?_
    show Steps p.tables e below (s₁.setTop (mkF m 2 #[.val (.int p0), .val (.int p1), .unset, .unset, .unset, .unset, .unset] [(.int (3 : Int32)), (.int p1)])) _
    refine XS.iand X0.here hx rfl (hb hby at_2) rfl ?_
    show Steps p.tables e below (s₁.setTop (mkF m 3 #[.val (.int p0), .val (.int p1), .unset, .unset, .unset, .unset, .unset] [(.int (p1 &&& (3 : Int32)))])) _
    refine XS.istoreN X0.here hx rfl (hb hby at_3) rfl (l' := #[.val (.int p0), .val (.int p1), .val (.int (p1 &&& (3 : Int32))), .unset, .unset, .unset, .unset]) rfl ?_
    show Steps p.tables e below (s₁.setTop (mkF m 4 #[.val (.int p0), .val (.int p1), .val (.int (p1 &&& (3 : Int32))), .unset, .unset, .unset, .unset] [])) _
    refine XS.iloadN X0.here hx rfl (hb hby at_4) rfl ?_
    show Steps p.tables e below (s₁.setTop (mkF m 5 #[.val (.int p0), .val (.int p1), .val (.int (p1 &&& (3 : Int32))), .unset, .unset, .unset, .unset] [(.int (p1 &&& (3 : Int32)))])) _
    refine XS.iconst X0.here hx rfl (hb hby at_5) ?_
    exact kt
  refine own_back (b := s₁.setTop (mkF m 35 #[.val (.int p0), .val (.int p1), .val (.int (p1 &&& (3 : Int32))), .val (.int (m0_0 p0 p1)), .unset, .unset, .unset] [])) (fun t kt => ?_) ?_
  · by_cases hm6_1 : (p1 &&& (3 : Int32)) = (1 : Int32)
    · rw [show (m0_0 p0 p1) = ((2147483633 : Int32) + (p0 &&& (3 : Int32))) from by unfold m0_0; rw [if_pos hm6_1]] at kt
      show Steps p.tables e below (s₁.setTop (mkF m 6 #[.val (.int p0), .val (.int p1), .val (.int (p1 &&& (3 : Int32))), .unset, .unset, .unset, .unset] [(.int (1 : Int32)), (.int (p1 &&& (3 : Int32)))])) _
      refine XS.icmpNo X0.here hx rfl (hb hby at_6) rfl (teq hm6_1).2 ?_
      show Steps p.tables e below (s₁.setTop (mkF m 9 #[.val (.int p0), .val (.int p1), .val (.int (p1 &&& (3 : Int32))), .unset, .unset, .unset, .unset] [])) _
      refine X0.ldcInt hx hown (mvT hZ (hw _ (List.mem_of_getElem? (i := 7) rfl))) (g := (mkF m 9 #[.val (.int p0), .val (.int p1), .val (.int (p1 &&& (3 : Int32))), .unset, .unset, .unset, .unset] [])) rfl (hb hby at_9) _ ?_
      show Steps p.tables e below (s₁.setTop (mkF m 11 #[.val (.int p0), .val (.int p1), .val (.int (p1 &&& (3 : Int32))), .unset, .unset, .unset, .unset] [(.int (2147483633 : Int32))])) _
      refine XS.iloadN X0.here hx rfl (hb hby at_11) rfl ?_
      show Steps p.tables e below (s₁.setTop (mkF m 12 #[.val (.int p0), .val (.int p1), .val (.int (p1 &&& (3 : Int32))), .unset, .unset, .unset, .unset] [(.int p0), (.int (2147483633 : Int32))])) _
      refine XS.iconst X0.here hx rfl (hb hby at_12) ?_
      show Steps p.tables e below (s₁.setTop (mkF m 13 #[.val (.int p0), .val (.int p1), .val (.int (p1 &&& (3 : Int32))), .unset, .unset, .unset, .unset] [(.int (3 : Int32)), (.int p0), (.int (2147483633 : Int32))])) _
      refine XS.iand X0.here hx rfl (hb hby at_13) rfl ?_
      show Steps p.tables e below (s₁.setTop (mkF m 14 #[.val (.int p0), .val (.int p1), .val (.int (p1 &&& (3 : Int32))), .unset, .unset, .unset, .unset] [(.int (p0 &&& (3 : Int32))), (.int (2147483633 : Int32))])) _
      refine XS.iadd X0.here hx rfl (hb hby at_14) rfl ?_
      show Steps p.tables e below (s₁.setTop (mkF m 15 #[.val (.int p0), .val (.int p1), .val (.int (p1 &&& (3 : Int32))), .unset, .unset, .unset, .unset] [(.int ((2147483633 : Int32) + (p0 &&& (3 : Int32))))])) _
      refine XS.istoreN X0.here hx rfl (hb hby at_15) rfl (l' := #[.val (.int p0), .val (.int p1), .val (.int (p1 &&& (3 : Int32))), .val (.int ((2147483633 : Int32) + (p0 &&& (3 : Int32)))), .unset, .unset, .unset]) rfl ?_
      show Steps p.tables e below (s₁.setTop (mkF m 16 #[.val (.int p0), .val (.int p1), .val (.int (p1 &&& (3 : Int32))), .val (.int ((2147483633 : Int32) + (p0 &&& (3 : Int32)))), .unset, .unset, .unset] [])) _
      refine XS.goto X0.here hx rfl (pc0 := 16) (pc' := 35) rfl (hb hby at_16) (by decide) (by decide) ?_
      exact kt
    · by_cases hm21_2 : (p1 &&& (3 : Int32)) = (2 : Int32)
      · rw [show (m0_0 p0 p1) = ((p0 &&& (3 : Int32)) - (2 : Int32)) from by unfold m0_0; rw [if_neg hm6_1, if_pos hm21_2]] at kt
        show Steps p.tables e below (s₁.setTop (mkF m 6 #[.val (.int p0), .val (.int p1), .val (.int (p1 &&& (3 : Int32))), .unset, .unset, .unset, .unset] [(.int (1 : Int32)), (.int (p1 &&& (3 : Int32)))])) _
        refine XS.icmpYes X0.here hx rfl (pc0 := 6) (pc' := 19) rfl (hb hby at_6) rfl (feq hm6_1).2 (by decide) (by decide) ?_
        show Steps p.tables e below (s₁.setTop (mkF m 19 #[.val (.int p0), .val (.int p1), .val (.int (p1 &&& (3 : Int32))), .unset, .unset, .unset, .unset] [])) _
        refine XS.iloadN X0.here hx rfl (hb hby at_19) rfl ?_
        show Steps p.tables e below (s₁.setTop (mkF m 20 #[.val (.int p0), .val (.int p1), .val (.int (p1 &&& (3 : Int32))), .unset, .unset, .unset, .unset] [(.int (p1 &&& (3 : Int32)))])) _
        refine XS.iconst X0.here hx rfl (hb hby at_20) ?_
        show Steps p.tables e below (s₁.setTop (mkF m 21 #[.val (.int p0), .val (.int p1), .val (.int (p1 &&& (3 : Int32))), .unset, .unset, .unset, .unset] [(.int (2 : Int32)), (.int (p1 &&& (3 : Int32)))])) _
        refine XS.icmpNo X0.here hx rfl (hb hby at_21) rfl (teq hm21_2).2 ?_
        show Steps p.tables e below (s₁.setTop (mkF m 24 #[.val (.int p0), .val (.int p1), .val (.int (p1 &&& (3 : Int32))), .unset, .unset, .unset, .unset] [])) _
        refine XS.iloadN X0.here hx rfl (hb hby at_24) rfl ?_
        show Steps p.tables e below (s₁.setTop (mkF m 25 #[.val (.int p0), .val (.int p1), .val (.int (p1 &&& (3 : Int32))), .unset, .unset, .unset, .unset] [(.int p0)])) _
        refine XS.iconst X0.here hx rfl (hb hby at_25) ?_
        show Steps p.tables e below (s₁.setTop (mkF m 26 #[.val (.int p0), .val (.int p1), .val (.int (p1 &&& (3 : Int32))), .unset, .unset, .unset, .unset] [(.int (3 : Int32)), (.int p0)])) _
        refine XS.iand X0.here hx rfl (hb hby at_26) rfl ?_
        show Steps p.tables e below (s₁.setTop (mkF m 27 #[.val (.int p0), .val (.int p1), .val (.int (p1 &&& (3 : Int32))), .unset, .unset, .unset, .unset] [(.int (p0 &&& (3 : Int32)))])) _
        refine XS.iconst X0.here hx rfl (hb hby at_27) ?_
        show Steps p.tables e below (s₁.setTop (mkF m 28 #[.val (.int p0), .val (.int p1), .val (.int (p1 &&& (3 : Int32))), .unset, .unset, .unset, .unset] [(.int (2 : Int32)), (.int (p0 &&& (3 : Int32)))])) _
        refine XS.isub X0.here hx rfl (hb hby at_28) rfl ?_
        show Steps p.tables e below (s₁.setTop (mkF m 29 #[.val (.int p0), .val (.int p1), .val (.int (p1 &&& (3 : Int32))), .unset, .unset, .unset, .unset] [(.int ((p0 &&& (3 : Int32)) - (2 : Int32)))])) _
        refine XS.istoreN X0.here hx rfl (hb hby at_29) rfl (l' := #[.val (.int p0), .val (.int p1), .val (.int (p1 &&& (3 : Int32))), .val (.int ((p0 &&& (3 : Int32)) - (2 : Int32))), .unset, .unset, .unset]) rfl ?_
        show Steps p.tables e below (s₁.setTop (mkF m 30 #[.val (.int p0), .val (.int p1), .val (.int (p1 &&& (3 : Int32))), .val (.int ((p0 &&& (3 : Int32)) - (2 : Int32))), .unset, .unset, .unset] [])) _
        refine XS.goto X0.here hx rfl (pc0 := 30) (pc' := 35) rfl (hb hby at_30) (by decide) (by decide) ?_
        exact kt
      · rw [show (m0_0 p0 p1) = p0 from by unfold m0_0; rw [if_neg hm6_1, if_neg hm21_2]] at kt
        show Steps p.tables e below (s₁.setTop (mkF m 6 #[.val (.int p0), .val (.int p1), .val (.int (p1 &&& (3 : Int32))), .unset, .unset, .unset, .unset] [(.int (1 : Int32)), (.int (p1 &&& (3 : Int32)))])) _
        refine XS.icmpYes X0.here hx rfl (pc0 := 6) (pc' := 19) rfl (hb hby at_6) rfl (feq hm6_1).2 (by decide) (by decide) ?_
        show Steps p.tables e below (s₁.setTop (mkF m 19 #[.val (.int p0), .val (.int p1), .val (.int (p1 &&& (3 : Int32))), .unset, .unset, .unset, .unset] [])) _
        refine XS.iloadN X0.here hx rfl (hb hby at_19) rfl ?_
        show Steps p.tables e below (s₁.setTop (mkF m 20 #[.val (.int p0), .val (.int p1), .val (.int (p1 &&& (3 : Int32))), .unset, .unset, .unset, .unset] [(.int (p1 &&& (3 : Int32)))])) _
        refine XS.iconst X0.here hx rfl (hb hby at_20) ?_
        show Steps p.tables e below (s₁.setTop (mkF m 21 #[.val (.int p0), .val (.int p1), .val (.int (p1 &&& (3 : Int32))), .unset, .unset, .unset, .unset] [(.int (2 : Int32)), (.int (p1 &&& (3 : Int32)))])) _
        refine XS.icmpYes X0.here hx rfl (pc0 := 21) (pc' := 33) rfl (hb hby at_21) rfl (feq hm21_2).2 (by decide) (by decide) ?_
        show Steps p.tables e below (s₁.setTop (mkF m 33 #[.val (.int p0), .val (.int p1), .val (.int (p1 &&& (3 : Int32))), .unset, .unset, .unset, .unset] [])) _
        refine XS.iloadN X0.here hx rfl (hb hby at_33) rfl ?_
        show Steps p.tables e below (s₁.setTop (mkF m 34 #[.val (.int p0), .val (.int p1), .val (.int (p1 &&& (3 : Int32))), .unset, .unset, .unset, .unset] [(.int p0)])) _
        refine XS.istoreN X0.here hx rfl (hb hby at_34) rfl (l' := #[.val (.int p0), .val (.int p1), .val (.int (p1 &&& (3 : Int32))), .val (.int p0), .unset, .unset, .unset]) rfl ?_
        exact kt
  obtain ⟨_, _, ⟨T3, L3, k3, n3⟩, -, X3, ⟨Lc3, hQ3, l3, y3, z3⟩, st3⟩ := Jvm.LawKit.callS X0 hx (y := (⟨"com/example/keptlog/keptlog/log/RecordBatch", "wholeSize", "(I)I"⟩ : MethodName)) hown (mvT hZ (hw _ (List.mem_of_getElem? (i := 0) rfl))) (mvT hZ (hw _ (List.mem_of_getElem? (i := 1) rfl))) (mvT hZ (hw _ (List.mem_of_getElem? (i := 2) rfl))) (mvT hZ (hw _ (List.mem_of_getElem? (i := 3) rfl))) (by decide) (backOf (W := 0) (rm1 l Z a0 hw [] (m0_0 p0 p1) h0 n0 Z0 ) hZ (hw _ (List.mem_of_getElem? (i := 3) rfl)) (hw _ (List.mem_of_getElem? (i := 2) rfl)) (by decide) (by decide)) (g := (mkF m 36 #[.val (.int p0), .val (.int p1), .val (.int (p1 &&& (3 : Int32))), .val (.int (m0_0 p0 p1)), .unset, .unset, .unset] [(.int (m0_0 p0 p1))])) rfl (by rw [hml]; rfl) (argsL := [(.int (m0_0 p0 p1))]) (rest := []) (lenOf pd_0_0 rfl) rfl (by show 2 * 0 + _ ≤ _; exact Nat.le_of_eq rfl) (hb hby at_36) (fun _ _ => ⟨rfl, e0, (by decide : 0 + 0 ≤ _), (by decide : 0 + 0 ≤ _)⟩)
  dsimp only [Pt.U, Pt.locs, Pt.cells, Pt.slots] at X3 l3 y3 z3 st3 hQ3
  subst l3 y3 z3
  obtain ⟨rfl, Nq3, e3⟩ := hQ3
  have N3 := Fr.app N0 Nq3
  refine own_back (b := T3.setTop (mkF m 50 #[.val (.int p0), .val (.int p1), .val (.int (p1 &&& (3 : Int32))), .val (.int (m0_0 p0 p1)), .val (.int (f1 (m0_0 p0 p1))), .val (.long ((12 : Int64) + ((m0_0 p0 p1).toInt64))), .second] [(.int (m0_0 p0 p1))])) (fun t kt => ?_) ?_
  · show Steps p.tables e below (s₁.setTop (mkF m 35 #[.val (.int p0), .val (.int p1), .val (.int (p1 &&& (3 : Int32))), .val (.int (m0_0 p0 p1)), .unset, .unset, .unset] [])) _
    refine XS.iloadN X0.here hx rfl (hb hby at_35) rfl ?_
    show Steps p.tables e below (s₁.setTop (mkF m 36 #[.val (.int p0), .val (.int p1), .val (.int (p1 &&& (3 : Int32))), .val (.int (m0_0 p0 p1)), .unset, .unset, .unset] [(.int (m0_0 p0 p1))])) _
    refine st3 _ ?_
    show Steps p.tables e below (T3.setTop (mkF m 39 #[.val (.int p0), .val (.int p1), .val (.int (p1 &&& (3 : Int32))), .val (.int (m0_0 p0 p1)), .unset, .unset, .unset] [(.int (f1 (m0_0 p0 p1)))])) _
    refine XS.istore X3.here hx rfl (hb hby at_39) rfl (l' := #[.val (.int p0), .val (.int p1), .val (.int (p1 &&& (3 : Int32))), .val (.int (m0_0 p0 p1)), .val (.int (f1 (m0_0 p0 p1))), .unset, .unset]) rfl ?_
    show Steps p.tables e below (T3.setTop (mkF m 41 #[.val (.int p0), .val (.int p1), .val (.int (p1 &&& (3 : Int32))), .val (.int (m0_0 p0 p1)), .val (.int (f1 (m0_0 p0 p1))), .unset, .unset] [])) _
    refine X3.ldc2Long hx hown (mvT hZ (hw _ (List.mem_of_getElem? (i := 5) rfl))) (g := (mkF m 41 #[.val (.int p0), .val (.int p1), .val (.int (p1 &&& (3 : Int32))), .val (.int (m0_0 p0 p1)), .val (.int (f1 (m0_0 p0 p1))), .unset, .unset] [])) rfl (hb hby at_41) _ ?_
    show Steps p.tables e below (T3.setTop (mkF m 44 #[.val (.int p0), .val (.int p1), .val (.int (p1 &&& (3 : Int32))), .val (.int (m0_0 p0 p1)), .val (.int (f1 (m0_0 p0 p1))), .unset, .unset] [(.long (12 : Int64))])) _
    refine XS.iloadN X3.here hx rfl (hb hby at_44) rfl ?_
    show Steps p.tables e below (T3.setTop (mkF m 45 #[.val (.int p0), .val (.int p1), .val (.int (p1 &&& (3 : Int32))), .val (.int (m0_0 p0 p1)), .val (.int (f1 (m0_0 p0 p1))), .unset, .unset] [(.int (m0_0 p0 p1)), (.long (12 : Int64))])) _
    refine XS.i2l X3.here hx rfl (hb hby at_45) rfl ?_
    show Steps p.tables e below (T3.setTop (mkF m 46 #[.val (.int p0), .val (.int p1), .val (.int (p1 &&& (3 : Int32))), .val (.int (m0_0 p0 p1)), .val (.int (f1 (m0_0 p0 p1))), .unset, .unset] [(.long ((m0_0 p0 p1).toInt64)), (.long (12 : Int64))])) _
    refine XS.ladd X3.here hx rfl (hb hby at_46) rfl ?_
    show Steps p.tables e below (T3.setTop (mkF m 47 #[.val (.int p0), .val (.int p1), .val (.int (p1 &&& (3 : Int32))), .val (.int (m0_0 p0 p1)), .val (.int (f1 (m0_0 p0 p1))), .unset, .unset] [(.long ((12 : Int64) + ((m0_0 p0 p1).toInt64)))])) _
    refine XS.lstore X3.here hx rfl (hb hby at_47) rfl (l' := #[.val (.int p0), .val (.int p1), .val (.int (p1 &&& (3 : Int32))), .val (.int (m0_0 p0 p1)), .val (.int (f1 (m0_0 p0 p1))), .val (.long ((12 : Int64) + ((m0_0 p0 p1).toInt64))), .second]) rfl ?_
    show Steps p.tables e below (T3.setTop (mkF m 49 #[.val (.int p0), .val (.int p1), .val (.int (p1 &&& (3 : Int32))), .val (.int (m0_0 p0 p1)), .val (.int (f1 (m0_0 p0 p1))), .val (.long ((12 : Int64) + ((m0_0 p0 p1).toInt64))), .second] [])) _
    refine XS.iloadN X3.here hx rfl (hb hby at_49) rfl ?_
    exact kt
  by_cases hc50_4 : (m0_0 p0 p1) < (0 : Int32)
  · refine own_back (b := T3.setTop (mkF m 64 #[.val (.int p0), .val (.int p1), .val (.int (p1 &&& (3 : Int32))), .val (.int (m0_0 p0 p1)), .val (.int (f1 (m0_0 p0 p1))), .val (.long ((12 : Int64) + ((m0_0 p0 p1).toInt64))), .second] [(.int (f1 (m0_0 p0 p1)))])) (fun t kt => ?_) ?_
    · show Steps p.tables e below (T3.setTop (mkF m 50 #[.val (.int p0), .val (.int p1), .val (.int (p1 &&& (3 : Int32))), .val (.int (m0_0 p0 p1)), .val (.int (f1 (m0_0 p0 p1))), .val (.long ((12 : Int64) + ((m0_0 p0 p1).toInt64))), .second] [(.int (m0_0 p0 p1))])) _
      refine XS.ifYes X3.here hx rfl (pc0 := 50) (pc' := 62) rfl (hb hby at_50) rfl ((if0 _ _).trans (tlt hc50_4).1) (by decide) (by decide) ?_
      show Steps p.tables e below (T3.setTop (mkF m 62 #[.val (.int p0), .val (.int p1), .val (.int (p1 &&& (3 : Int32))), .val (.int (m0_0 p0 p1)), .val (.int (f1 (m0_0 p0 p1))), .val (.long ((12 : Int64) + ((m0_0 p0 p1).toInt64))), .second] [])) _
      refine XS.iload X3.here hx rfl (hb hby at_62) rfl ?_
      exact kt
    by_cases hc64_5 : (f1 (m0_0 p0 p1)) < (0 : Int32)
    · refine own_back (b := T3.setTop (mkF m 72 #[.val (.int p0), .val (.int p1), .val (.int (p1 &&& (3 : Int32))), .val (.int (m0_0 p0 p1)), .val (.int (f1 (m0_0 p0 p1))), .val (.long ((12 : Int64) + ((m0_0 p0 p1).toInt64))), .second] [(.int (1 : Int32))])) (fun t kt => ?_) ?_
      · show Steps p.tables e below (T3.setTop (mkF m 64 #[.val (.int p0), .val (.int p1), .val (.int (p1 &&& (3 : Int32))), .val (.int (m0_0 p0 p1)), .val (.int (f1 (m0_0 p0 p1))), .val (.long ((12 : Int64) + ((m0_0 p0 p1).toInt64))), .second] [(.int (f1 (m0_0 p0 p1)))])) _
        refine XS.ifNo X3.here hx rfl (hb hby at_64) rfl ((if0 _ _).trans (tlt hc64_5).2.1) ?_
        show Steps p.tables e below (T3.setTop (mkF m 67 #[.val (.int p0), .val (.int p1), .val (.int (p1 &&& (3 : Int32))), .val (.int (m0_0 p0 p1)), .val (.int (f1 (m0_0 p0 p1))), .val (.long ((12 : Int64) + ((m0_0 p0 p1).toInt64))), .second] [])) _
        refine XS.iconst X3.here hx rfl (hb hby at_67) ?_
        show Steps p.tables e below (T3.setTop (mkF m 68 #[.val (.int p0), .val (.int p1), .val (.int (p1 &&& (3 : Int32))), .val (.int (m0_0 p0 p1)), .val (.int (f1 (m0_0 p0 p1))), .val (.long ((12 : Int64) + ((m0_0 p0 p1).toInt64))), .second] [(.int (1 : Int32))])) _
        refine XS.goto X3.here hx rfl (pc0 := 68) (pc' := 72) rfl (hb hby at_68) (by decide) (by decide) ?_
        exact kt
      obtain ⟨fs, hr, hrun, hended, hW, hsame⟩ := X3.leave (v := some (.int (1 : Int32))) (fun h => by rw [Bd.returns] at h; cases h)
      refine ⟨_, _, ?_, hrun, hended, _, _, rfl, ?_, ⟨_, rfl⟩, hW, hsame.mono (by decide) (by decide)⟩
      · show Steps p.tables e below (T3.setTop (mkF m 72 #[.val (.int p0), .val (.int p1), .val (.int (p1 &&& (3 : Int32))), .val (.int (m0_0 p0 p1)), .val (.int (f1 (m0_0 p0 p1))), .val (.long ((12 : Int64) + ((m0_0 p0 p1).toInt64))), .second] [(.int (1 : Int32))])) _
        exact retN X3 hx (t := .boolean) Bd.returns (by simp) (hb hby at_72) hr
      · show Q0 Z p0 p1 h0 n0 _ T3.heap _
        rw [e3]
        exact ⟨by rw [show f0 p0 p1 = (1 : Int32) from by unfold f0; rw [if_pos hc50_4, if_pos hc64_5]], N3⟩
    · refine own_back (b := T3.setTop (mkF m 72 #[.val (.int p0), .val (.int p1), .val (.int (p1 &&& (3 : Int32))), .val (.int (m0_0 p0 p1)), .val (.int (f1 (m0_0 p0 p1))), .val (.long ((12 : Int64) + ((m0_0 p0 p1).toInt64))), .second] [(.int (0 : Int32))])) (fun t kt => ?_) ?_
      · show Steps p.tables e below (T3.setTop (mkF m 64 #[.val (.int p0), .val (.int p1), .val (.int (p1 &&& (3 : Int32))), .val (.int (m0_0 p0 p1)), .val (.int (f1 (m0_0 p0 p1))), .val (.long ((12 : Int64) + ((m0_0 p0 p1).toInt64))), .second] [(.int (f1 (m0_0 p0 p1)))])) _
        refine XS.ifYes X3.here hx rfl (pc0 := 64) (pc' := 71) rfl (hb hby at_64) rfl ((if0 _ _).trans (flt hc64_5).2.1) (by decide) (by decide) ?_
        show Steps p.tables e below (T3.setTop (mkF m 71 #[.val (.int p0), .val (.int p1), .val (.int (p1 &&& (3 : Int32))), .val (.int (m0_0 p0 p1)), .val (.int (f1 (m0_0 p0 p1))), .val (.long ((12 : Int64) + ((m0_0 p0 p1).toInt64))), .second] [])) _
        refine XS.iconst X3.here hx rfl (hb hby at_71) ?_
        exact kt
      obtain ⟨fs, hr, hrun, hended, hW, hsame⟩ := X3.leave (v := some (.int (0 : Int32))) (fun h => by rw [Bd.returns] at h; cases h)
      refine ⟨_, _, ?_, hrun, hended, _, _, rfl, ?_, ⟨_, rfl⟩, hW, hsame.mono (by decide) (by decide)⟩
      · show Steps p.tables e below (T3.setTop (mkF m 72 #[.val (.int p0), .val (.int p1), .val (.int (p1 &&& (3 : Int32))), .val (.int (m0_0 p0 p1)), .val (.int (f1 (m0_0 p0 p1))), .val (.long ((12 : Int64) + ((m0_0 p0 p1).toInt64))), .second] [(.int (0 : Int32))])) _
        exact retN X3 hx (t := .boolean) Bd.returns (by simp) (hb hby at_72) hr
      · show Q0 Z p0 p1 h0 n0 _ T3.heap _
        rw [e3]
        exact ⟨by rw [show f0 p0 p1 = (0 : Int32) from by unfold f0; rw [if_pos hc50_4, if_neg hc64_5]], N3⟩
  · refine own_back (b := T3.setTop (mkF m 59 #[.val (.int p0), .val (.int p1), .val (.int (p1 &&& (3 : Int32))), .val (.int (m0_0 p0 p1)), .val (.int (f1 (m0_0 p0 p1))), .val (.long ((12 : Int64) + ((m0_0 p0 p1).toInt64))), .second] [(.int (lcmpW ((12 : Int64) + ((m0_0 p0 p1).toInt64)) (2147483647 : Int64)))])) (fun t kt => ?_) ?_
    · show Steps p.tables e below (T3.setTop (mkF m 50 #[.val (.int p0), .val (.int p1), .val (.int (p1 &&& (3 : Int32))), .val (.int (m0_0 p0 p1)), .val (.int (f1 (m0_0 p0 p1))), .val (.long ((12 : Int64) + ((m0_0 p0 p1).toInt64))), .second] [(.int (m0_0 p0 p1))])) _
      refine XS.ifNo X3.here hx rfl (hb hby at_50) rfl ((if0 _ _).trans (flt hc50_4).1) ?_
      show Steps p.tables e below (T3.setTop (mkF m 53 #[.val (.int p0), .val (.int p1), .val (.int (p1 &&& (3 : Int32))), .val (.int (m0_0 p0 p1)), .val (.int (f1 (m0_0 p0 p1))), .val (.long ((12 : Int64) + ((m0_0 p0 p1).toInt64))), .second] [])) _
      refine XS.lload X3.here hx rfl (hb hby at_53) rfl ?_
      show Steps p.tables e below (T3.setTop (mkF m 55 #[.val (.int p0), .val (.int p1), .val (.int (p1 &&& (3 : Int32))), .val (.int (m0_0 p0 p1)), .val (.int (f1 (m0_0 p0 p1))), .val (.long ((12 : Int64) + ((m0_0 p0 p1).toInt64))), .second] [(.long ((12 : Int64) + ((m0_0 p0 p1).toInt64)))])) _
      refine X3.ldc2Long hx hown (mvT hZ (hw _ (List.mem_of_getElem? (i := 6) rfl))) (g := (mkF m 55 #[.val (.int p0), .val (.int p1), .val (.int (p1 &&& (3 : Int32))), .val (.int (m0_0 p0 p1)), .val (.int (f1 (m0_0 p0 p1))), .val (.long ((12 : Int64) + ((m0_0 p0 p1).toInt64))), .second] [(.long ((12 : Int64) + ((m0_0 p0 p1).toInt64)))])) rfl (hb hby at_55) _ ?_
      show Steps p.tables e below (T3.setTop (mkF m 58 #[.val (.int p0), .val (.int p1), .val (.int (p1 &&& (3 : Int32))), .val (.int (m0_0 p0 p1)), .val (.int (f1 (m0_0 p0 p1))), .val (.long ((12 : Int64) + ((m0_0 p0 p1).toInt64))), .second] [(.long (2147483647 : Int64)), (.long ((12 : Int64) + ((m0_0 p0 p1).toInt64)))])) _
      refine XS.lcmp X3.here hx rfl (hb hby at_58) rfl ?_
      exact kt
    by_cases hc59_6 : (2147483647 : Int64) < ((12 : Int64) + ((m0_0 p0 p1).toInt64))
    · refine own_back (b := T3.setTop (mkF m 64 #[.val (.int p0), .val (.int p1), .val (.int (p1 &&& (3 : Int32))), .val (.int (m0_0 p0 p1)), .val (.int (f1 (m0_0 p0 p1))), .val (.long ((12 : Int64) + ((m0_0 p0 p1).toInt64))), .second] [(.int (f1 (m0_0 p0 p1)))])) (fun t kt => ?_) ?_
      · show Steps p.tables e below (T3.setTop (mkF m 59 #[.val (.int p0), .val (.int p1), .val (.int (p1 &&& (3 : Int32))), .val (.int (m0_0 p0 p1)), .val (.int (f1 (m0_0 p0 p1))), .val (.long ((12 : Int64) + ((m0_0 p0 p1).toInt64))), .second] [(.int (lcmpW ((12 : Int64) + ((m0_0 p0 p1).toInt64)) (2147483647 : Int64)))])) _
        refine XS.ifNo X3.here hx rfl (hb hby at_59) rfl ((if0 _ _).trans (tlt ((lw_gt _ _).mpr hc59_6)).2.2.2) ?_
        show Steps p.tables e below (T3.setTop (mkF m 62 #[.val (.int p0), .val (.int p1), .val (.int (p1 &&& (3 : Int32))), .val (.int (m0_0 p0 p1)), .val (.int (f1 (m0_0 p0 p1))), .val (.long ((12 : Int64) + ((m0_0 p0 p1).toInt64))), .second] [])) _
        refine XS.iload X3.here hx rfl (hb hby at_62) rfl ?_
        exact kt
      by_cases hc64_7 : (f1 (m0_0 p0 p1)) < (0 : Int32)
      · refine own_back (b := T3.setTop (mkF m 72 #[.val (.int p0), .val (.int p1), .val (.int (p1 &&& (3 : Int32))), .val (.int (m0_0 p0 p1)), .val (.int (f1 (m0_0 p0 p1))), .val (.long ((12 : Int64) + ((m0_0 p0 p1).toInt64))), .second] [(.int (1 : Int32))])) (fun t kt => ?_) ?_
        · show Steps p.tables e below (T3.setTop (mkF m 64 #[.val (.int p0), .val (.int p1), .val (.int (p1 &&& (3 : Int32))), .val (.int (m0_0 p0 p1)), .val (.int (f1 (m0_0 p0 p1))), .val (.long ((12 : Int64) + ((m0_0 p0 p1).toInt64))), .second] [(.int (f1 (m0_0 p0 p1)))])) _
          refine XS.ifNo X3.here hx rfl (hb hby at_64) rfl ((if0 _ _).trans (tlt hc64_7).2.1) ?_
          show Steps p.tables e below (T3.setTop (mkF m 67 #[.val (.int p0), .val (.int p1), .val (.int (p1 &&& (3 : Int32))), .val (.int (m0_0 p0 p1)), .val (.int (f1 (m0_0 p0 p1))), .val (.long ((12 : Int64) + ((m0_0 p0 p1).toInt64))), .second] [])) _
          refine XS.iconst X3.here hx rfl (hb hby at_67) ?_
          show Steps p.tables e below (T3.setTop (mkF m 68 #[.val (.int p0), .val (.int p1), .val (.int (p1 &&& (3 : Int32))), .val (.int (m0_0 p0 p1)), .val (.int (f1 (m0_0 p0 p1))), .val (.long ((12 : Int64) + ((m0_0 p0 p1).toInt64))), .second] [(.int (1 : Int32))])) _
          refine XS.goto X3.here hx rfl (pc0 := 68) (pc' := 72) rfl (hb hby at_68) (by decide) (by decide) ?_
          exact kt
        obtain ⟨fs, hr, hrun, hended, hW, hsame⟩ := X3.leave (v := some (.int (1 : Int32))) (fun h => by rw [Bd.returns] at h; cases h)
        refine ⟨_, _, ?_, hrun, hended, _, _, rfl, ?_, ⟨_, rfl⟩, hW, hsame.mono (by decide) (by decide)⟩
        · show Steps p.tables e below (T3.setTop (mkF m 72 #[.val (.int p0), .val (.int p1), .val (.int (p1 &&& (3 : Int32))), .val (.int (m0_0 p0 p1)), .val (.int (f1 (m0_0 p0 p1))), .val (.long ((12 : Int64) + ((m0_0 p0 p1).toInt64))), .second] [(.int (1 : Int32))])) _
          exact retN X3 hx (t := .boolean) Bd.returns (by simp) (hb hby at_72) hr
        · show Q0 Z p0 p1 h0 n0 _ T3.heap _
          rw [e3]
          exact ⟨by rw [show f0 p0 p1 = (1 : Int32) from by unfold f0; rw [if_neg hc50_4, if_pos hc59_6, if_pos hc64_7]], N3⟩
      · refine own_back (b := T3.setTop (mkF m 72 #[.val (.int p0), .val (.int p1), .val (.int (p1 &&& (3 : Int32))), .val (.int (m0_0 p0 p1)), .val (.int (f1 (m0_0 p0 p1))), .val (.long ((12 : Int64) + ((m0_0 p0 p1).toInt64))), .second] [(.int (0 : Int32))])) (fun t kt => ?_) ?_
        · show Steps p.tables e below (T3.setTop (mkF m 64 #[.val (.int p0), .val (.int p1), .val (.int (p1 &&& (3 : Int32))), .val (.int (m0_0 p0 p1)), .val (.int (f1 (m0_0 p0 p1))), .val (.long ((12 : Int64) + ((m0_0 p0 p1).toInt64))), .second] [(.int (f1 (m0_0 p0 p1)))])) _
          refine XS.ifYes X3.here hx rfl (pc0 := 64) (pc' := 71) rfl (hb hby at_64) rfl ((if0 _ _).trans (flt hc64_7).2.1) (by decide) (by decide) ?_
          show Steps p.tables e below (T3.setTop (mkF m 71 #[.val (.int p0), .val (.int p1), .val (.int (p1 &&& (3 : Int32))), .val (.int (m0_0 p0 p1)), .val (.int (f1 (m0_0 p0 p1))), .val (.long ((12 : Int64) + ((m0_0 p0 p1).toInt64))), .second] [])) _
          refine XS.iconst X3.here hx rfl (hb hby at_71) ?_
          exact kt
        obtain ⟨fs, hr, hrun, hended, hW, hsame⟩ := X3.leave (v := some (.int (0 : Int32))) (fun h => by rw [Bd.returns] at h; cases h)
        refine ⟨_, _, ?_, hrun, hended, _, _, rfl, ?_, ⟨_, rfl⟩, hW, hsame.mono (by decide) (by decide)⟩
        · show Steps p.tables e below (T3.setTop (mkF m 72 #[.val (.int p0), .val (.int p1), .val (.int (p1 &&& (3 : Int32))), .val (.int (m0_0 p0 p1)), .val (.int (f1 (m0_0 p0 p1))), .val (.long ((12 : Int64) + ((m0_0 p0 p1).toInt64))), .second] [(.int (0 : Int32))])) _
          exact retN X3 hx (t := .boolean) Bd.returns (by simp) (hb hby at_72) hr
        · show Q0 Z p0 p1 h0 n0 _ T3.heap _
          rw [e3]
          exact ⟨by rw [show f0 p0 p1 = (0 : Int32) from by unfold f0; rw [if_neg hc50_4, if_pos hc59_6, if_neg hc64_7]], N3⟩
    · refine own_back (b := T3.setTop (mkF m 79 #[.val (.int p0), .val (.int p1), .val (.int (p1 &&& (3 : Int32))), .val (.int (m0_0 p0 p1)), .val (.int (f1 (m0_0 p0 p1))), .val (.long ((12 : Int64) + ((m0_0 p0 p1).toInt64))), .second] [(.int (lcmpW ((f1 (m0_0 p0 p1)).toInt64) ((12 : Int64) + ((m0_0 p0 p1).toInt64))))])) (fun t kt => ?_) ?_
      · show Steps p.tables e below (T3.setTop (mkF m 59 #[.val (.int p0), .val (.int p1), .val (.int (p1 &&& (3 : Int32))), .val (.int (m0_0 p0 p1)), .val (.int (f1 (m0_0 p0 p1))), .val (.long ((12 : Int64) + ((m0_0 p0 p1).toInt64))), .second] [(.int (lcmpW ((12 : Int64) + ((m0_0 p0 p1).toInt64)) (2147483647 : Int64)))])) _
        refine XS.ifYes X3.here hx rfl (pc0 := 59) (pc' := 73) rfl (hb hby at_59) rfl ((if0 _ _).trans (flt (fun q => hc59_6 ((lw_gt _ _).mp q))).2.2.2) (by decide) (by decide) ?_
        show Steps p.tables e below (T3.setTop (mkF m 73 #[.val (.int p0), .val (.int p1), .val (.int (p1 &&& (3 : Int32))), .val (.int (m0_0 p0 p1)), .val (.int (f1 (m0_0 p0 p1))), .val (.long ((12 : Int64) + ((m0_0 p0 p1).toInt64))), .second] [])) _
        refine XS.iload X3.here hx rfl (hb hby at_73) rfl ?_
        show Steps p.tables e below (T3.setTop (mkF m 75 #[.val (.int p0), .val (.int p1), .val (.int (p1 &&& (3 : Int32))), .val (.int (m0_0 p0 p1)), .val (.int (f1 (m0_0 p0 p1))), .val (.long ((12 : Int64) + ((m0_0 p0 p1).toInt64))), .second] [(.int (f1 (m0_0 p0 p1)))])) _
        refine XS.i2l X3.here hx rfl (hb hby at_75) rfl ?_
        show Steps p.tables e below (T3.setTop (mkF m 76 #[.val (.int p0), .val (.int p1), .val (.int (p1 &&& (3 : Int32))), .val (.int (m0_0 p0 p1)), .val (.int (f1 (m0_0 p0 p1))), .val (.long ((12 : Int64) + ((m0_0 p0 p1).toInt64))), .second] [(.long ((f1 (m0_0 p0 p1)).toInt64))])) _
        refine XS.lload X3.here hx rfl (hb hby at_76) rfl ?_
        show Steps p.tables e below (T3.setTop (mkF m 78 #[.val (.int p0), .val (.int p1), .val (.int (p1 &&& (3 : Int32))), .val (.int (m0_0 p0 p1)), .val (.int (f1 (m0_0 p0 p1))), .val (.long ((12 : Int64) + ((m0_0 p0 p1).toInt64))), .second] [(.long ((12 : Int64) + ((m0_0 p0 p1).toInt64))), (.long ((f1 (m0_0 p0 p1)).toInt64))])) _
        refine XS.lcmp X3.here hx rfl (hb hby at_78) rfl ?_
        exact kt
      by_cases hc79_8 : ((f1 (m0_0 p0 p1)).toInt64) = ((12 : Int64) + ((m0_0 p0 p1).toInt64))
      · refine own_back (b := T3.setTop (mkF m 87 #[.val (.int p0), .val (.int p1), .val (.int (p1 &&& (3 : Int32))), .val (.int (m0_0 p0 p1)), .val (.int (f1 (m0_0 p0 p1))), .val (.long ((12 : Int64) + ((m0_0 p0 p1).toInt64))), .second] [(.int (1 : Int32))])) (fun t kt => ?_) ?_
        · show Steps p.tables e below (T3.setTop (mkF m 79 #[.val (.int p0), .val (.int p1), .val (.int (p1 &&& (3 : Int32))), .val (.int (m0_0 p0 p1)), .val (.int (f1 (m0_0 p0 p1))), .val (.long ((12 : Int64) + ((m0_0 p0 p1).toInt64))), .second] [(.int (lcmpW ((f1 (m0_0 p0 p1)).toInt64) ((12 : Int64) + ((m0_0 p0 p1).toInt64))))])) _
          refine XS.ifNo X3.here hx rfl (hb hby at_79) rfl ((if0 _ _).trans (teq ((lw_eq _ _).mpr hc79_8)).2) ?_
          show Steps p.tables e below (T3.setTop (mkF m 82 #[.val (.int p0), .val (.int p1), .val (.int (p1 &&& (3 : Int32))), .val (.int (m0_0 p0 p1)), .val (.int (f1 (m0_0 p0 p1))), .val (.long ((12 : Int64) + ((m0_0 p0 p1).toInt64))), .second] [])) _
          refine XS.iconst X3.here hx rfl (hb hby at_82) ?_
          show Steps p.tables e below (T3.setTop (mkF m 83 #[.val (.int p0), .val (.int p1), .val (.int (p1 &&& (3 : Int32))), .val (.int (m0_0 p0 p1)), .val (.int (f1 (m0_0 p0 p1))), .val (.long ((12 : Int64) + ((m0_0 p0 p1).toInt64))), .second] [(.int (1 : Int32))])) _
          refine XS.goto X3.here hx rfl (pc0 := 83) (pc' := 87) rfl (hb hby at_83) (by decide) (by decide) ?_
          exact kt
        obtain ⟨fs, hr, hrun, hended, hW, hsame⟩ := X3.leave (v := some (.int (1 : Int32))) (fun h => by rw [Bd.returns] at h; cases h)
        refine ⟨_, _, ?_, hrun, hended, _, _, rfl, ?_, ⟨_, rfl⟩, hW, hsame.mono (by decide) (by decide)⟩
        · show Steps p.tables e below (T3.setTop (mkF m 87 #[.val (.int p0), .val (.int p1), .val (.int (p1 &&& (3 : Int32))), .val (.int (m0_0 p0 p1)), .val (.int (f1 (m0_0 p0 p1))), .val (.long ((12 : Int64) + ((m0_0 p0 p1).toInt64))), .second] [(.int (1 : Int32))])) _
          exact retN X3 hx (t := .boolean) Bd.returns (by simp) (hb hby at_87) hr
        · show Q0 Z p0 p1 h0 n0 _ T3.heap _
          rw [e3]
          exact ⟨by rw [show f0 p0 p1 = (1 : Int32) from by unfold f0; rw [if_neg hc50_4, if_neg hc59_6, if_pos hc79_8]], N3⟩
      · refine own_back (b := T3.setTop (mkF m 87 #[.val (.int p0), .val (.int p1), .val (.int (p1 &&& (3 : Int32))), .val (.int (m0_0 p0 p1)), .val (.int (f1 (m0_0 p0 p1))), .val (.long ((12 : Int64) + ((m0_0 p0 p1).toInt64))), .second] [(.int (0 : Int32))])) (fun t kt => ?_) ?_
        · show Steps p.tables e below (T3.setTop (mkF m 79 #[.val (.int p0), .val (.int p1), .val (.int (p1 &&& (3 : Int32))), .val (.int (m0_0 p0 p1)), .val (.int (f1 (m0_0 p0 p1))), .val (.long ((12 : Int64) + ((m0_0 p0 p1).toInt64))), .second] [(.int (lcmpW ((f1 (m0_0 p0 p1)).toInt64) ((12 : Int64) + ((m0_0 p0 p1).toInt64))))])) _
          refine XS.ifYes X3.here hx rfl (pc0 := 79) (pc' := 86) rfl (hb hby at_79) rfl ((if0 _ _).trans (feq (fun q => hc79_8 ((lw_eq _ _).mp q))).2) (by decide) (by decide) ?_
          show Steps p.tables e below (T3.setTop (mkF m 86 #[.val (.int p0), .val (.int p1), .val (.int (p1 &&& (3 : Int32))), .val (.int (m0_0 p0 p1)), .val (.int (f1 (m0_0 p0 p1))), .val (.long ((12 : Int64) + ((m0_0 p0 p1).toInt64))), .second] [])) _
          refine XS.iconst X3.here hx rfl (hb hby at_86) ?_
          exact kt
        obtain ⟨fs, hr, hrun, hended, hW, hsame⟩ := X3.leave (v := some (.int (0 : Int32))) (fun h => by rw [Bd.returns] at h; cases h)
        refine ⟨_, _, ?_, hrun, hended, _, _, rfl, ?_, ⟨_, rfl⟩, hW, hsame.mono (by decide) (by decide)⟩
        · show Steps p.tables e below (T3.setTop (mkF m 87 #[.val (.int p0), .val (.int p1), .val (.int (p1 &&& (3 : Int32))), .val (.int (m0_0 p0 p1)), .val (.int (f1 (m0_0 p0 p1))), .val (.long ((12 : Int64) + ((m0_0 p0 p1).toInt64))), .second] [(.int (0 : Int32))])) _
          exact retN X3 hx (t := .boolean) Bd.returns (by simp) (hb hby at_87) hr
        · show Q0 Z p0 p1 h0 n0 _ T3.heap _
          rw [e3]
          exact ⟨by rw [show f0 p0 p1 = (0 : Int32) from by unfold f0; rw [if_neg hc50_4, if_neg hc59_6, if_neg hc79_8]], N3⟩
theorem own_law (x y : Int32) : f0 x y = 1 := by
  unfold f0
  generalize m0_0 x y = b
  have hr := rng32 b
  have k0 : (0 : Int32).toInt = 0 := rfl
  have km : (2147483635 : Int32).toInt = 2147483635 := rfl
  have kM : (2147483647 : Int64).toInt = 2147483647 := rfl
  have hs : ((12 : Int64) + b.toInt64).toInt = 12 + b.toInt := by
    have h := c_ladd (12 : Int64) b.toInt64
    have h2 := c_i2l b
    have h3 := rng64 ((12 : Int64) + b.toInt64)
    have k12 : (12 : Int64).toInt = 12 := rfl
    omega
  have hi : b.toInt ≤ 2147483635 → ((12 : Int32) + b).toInt = 12 + b.toInt ∨ b.toInt < 0 := fun q => by
    have h := c_iadd (12 : Int32) b
    have h3 := rng32 ((12 : Int32) + b)
    have k12 : (12 : Int32).toInt = 12 := rfl
    omega
  have kn : ((-1 : Int32) < (0 : Int32)) := by decide
  by_cases h1 : b < (0 : Int32)
  · have : f1 b = (-1 : Int32) := by unfold f1; rw [if_pos h1]
    rw [if_pos h1, this, if_pos kn]
  · have g1 : ¬ b.toInt < 0 := by rw [Int32.lt_iff_toInt_lt, k0] at h1; exact h1
    rw [if_neg h1]
    by_cases h2 : (2147483635 : Int32) < b
    · have g2 : 2147483635 < b.toInt := by rw [Int32.lt_iff_toInt_lt, km] at h2; exact h2
      have : f1 b = (-1 : Int32) := by unfold f1; rw [if_neg h1, if_pos h2]
      have h4 : (2147483647 : Int64) < (12 : Int64) + b.toInt64 := by rw [Int64.lt_iff_toInt_lt, hs, kM]; omega
      rw [if_pos h4, this, if_pos kn]
    · have g2 : ¬ 2147483635 < b.toInt := by rw [Int32.lt_iff_toInt_lt, km] at h2; exact h2
      have : f1 b = (12 : Int32) + b := by unfold f1; rw [if_neg h1, if_neg h2]
      have h4 : ¬ (2147483647 : Int64) < (12 : Int64) + b.toInt64 := by rw [Int64.lt_iff_toInt_lt, hs, kM]; omega
      rw [if_neg h4, this, if_pos]
      apply Int64.toInt_inj.mp
      rw [hs, c_i2l]
      have := hi (by omega)
      omega
set_option maxRecDepth 65536 in
set_option maxHeartbeats 40000000 in
theorem comes_1 {Post : Tables → Env → Array Value → State → Outcome → State → Prop} (hpost : ∀ tb e args s v u, (limb_1_1.after args s (.returned v) u = true ∧ limb_1_2.after args s (.returned v) u = true ∧ True) → FrameEnd s (.returned v) u (Jvm.fieldLocs frame_1_writes args s ++ Jvm.arrayLocs frame_1_arrays args s ++ Jvm.staticLocs frame_1_statics s) 0 0 → Post tb e args s (.returned v) u) :
    ArmFor flags0 classFile x code maxLocals ret World_1 tables_1 room_1 Calls_1 rest_1 Pre_1 Post := by
  intro l hfl _ _ p e ha hc hk s m args below hf hA hF happ hP
  obtain ⟨hcalls, hrest, hpre⟩ := hP
  obtain ⟨-, -, -, hnamed, -, -, -, hat⟩ := (Spec.applies_iff hf).mp happ
  obtain ⟨hg, hn⟩ := and_e (Cond.before_iff.mp (show (Jvm.Cond.and given_1 narrow_1).before args s = true from hpre))
  obtain ⟨gc, gr0⟩ := and_e hg
  obtain ⟨ga0, gr1⟩ := and_e gr0
  obtain ⟨w0, w1, rfl⟩ : ∃ w0 w1 : Value, args = #[w0, w1] := by
    have hs : args.size = 2 := by simpa [Cond.value, given_1] using gc
    obtain ⟨L⟩ := args
    match L, hs with
    | [w0, w1], _ => exact ⟨w0, w1, rfl⟩
  have hw := fun d (hd : d ∈ tables_1) => atoms_spec (ws := Jvm.Cond.code x code maxLocals ret :: tables_1) hat d (List.mem_cons_of_mem _ hd)
  have hfit : Fit s := fun {y c} hc i hi => by
    obtain ⟨ha, rfl⟩ := Array.getElem?_eq_some_iff.mp hc
    have q := List.all_eq_true.mp ((Array.all_eq_true_iff_forall_mem.mp hF) _ (Array.getElem_mem ha)) i (List.mem_range.mpr hi)
    simpa [Array.getElem?_eq_getElem hi] using q
  obtain ⟨i0, ei0⟩ := is_v ga0
  obtain rfl : w0 = (.int i0) := Option.some.inj ei0
  obtain ⟨i1, ei1⟩ := is_v gr1
  obtain rfl : w1 = (.int i1) := Option.some.inj ei1
  obtain ⟨n, o, h1, h2, h3, _, L, rfl, ⟨rfl, N⟩, hq⟩ := rm0 l s _ hw tables_1 i0 i1 s.heap s.heap.size (Nat.le_refl _)  p e ha hc hk s m _ below hf ((Spec.applies_iff_loose hf).mp happ).1 ⟨rfl, State.Warmed39.refl s, rfl⟩ trivial
  refine ⟨n, _, h1, h2, h3, hpost _ _ _ _ _ _ ⟨Cond.after_iff.mpr rfl, Cond.after_iff.mpr (eq_i res_at (Term.int_eval (1)) (congrArg Value.int (own_law i0 i1))), trivial⟩ ⟨hq.1, hq.2.1, (hq.2.2.sift fun y hy => Or.inr (N y hy)).mono (by decide) (by decide)⟩⟩
theorem main_1_1 : Claimed_1_1 := comes_1 fun _ _ _ _ _ _ h hF => ⟨h.1, hF⟩
theorem main_1_2 : Claimed_1_2 := comes_1 fun _ _ _ _ _ _ h hF => ⟨h.2.1, hF⟩
end Jvm.Pilot.@@N@@
namespace Jvm.Pilot.@@N@@
open Jvm Jvm.ClassFile Sem Op Lib Jvm.Free Jvm.Stand Jvm.Pilot.@@N@@.Jvm.D
/-! MADE BY PROGRAM (witnessworld.py) out of the Statement's table words and the real class files: 9 classes; the members and pool entries that the words name. The judged class is class 1, her method 1. -/
namespace start1
open Jvm.ClassFile
def u (s : String) : CpInfo := .utf8 (stringToUtf16 s)
/-- a pool by its gaps: so many unusable entries, then the entry; so many at the end -/
def gap : Nat → List CpInfo → List CpInfo
  | 0, r => r
  | n + 1, r => .unusable :: gap n r
def poolList (es : List (Nat × CpInfo)) (last : Nat) : List CpInfo := es.foldr (fun e r => gap e.1 (e.2 :: r)) (gap last [])
def pool (es : List (Nat × CpInfo)) (last : Nat) : Array CpInfo := ⟨poolList es last⟩
def fileOf (pool : Array CpInfo) (this : Nat) (attrs : Array Attribute := #[]) (ms : Array MethodInfo := #[]) (fl : Nat := 33) (sup : Nat := 0) (ifs : Array Nat := #[]) (fds : Array FieldInfo := #[]) : ClassFile where
  minorVersion := 0
  majorVersion := 65
  constantPool := pool
  accessFlags := fl
  thisClass := this
  superClass := sup
  interfaces := ifs
  fields := fds
  methods := ms
  attributes := attrs
def plain (name : String) (sup : Option ClassId) : Class where
  name := name
  kind := .ordinary
  loader := none
  accessFlags := 33
  super := sup
  interfaces := #[]
  cf := none
  fields := #[]
  methods := #[]
  instanceTypes := #[]
  staticTypes := #[]
  resolved := #[]
  callSites := []
  init := .initialized
  statics := none
  mirror := none

def pool0 : Array CpInfo := pool [(5, u "<init>"), (0, u "()V"), (1, .class_ 10), (1, u "java/lang/Object")] 113

def k0m0 : Method := { name := "<init>", desc := "()V", sig := { parameters := [], returnType := none }, accessFlags := 1, code := none }
/-- java/lang/Object -/
def k0 : Class := { plain "java/lang/Object" none with
  accessFlags := 33
  interfaces := #[]
  cf := some (fileOf pool0 8 #[] #[{ accessFlags := 1, nameIndex := 5, descriptorIndex := 6, attributes := #[] }] 33 0 #[] #[])
  fields := #[]
  methods := #[k0m0]
  instanceTypes := #[]
  staticTypes := #[]
  resolved := Array.replicate 124 none
  statics := none }

def pool1 : Array CpInfo := pool [(2, .class_ 4), (1, u "java/lang/Object"), (0, u "<init>"), (0, u "()V"), (2, .integer 2147483633), (0, .methodref 11 12), (0, .class_ 13), (0, .nameAndType 14 15), (0, u "com/example/keptlog/keptlog/log/RecordBatch"), (0, u "wholeSize"), (0, u "(I)I"), (0, .long 12), (1, .long 2147483647), (1, .class_ 21), (0, u "com/example/keptlog/keptlog/log/RecordBatchWholeSizePinLaw"), (2, u "law"), (0, u "(II)Z")] 3

def k1m0 : Method := { name := "<init>", desc := "()V", sig := { parameters := [], returnType := none }, accessFlags := 1, code := none }
def k1c1 : Code := { maxStack := 4, maxLocals := 7, code := code, exceptionTable := #[], attributes := #[] }
def k1m1 : Method := { name := "law", desc := "(II)Z", sig := { parameters := [.int, .int], returnType := some .boolean }, accessFlags := 9, code := some k1c1 }
/-- com/example/keptlog/keptlog/log/RecordBatchWholeSizePinLaw -/
def k1 : Class := { plain "com/example/keptlog/keptlog/log/RecordBatchWholeSizePinLaw" (some 0) with
  accessFlags := 49
  interfaces := #[]
  cf := some (fileOf pool1 20 #[] #[{ accessFlags := 1, nameIndex := 5, descriptorIndex := 6, attributes := #[] }, { accessFlags := 9, nameIndex := 24, descriptorIndex := 25, attributes := #[] }] 49 2 #[] #[])
  fields := #[]
  methods := #[k1m0, k1m1]
  instanceTypes := #[]
  staticTypes := #[]
  resolved := Array.replicate 29 none
  statics := none }

def pool2 : Array CpInfo := pool [(1, .class_ 2), (0, u "com/example/keptlog/keptlog/log/RecordBatch"), (1, .class_ 6), (1, u "java/lang/Object"), (4, u "bytes"), (0, u "Ljava/nio/ByteBuffer;"), (36, u "(I)I"), (2, u "wholeSize"), (23, .integer 2147483635), (180, u "LOG_OVERHEAD"), (0, u "I"), (2, u "HEADER_BYTES"), (1, u "MAGIC"), (0, u "B"), (1, u "BATCH_LENGTH_OFFSET"), (1, u "PARTITION_LEADER_EPOCH_OFFSET"), (0, u "LAST_OFFSET_DELTA_OFFSET"), (1, u "MAX_TIMESTAMP_OFFSET"), (1, u "RECORD_COUNT_OFFSET"), (1, u "MAGIC_OFFSET"), (1, u "CRC_OFFSET"), (1, u "ATTRIBUTES_OFFSET"), (1, u "CRC_FROM"), (0, u "CODEC_BITS")] 62

def k2c0 : Code := { maxStack := 2, maxLocals := 1, code := prog_25_method_3_code, exceptionTable := #[], attributes := #[] }
def k2m0 : Method := { name := "wholeSize", desc := "(I)I", sig := { parameters := [.int], returnType := some .int }, accessFlags := 8, code := some k2c0 }
/-- com/example/keptlog/keptlog/log/RecordBatch -/
def k2 : Class := { plain "com/example/keptlog/keptlog/log/RecordBatch" (some 0) with
  accessFlags := 33
  interfaces := #[]
  cf := some (fileOf pool2 1 #[] #[{ accessFlags := 8, nameIndex := 52, descriptorIndex := 49, attributes := #[] }] 33 4 #[] #[{ accessFlags := 25, nameIndex := 257, descriptorIndex := 258, attributes := #[] }, { accessFlags := 25, nameIndex := 261, descriptorIndex := 258, attributes := #[] }, { accessFlags := 25, nameIndex := 263, descriptorIndex := 264, attributes := #[] }, { accessFlags := 24, nameIndex := 266, descriptorIndex := 258, attributes := #[] }, { accessFlags := 24, nameIndex := 268, descriptorIndex := 258, attributes := #[] }, { accessFlags := 24, nameIndex := 269, descriptorIndex := 258, attributes := #[] }, { accessFlags := 24, nameIndex := 271, descriptorIndex := 258, attributes := #[] }, { accessFlags := 26, nameIndex := 273, descriptorIndex := 258, attributes := #[] }, { accessFlags := 26, nameIndex := 275, descriptorIndex := 258, attributes := #[] }, { accessFlags := 26, nameIndex := 277, descriptorIndex := 258, attributes := #[] }, { accessFlags := 26, nameIndex := 279, descriptorIndex := 258, attributes := #[] }, { accessFlags := 24, nameIndex := 281, descriptorIndex := 258, attributes := #[] }, { accessFlags := 26, nameIndex := 282, descriptorIndex := 258, attributes := #[] }, { accessFlags := 18, nameIndex := 11, descriptorIndex := 12, attributes := #[] }])
  fields := #[{ name := "LOG_OVERHEAD", type := .int, accessFlags := 25, slot := 0, constantValue := 0 }, { name := "HEADER_BYTES", type := .int, accessFlags := 25, slot := 1, constantValue := 0 }, { name := "MAGIC", type := .byte, accessFlags := 25, slot := 2, constantValue := 0 }, { name := "BATCH_LENGTH_OFFSET", type := .int, accessFlags := 24, slot := 3, constantValue := 0 }, { name := "PARTITION_LEADER_EPOCH_OFFSET", type := .int, accessFlags := 24, slot := 4, constantValue := 0 }, { name := "LAST_OFFSET_DELTA_OFFSET", type := .int, accessFlags := 24, slot := 5, constantValue := 0 }, { name := "MAX_TIMESTAMP_OFFSET", type := .int, accessFlags := 24, slot := 6, constantValue := 0 }, { name := "RECORD_COUNT_OFFSET", type := .int, accessFlags := 26, slot := 7, constantValue := 0 }, { name := "MAGIC_OFFSET", type := .int, accessFlags := 26, slot := 8, constantValue := 0 }, { name := "CRC_OFFSET", type := .int, accessFlags := 26, slot := 9, constantValue := 0 }, { name := "ATTRIBUTES_OFFSET", type := .int, accessFlags := 26, slot := 10, constantValue := 0 }, { name := "CRC_FROM", type := .int, accessFlags := 24, slot := 11, constantValue := 0 }, { name := "CODEC_BITS", type := .int, accessFlags := 26, slot := 12, constantValue := 0 }, { name := "bytes", type := (.object "java/nio/ByteBuffer"), accessFlags := 18, slot := 0, constantValue := 0 }]
  methods := #[k2m0]
  instanceTypes := #[(.object "java/nio/ByteBuffer")]
  staticTypes := #[.int, .int, .byte, .int, .int, .int, .int, .int, .int, .int, .int, .int, .int]
  resolved := Array.replicate 345 none
  statics := none }

def pool3 : Array CpInfo := pool [(1, u "java/lang/Cloneable"), (0, .class_ 1), (0, u "java/lang/Object"), (0, .class_ 3)] 3

/-- java/lang/Cloneable -/
def k3 : Class := { plain "java/lang/Cloneable" (some 0) with
  accessFlags := 1537
  interfaces := #[]
  cf := some (fileOf pool3 2 #[] #[] 1537 4 #[] #[])
  fields := #[]
  methods := #[]
  instanceTypes := #[]
  staticTypes := #[]
  resolved := Array.replicate 8 none
  statics := none }

def pool4 : Array CpInfo := pool [(1, u "java/io/Serializable"), (0, .class_ 1), (0, u "java/lang/Object"), (0, .class_ 3)] 3

/-- java/io/Serializable -/
def k4 : Class := { plain "java/io/Serializable" (some 0) with
  accessFlags := 1537
  interfaces := #[]
  cf := some (fileOf pool4 2 #[] #[] 1537 4 #[] #[])
  fields := #[]
  methods := #[]
  instanceTypes := #[]
  staticTypes := #[]
  resolved := Array.replicate 8 none
  statics := none }

/-- the primitive byte -/
def k5 : Class := { plain "byte" none with kind := .primitive 'B', accessFlags := 0x411 }
/-- [B -/
def k6 : Class := { plain "[B" (some 0) with kind := .array 5 .byte, interfaces := #[3, 4], accessFlags := 1041 }

/-- the primitive int -/
def k7 : Class := { plain "int" none with kind := .primitive 'I', accessFlags := 0x411 }
/-- [I -/
def k8 : Class := { plain "[I" (some 0) with kind := .array 7 .int, interfaces := #[3, 4], accessFlags := 1041 }

def heap : Heap := #[]
def classes : Array Class := #[k0, k1, k2, k3, k4, k5, k6, k7, k8]
def interned : List (Array UInt16 × Addr) := []
def slotsUsed : Nat := 0
def theMethod : MethodId := ⟨1, 1⟩
def args0 : Array Value := #[.int 10, .int 1]
def aboutOver (below : List Frame) : State where
  vm := { classes := classes, interned := interned.toArray }
  heap := heap
  slotsUsed := slotsUsed
  threads := #[{ frames := .invoking theMethod args0 :: below }]
def below0 : List Frame := [.native { method := ⟨0, 0⟩, args := #[] }]
def about1 : State := aboutOver below0
def p0 : Program := .bare "" "" ""
def e0 : Env := launch0.env 0 0 0
theorem w_frames : about1.frames = Frame.invoking theMethod args0 :: below0 := rfl
set_option maxRecDepth 65536 in
theorem w_args : argsFit about1.vm theMethod args0 = true := by decide +kernel
set_option maxRecDepth 65536 in
theorem w_heap : heapFits about1 = true := by decide +kernel
set_option maxRecDepth 65536 in
theorem w_runnable : about1.curStatus? = some .runnable := by decide +kernel
set_option maxRecDepth 65536 in
theorem w_alone : about1.alone = true := by decide +kernel
set_option maxRecDepth 65536 in
theorem w_named : about1.methodNamed? x = some theMethod := by decide +kernel
set_option maxRecDepth 65536 in
theorem w_hears : about1.hears theMethod below0 = true := by decide +kernel
set_option maxRecDepth 65536 in
theorem w_ripe : about1.ripe theMethod args0 below0 = true := by decide +kernel
theorem w_running : about1.status = .running := rfl
set_option maxRecDepth 65536 in
theorem w_room : about1.hasRoom e0.platform room_1 = true :=
  launch0.hasRoom_least _ room_1 (by decide +kernel) (by decide +kernel) (by decide +kernel) (by decide +kernel) (by decide +kernel) (by decide +kernel)
theorem allAtoms_all (ts : List Jvm.Cond) (a : Array Jvm.Value) (st : Jvm.State) : (allAtoms ts).before a st = ts.all (fun c => c.before a st) := by
  induction ts with
  | nil => rfl
  | cons c t ih =>
    show (Jvm.Cond.and c (allAtoms t)).before a st = _
    rw [Jvm.Cond.before_and, ih, List.all_cons]
def words1 : List Jvm.Cond := Jvm.Cond.code x code maxLocals ret :: tables_1
/-- a 'code' word, met by the world's own term for the bytes: nothing is compared byte by byte -/
theorem code_word {y : MethodName} {bytes : ByteArray} {mx : Nat} {rt : Option FieldType} {a : Array Value} {s : State} {m : MethodId} {meth : Method} {c : Code} (h1 : s.methodNamed? y = some m) (h2 : s.vm.method? m = some meth) (h3 : meth.code = some c) (h4 : c.code = bytes)
    (h5 : (c.maxLocals == mx && c.exceptionTable.isEmpty && decide (c.maxStack ≤ mostOperands) && decide (meth.sig.returnType = rt) && !meth.locks && decide (parseMethodDescriptor y.desc = some meth.sig)) = true) : (Jvm.Cond.code y bytes mx rt).before a s = true := by
  simp only [Bool.and_eq_true, beq_iff_eq, Bool.not_eq_true', decide_eq_true_eq] at h5
  obtain ⟨⟨⟨⟨⟨g1, g2⟩, g3⟩, g4⟩, g5⟩, g6⟩ := h5
  simp [Cond.before, Cond.holds, Cond.value, h1, h2, h3, h4, g1, g2, g3, g4, g5, g6]
def isCode : Jvm.Cond → Bool
  | .code _ _ _ _ => true
  | _ => false
theorem all_split {L : List Jvm.Cond} {P : Jvm.Cond → Bool} (h1 : L.all (fun c => isCode c || P c) = true) (h2 : ∀ c ∈ L.filter isCode, P c = true) : L.all P = true := by
  refine List.all_eq_true.mpr fun c hc => ?_
  have h := List.all_eq_true.mp h1 c hc
  rcases Bool.eq_false_or_eq_true (isCode c) with hi | hi
  · exact h2 c (List.mem_filter.mpr ⟨hc, hi⟩)
  · simpa [hi] using h
set_option maxRecDepth 65536 in
theorem w_c0 : (Jvm.Cond.code x code maxLocals ret).before args0 about1 = true := code_word (m := ⟨1, 1⟩) (meth := k1m1) (c := k1c1) (by decide +kernel) rfl rfl rfl (by decide +kernel)
set_option maxRecDepth 65536 in
theorem w_c1 : (Jvm.Cond.code ({ cls := "com/example/keptlog/keptlog/log/RecordBatch", name := "wholeSize", desc := "(I)I" } : Jvm.MethodName) prog_25_method_3_code (1 : Nat) (Option.some Jvm.ClassFile.FieldType.int)).before args0 about1 = true := code_word (m := ⟨2, 0⟩) (meth := k2m0) (c := k2c0) (by decide +kernel) rfl rfl rfl (by decide +kernel)
def codes1 : List Jvm.Cond := [Jvm.Cond.code x code maxLocals ret, Jvm.Cond.code ({ cls := "com/example/keptlog/keptlog/log/RecordBatch", name := "wholeSize", desc := "(I)I" } : Jvm.MethodName) prog_25_method_3_code (1 : Nat) (Option.some Jvm.ClassFile.FieldType.int)]
set_option maxRecDepth 65536 in
theorem codes_eq : words1.filter isCode = codes1 := rfl
theorem w_codes : ∀ c ∈ words1.filter isCode, c.before args0 about1 = true := by
  rw [codes_eq]
  intro c hc
  simp only [codes1, List.mem_cons, List.not_mem_nil, or_false] at hc
  rcases hc with rfl | rfl
  · exact w_c0
  · exact w_c1
set_option maxRecDepth 65536 in
theorem w_t1 : words1.all (fun c => isCode c || c.before args0 about1) = true := by decide +kernel
theorem w_tables : (allAtoms (Jvm.Cond.code x code maxLocals ret :: tables_1)).before args0 about1 = true := by
  rw [allAtoms_all]
  show words1.all (fun c => c.before args0 about1) = true
  refine all_split ?_ w_codes
  rw [w_t1]
set_option maxRecDepth 65536 in
theorem w_case : (Jvm.Cond.and given_1 narrow_1).before args0 about1 = true := by decide +kernel
theorem w_applies : (headSpec (Jvm.Cond.code x code maxLocals ret :: tables_1) room_1).applies x e0.platform about1 = true :=
  (Spec.applies_iff w_frames).mpr ⟨w_running, w_runnable, w_alone, w_named, w_hears, w_ripe, w_room, w_tables⟩
theorem atStart : AtStart classFile x code maxLocals ret World_1 tables_1 room_1 Calls_1 rest_1 Pre_1 launch0 p0 e0 about1 theMethod args0 below0 :=
  ⟨lists_1, trivial, launch0.admits_env _ _ _, launch0.least_env, fairChoices_fair.cas, fairChoices_fair.clock, w_frames, w_args, w_heap, w_applies, trivial, trivial, w_case⟩
end start1
theorem witness_1 : WitnessClaimed_1 := ⟨start1.p0, start1.e0, start1.about1, start1.theMethod, start1.args0, start1.below0, start1.atStart⟩
end Jvm.Pilot.@@N@@
