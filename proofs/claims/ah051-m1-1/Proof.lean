import JvmDerived
import JvmDerived.Pilot.@@N@@Statement
import JvmDerived.Pilot.@@N@@Code
set_option linter.unusedVariables false
set_option linter.unusedSimpArgs false

namespace Jvm.RoadKit
open Sem ClassFile Op Lib Jvm.Stand Jvm.Free Jvm.LawKit
section New
variable {p : Program} {l : Launch} {e : Env} {R : Room} {s : State} {m : MethodId} {args : Array Value} {below : List Frame} {meth : Method} {c : Code} {T : State} {locs : List Loc} {cells slots : Nat}
theorem retI (X : Stand p l e R s m args below meth c T locs cells slots) (hx : p.tables.exec = Jvm.exec) {pc : Nat} {Ls : Array Slot} {z : Int32} {rest : List Value} (hret : meth.sig.returnType = some .int) (hd : decode c.code pc = .ok (.ireturn, 1)) {fs : List Frame}
    (hl : ∀ (f : JFrame) (acts : List Action), f.method = m → f.locked = none → f.entered = [] → (doReturn e (T.setTop f) acts (some (.int z))).1 = T.setFrames fs) : Steps p.tables e below (T.setTop (mkF m pc Ls (.int z :: rest))) (T.setFrames fs) :=
  retOut X hx hret rfl (Or.inl ⟨rfl, Or.inl rfl, z, rfl⟩) hd hl
theorem own_retL (X : Stand p l e R s m args below meth c T locs cells slots) (hx : p.tables.exec = Jvm.exec) {pc : Nat} {Ls : Array Slot} {z : Int64} {rest : List Value} (hret : meth.sig.returnType = some .long) (hd : decode c.code pc = .ok (.lreturn, 1)) {fs : List Frame}
    (hl : ∀ (f : JFrame) (acts : List Action), f.method = m → f.locked = none → f.entered = [] → (doReturn e (T.setTop f) acts (some (.long z))).1 = T.setFrames fs) : Steps p.tables e below (T.setTop (mkF m pc Ls (.long z :: rest))) (T.setFrames fs) :=
  retOut X hx hret rfl (Or.inr (Or.inl ⟨rfl, rfl, z, rfl⟩)) hd hl
theorem own_retA (X : Stand p l e R s m args below meth c T locs cells slots) (hx : p.tables.exec = Jvm.exec) {pc : Nat} {Ls : Array Slot} {w : Value} {t : FieldType} {rest : List Value} (hret : meth.sig.returnType = some t) (ht : t.isReference = true) (hw : w.isRef = true) (hd : decode c.code pc = .ok (.areturn, 1)) {fs : List Frame}
    (hl : ∀ (f : JFrame) (acts : List Action), f.method = m → f.locked = none → f.entered = [] → (doReturn e (T.setTop f) acts (some w)).1 = T.setFrames fs) : Steps p.tables e below (T.setTop (mkF m pc Ls (w :: rest))) (T.setFrames fs) :=
  retOut X hx hret (by cases t <;> first | (cases ht; done) | (cases w <;> first | rfl | cases hw)) (Or.inr (Or.inr (Or.inr (Or.inr ⟨rfl, ht, hw⟩)))) hd hl
theorem own_back {tb : Tables} {e : Env} {below : List Frame} {a b : State} {P : State → Outcome → Prop} (h : ∀ t, Steps tb e below b t → Steps tb e below a t) (k : ∃ t o, Steps tb e below b t ∧ P t o) : ∃ t o, Steps tb e below a t ∧ P t o := by
  obtain ⟨t, o, k1, k2⟩ := k
  exact ⟨t, o, h t k1, k2⟩
theorem own_sta_keep {Z : State} {h h' : Heap} {C n d : String} {v : Value} (F : Sta Z h C n d v) (K : Keep h h' []) : Sta Z h' C n d v := by
  obtain ⟨cf, i, k, f, st, cell, h1, h2, h3, h4, h5, r⟩ := F
  exact ⟨cf, i, k, f, st, cell, h1, h2, h3, h4, K.2.1 _ _ h5 nin0, r⟩
def ElA (Z : State) (h : Heap) (a : Addr) (ty : FieldType) (j : Int32) (v : Value) : Prop := ∃ c : Cell, Arr Z h a c ty ∧ ¬ (j < 0 ∨ c.slots.size ≤ j.toNatClampNeg) ∧ c.slots[j.toNatClampNeg]? = some v
theorem ElA.lt {Z : State} {h : Heap} {a : Addr} {ty : FieldType} {j : Int32} {v : Value} (F : ElA Z h a ty j v) : a < h.size := by obtain ⟨c, A, -⟩ := F; exact A.lt
theorem ElA.ext {Z : State} {h h' : Heap} {a : Addr} {ty : FieldType} {j : Int32} {v : Value} (F : ElA Z h a ty j v) (E : Ext h h') : ElA Z h' a ty j v := by obtain ⟨c, A, r⟩ := F; exact ⟨c, A.ext E, r⟩
theorem ElA.other {Z : State} {h h' : Heap} {a b : Addr} {ty : FieldType} {j : Int32} {v w : Value} {sl : Nat} (F : ElA Z h b ty j v) (W : Wr h h' a sl w) (q : b ≠ a) : ElA Z h' b ty j v := by obtain ⟨c, A, r⟩ := F; exact ⟨c, A.other W q, r⟩
theorem ElA.keep {Z : State} {h h' : Heap} {a : Addr} {ty : FieldType} {j : Int32} {v : Value} {ws : List Addr} (F : ElA Z h a ty j v) (K : Keep h h' ws) (q : a ∉ ws) : ElA Z h' a ty j v := by obtain ⟨c, A, r⟩ := F; exact ⟨c, ⟨K.2.1 a c A.1 q, A.2⟩, r⟩
theorem ElA.store {Z : State} {h h' : Heap} {a : Addr} {ty : FieldType} {j : Int32} {v : Value} {c : Cell} (A : Arr Z h a c ty) (hj : ¬ (j < 0 ∨ c.slots.size ≤ j.toNatClampNeg)) (W : Wr h h' a j.toNatClampNeg v) : ElA Z h' a ty j v :=
  ⟨_, A.same W, by rw [sz_set]; exact hj, get_hit hj rfl⟩
theorem own_irr (x : Int32) : ¬ x < x := by rw [Int32.lt_iff_toInt_lt]; omega
theorem own_irrL (x : Int64) : ¬ x < x := by rw [Int64.lt_iff_toInt_lt]; omega
end New
end Jvm.RoadKit
namespace Jvm.Pilot.@@N@@
open Jvm Jvm.ClassFile Sem Op Lib Jvm.Free Jvm.Stand Jvm.LawKit Jvm.RoadKit Bundle Jvm.Pilot.@@N@@.Jvm.D

theorem d1_0 : decode method_3_code 0 = .ok (.iload_n 0, 1) := by decide +kernel
theorem d1_1 : decode method_3_code 1 = .ok (.iconst 3, 1) := by decide +kernel
theorem d1_2 : decode method_3_code 2 = .ok (.iand, 1) := by decide +kernel
theorem d1_3 : decode method_3_code 3 = .ok (.istore_n 1, 1) := by decide +kernel
theorem d1_4 : decode method_3_code 4 = .ok (.iload_n 1, 1) := by decide +kernel
theorem d1_5 : decode method_3_code 5 = .ok (.ifCond .ne 6, 3) := by decide +kernel
theorem d1_8 : decode method_3_code 8 = .ok (.bipush 13, 2) := by decide +kernel
theorem d1_10 : decode method_3_code 10 = .ok (.ireturn, 1) := by decide +kernel
theorem d1_11 : decode method_3_code 11 = .ok (.iload_n 1, 1) := by decide +kernel
theorem d1_12 : decode method_3_code 12 = .ok (.iconst 1, 1) := by decide +kernel
theorem d1_13 : decode method_3_code 13 = .ok (.if_icmp .ne 6, 3) := by decide +kernel
theorem d1_16 : decode method_3_code 16 = .ok (.bipush 10, 2) := by decide +kernel
theorem d1_18 : decode method_3_code 18 = .ok (.ireturn, 1) := by decide +kernel
theorem d1_19 : decode method_3_code 19 = .ok (.iload_n 0, 1) := by decide +kernel
theorem d1_20 : decode method_3_code 20 = .ok (.bipush 16, 2) := by decide +kernel
theorem d1_22 : decode method_3_code 22 = .ok (.iushr, 1) := by decide +kernel
theorem d1_23 : decode method_3_code 23 = .ok (.i2c, 1) := by decide +kernel
theorem d1_24 : decode method_3_code 24 = .ok (.ireturn, 1) := by decide +kernel
theorem pn_1 : plainName "com/example/winnow/winnow/BufferedTextBeginsLineBreakPinLaw" = true := by first | (simp [plainName, overriddenIn]; done) | decide +kernel
theorem ef_1 (m : MethodId) (x0 : Int32) : entryFrame m #[(.int x0)] 2 = mkF m 0 #[.val (.int x0), .unset] [] := by first | (simp [entryFrame, mkF, argsToLocals, Value.category]; done) | rfl
def f1 (p0 : Int32) : Int32 := (if (p0 &&& (3 : Int32)) = (0 : Int32) then (13 : Int32) else (if (p0 &&& (3 : Int32)) = (1 : Int32) then (10 : Int32) else (nar .char (((p0.toUInt32 >>> ((16 : Int32) &&& 31).toUInt32).toInt32).toUInt32.toUInt16.toUInt32.toInt32))))
def Q1 (Z : State) (p0 : Int32) (h0 : Heap) (n0 : Nat) (v : Option Value) (h : Heap) (L : List Loc) : Prop := v = some (.int (f1 p0)) ∧ Fr n0 L ∧ h = h0
set_option maxRecDepth 65536 in
set_option maxHeartbeats 40000000 in
theorem rm1 (l : Launch) (Z : State) (a0 : Array Value) (hw : ∀ d ∈ tables_1, d.before a0 Z = true) (ws : List Jvm.Cond) (p0 : Int32) (h0 : Heap) (n0 : Nat) (Z0 : n0 ≤ h0.size) :
    MetFree l (⟨"com/example/winnow/winnow/BufferedTextBeginsLineBreakPinLaw", "pick", "(I)C"⟩ : MethodName) (head1 (Jvm.Cond.code (⟨"com/example/winnow/winnow/BufferedTextBeginsLineBreakPinLaw", "pick", "(I)C"⟩ : MethodName) method_3_code 2 (some .char) :: ws) ({ frames := 0, cells := 0, slots := 0, locals := 0 } : Room)) (fun a U => a = #[(.int p0)] ∧ Z.Warmed39 U.vm ∧ U.heap = h0) (fun _ _ _ _ _ => True) (fun _ U o U' => ∃ v L, o = .returned v ∧ Q1 Z p0 h0 n0 v U'.heap L ∧ FrameEnd U o U' L ({ frames := 0, cells := 0, slots := 0, locals := 0 } : Room).cells ({ frames := 0, cells := 0, slots := 0, locals := 0 } : Room).slots) := by
  refine MetFree.of_bodySF (plainFor_of_name pn_1) hisR ?_
  intro p e s m args below meth c s₁ Bd hml0 hP hK
  obtain ⟨rfl, hZ, hh⟩ := hP
  have hx := Bd.exec
  have hby := Bd.bytes
  have hml : c.maxLocals = 2 := hml0
  have hown : s.vm.findClass "com/example/winnow/winnow/BufferedTextBeginsLineBreakPinLaw" = some m.cls := findClass_of_methodNamed Bd.named
  have hnm := (name_of_methodNamed Bd.named Bd.method).1
  have X0 : Stand p l e ({ frames := 0, cells := 0, slots := 0, locals := 0 } : Room) s m #[(.int p0)] below meth c s₁ [] 0 0 := Stand.of_body Bd
  have e0 : s₁.heap = h0 := by rw [← hh, Bd.state]; rfl
  have N0 := Fr.nil n0
  refine own_back (b := s₁.setTop (mkF m 0 #[.val (.int p0), .unset] [])) (fun t kt => castTop (ef_1 m p0) kt) ?_
  refine own_back (b := s₁.setTop (mkF m 5 #[.val (.int p0), .val (.int (p0 &&& (3 : Int32)))] [(.int (p0 &&& (3 : Int32)))])) (fun t kt => ?_) ?_
  · show Steps p.tables e below (s₁.setTop (mkF m 0 #[.val (.int p0), .unset] [])) _
    refine XS.iloadN X0.here hx rfl (hb hby d1_0) rfl ?_
    show Steps p.tables e below (s₁.setTop (mkF m 1 #[.val (.int p0), .unset] [(.int p0)])) _
    refine XS.iconst X0.here hx rfl (hb hby d1_1) ?_
    show Steps p.tables e below (s₁.setTop (mkF m 2 #[.val (.int p0), .unset] [(.int (3 : Int32)), (.int p0)])) _
    refine XS.iand X0.here hx rfl (hb hby d1_2) rfl ?_
    show Steps p.tables e below (s₁.setTop (mkF m 3 #[.val (.int p0), .unset] [(.int (p0 &&& (3 : Int32)))])) _
    refine XS.istoreN X0.here hx rfl (hb hby d1_3) rfl (l' := #[.val (.int p0), .val (.int (p0 &&& (3 : Int32)))]) rfl ?_
    show Steps p.tables e below (s₁.setTop (mkF m 4 #[.val (.int p0), .val (.int (p0 &&& (3 : Int32)))] [])) _
    refine XS.iloadN X0.here hx rfl (hb hby d1_4) rfl ?_
    exact kt
  by_cases hc5_1 : (p0 &&& (3 : Int32)) = (0 : Int32)
  · refine own_back (b := s₁.setTop (mkF m 10 #[.val (.int p0), .val (.int (p0 &&& (3 : Int32)))] [(.int (13 : Int32))])) (fun t kt => ?_) ?_
    · show Steps p.tables e below (s₁.setTop (mkF m 5 #[.val (.int p0), .val (.int (p0 &&& (3 : Int32)))] [(.int (p0 &&& (3 : Int32)))])) _
      refine XS.ifNo X0.here hx rfl (hb hby d1_5) rfl ((if0 _ _).trans (teq hc5_1).2) ?_
      show Steps p.tables e below (s₁.setTop (mkF m 8 #[.val (.int p0), .val (.int (p0 &&& (3 : Int32)))] [])) _
      refine XS.bipush X0.here hx rfl (hb hby d1_8) ?_
      exact kt
    obtain ⟨fs, hr, hrun, hended, hW, hsame⟩ := X0.leave (v := some (.int (13 : Int32))) (fun h => by rw [Bd.returns] at h; cases h)
    refine ⟨_, _, ?_, hrun, hended, _, _, rfl, ?_, ⟨_, rfl⟩, hW, hsame.mono (by decide) (by decide)⟩
    · show Steps p.tables e below (s₁.setTop (mkF m 10 #[.val (.int p0), .val (.int (p0 &&& (3 : Int32)))] [(.int (13 : Int32))])) _
      exact retN X0 hx (t := .char) Bd.returns (by simp) (hb hby d1_10) hr
    · show Q1 Z p0 h0 n0 _ s₁.heap _
      rw [e0]
      exact ⟨by rw [show f1 p0 = (13 : Int32) from by unfold f1; rw [if_pos hc5_1]], N0, rfl⟩
  · refine own_back (b := s₁.setTop (mkF m 13 #[.val (.int p0), .val (.int (p0 &&& (3 : Int32)))] [(.int (1 : Int32)), (.int (p0 &&& (3 : Int32)))])) (fun t kt => ?_) ?_
    · show Steps p.tables e below (s₁.setTop (mkF m 5 #[.val (.int p0), .val (.int (p0 &&& (3 : Int32)))] [(.int (p0 &&& (3 : Int32)))])) _
      refine XS.ifYes X0.here hx rfl (pc0 := 5) (pc' := 11) rfl (hb hby d1_5) rfl ((if0 _ _).trans (feq hc5_1).2) (by decide) (by decide) ?_
      show Steps p.tables e below (s₁.setTop (mkF m 11 #[.val (.int p0), .val (.int (p0 &&& (3 : Int32)))] [])) _
      refine XS.iloadN X0.here hx rfl (hb hby d1_11) rfl ?_
      show Steps p.tables e below (s₁.setTop (mkF m 12 #[.val (.int p0), .val (.int (p0 &&& (3 : Int32)))] [(.int (p0 &&& (3 : Int32)))])) _
      refine XS.iconst X0.here hx rfl (hb hby d1_12) ?_
      exact kt
    by_cases hc13_2 : (p0 &&& (3 : Int32)) = (1 : Int32)
    · refine own_back (b := s₁.setTop (mkF m 18 #[.val (.int p0), .val (.int (p0 &&& (3 : Int32)))] [(.int (10 : Int32))])) (fun t kt => ?_) ?_
      · show Steps p.tables e below (s₁.setTop (mkF m 13 #[.val (.int p0), .val (.int (p0 &&& (3 : Int32)))] [(.int (1 : Int32)), (.int (p0 &&& (3 : Int32)))])) _
        refine XS.icmpNo X0.here hx rfl (hb hby d1_13) rfl (teq hc13_2).2 ?_
        show Steps p.tables e below (s₁.setTop (mkF m 16 #[.val (.int p0), .val (.int (p0 &&& (3 : Int32)))] [])) _
        refine XS.bipush X0.here hx rfl (hb hby d1_16) ?_
        exact kt
      obtain ⟨fs, hr, hrun, hended, hW, hsame⟩ := X0.leave (v := some (.int (10 : Int32))) (fun h => by rw [Bd.returns] at h; cases h)
      refine ⟨_, _, ?_, hrun, hended, _, _, rfl, ?_, ⟨_, rfl⟩, hW, hsame.mono (by decide) (by decide)⟩
      · show Steps p.tables e below (s₁.setTop (mkF m 18 #[.val (.int p0), .val (.int (p0 &&& (3 : Int32)))] [(.int (10 : Int32))])) _
        exact retN X0 hx (t := .char) Bd.returns (by simp) (hb hby d1_18) hr
      · show Q1 Z p0 h0 n0 _ s₁.heap _
        rw [e0]
        exact ⟨by rw [show f1 p0 = (10 : Int32) from by unfold f1; rw [if_neg hc5_1, if_pos hc13_2]], N0, rfl⟩
    · refine own_back (b := s₁.setTop (mkF m 24 #[.val (.int p0), .val (.int (p0 &&& (3 : Int32)))] [(.int (((p0.toUInt32 >>> ((16 : Int32) &&& 31).toUInt32).toInt32).toUInt32.toUInt16.toUInt32.toInt32))])) (fun t kt => ?_) ?_
      · show Steps p.tables e below (s₁.setTop (mkF m 13 #[.val (.int p0), .val (.int (p0 &&& (3 : Int32)))] [(.int (1 : Int32)), (.int (p0 &&& (3 : Int32)))])) _
        refine XS.icmpYes X0.here hx rfl (pc0 := 13) (pc' := 19) rfl (hb hby d1_13) rfl (feq hc13_2).2 (by decide) (by decide) ?_
        show Steps p.tables e below (s₁.setTop (mkF m 19 #[.val (.int p0), .val (.int (p0 &&& (3 : Int32)))] [])) _
        refine XS.iloadN X0.here hx rfl (hb hby d1_19) rfl ?_
        show Steps p.tables e below (s₁.setTop (mkF m 20 #[.val (.int p0), .val (.int (p0 &&& (3 : Int32)))] [(.int p0)])) _
        refine XS.bipush X0.here hx rfl (hb hby d1_20) ?_
        show Steps p.tables e below (s₁.setTop (mkF m 22 #[.val (.int p0), .val (.int (p0 &&& (3 : Int32)))] [(.int (16 : Int32)), (.int p0)])) _
        refine XS.iushr X0.here hx rfl (hb hby d1_22) rfl ?_
        show Steps p.tables e below (s₁.setTop (mkF m 23 #[.val (.int p0), .val (.int (p0 &&& (3 : Int32)))] [(.int ((p0.toUInt32 >>> ((16 : Int32) &&& 31).toUInt32).toInt32))])) _
        refine XS.i2c X0.here hx rfl (hb hby d1_23) rfl ?_
        exact kt
      obtain ⟨fs, hr, hrun, hended, hW, hsame⟩ := X0.leave (v := some (.int (nar .char (((p0.toUInt32 >>> ((16 : Int32) &&& 31).toUInt32).toInt32).toUInt32.toUInt16.toUInt32.toInt32)))) (fun h => by rw [Bd.returns] at h; cases h)
      refine ⟨_, _, ?_, hrun, hended, _, _, rfl, ?_, ⟨_, rfl⟩, hW, hsame.mono (by decide) (by decide)⟩
      · show Steps p.tables e below (s₁.setTop (mkF m 24 #[.val (.int p0), .val (.int (p0 &&& (3 : Int32)))] [(.int (((p0.toUInt32 >>> ((16 : Int32) &&& 31).toUInt32).toInt32).toUInt32.toUInt16.toUInt32.toInt32))])) _
        exact retN X0 hx (t := .char) Bd.returns (by simp) (hb hby d1_24) hr
      · show Q1 Z p0 h0 n0 _ s₁.heap _
        rw [e0]
        exact ⟨by rw [show f1 p0 = (nar .char (((p0.toUInt32 >>> ((16 : Int32) &&& 31).toUInt32).toInt32).toUInt32.toUInt16.toUInt32.toInt32)) from by unfold f1; rw [if_neg hc5_1, if_neg hc13_2]], N0, rfl⟩
theorem d2_0 : decode prog_54_method_4_code 0 = .ok (.iload_n 0, 1) := by decide +kernel
theorem d2_1 : decode prog_54_method_4_code 1 = .ok (.bipush 13, 2) := by decide +kernel
theorem d2_3 : decode prog_54_method_4_code 3 = .ok (.if_icmp .eq 13, 3) := by decide +kernel
theorem d2_6 : decode prog_54_method_4_code 6 = .ok (.iload_n 0, 1) := by decide +kernel
theorem d2_7 : decode prog_54_method_4_code 7 = .ok (.bipush 10, 2) := by decide +kernel
theorem d2_9 : decode prog_54_method_4_code 9 = .ok (.if_icmp .ne 11, 3) := by decide +kernel
theorem d2_12 : decode prog_54_method_4_code 12 = .ok (.iload_n 1, 1) := by decide +kernel
theorem d2_13 : decode prog_54_method_4_code 13 = .ok (.ifCond .ne 7, 3) := by decide +kernel
theorem d2_16 : decode prog_54_method_4_code 16 = .ok (.iconst 1, 1) := by decide +kernel
theorem d2_17 : decode prog_54_method_4_code 17 = .ok (.goto 4, 3) := by decide +kernel
theorem d2_20 : decode prog_54_method_4_code 20 = .ok (.iconst 0, 1) := by decide +kernel
theorem d2_21 : decode prog_54_method_4_code 21 = .ok (.ireturn, 1) := by decide +kernel
theorem pn_2 : plainName "com/example/winnow/winnow/TextFile$BufferedText" = true := by first | (simp [plainName, overriddenIn]; done) | decide +kernel
theorem ef_2 (m : MethodId) (x0 : Int32) (x1 : Int32) : entryFrame m #[(.int x0), (.int x1)] 2 = mkF m 0 #[.val (.int x0), .val (.int x1)] [] := by first | (simp [entryFrame, mkF, argsToLocals, Value.category]; done) | rfl
def f2 (p0 : Int32) (p1 : Int32) : Int32 := (if p0 = (13 : Int32) then (1 : Int32) else (if p0 = (10 : Int32) then (if p1 = (0 : Int32) then (1 : Int32) else (0 : Int32)) else (0 : Int32)))
def Q2 (Z : State) (p0 : Int32) (p1 : Int32) (h0 : Heap) (n0 : Nat) (v : Option Value) (h : Heap) (L : List Loc) : Prop := v = some (.int (f2 p0 p1)) ∧ Fr n0 L ∧ h = h0
set_option maxRecDepth 65536 in
set_option maxHeartbeats 40000000 in
theorem rm2 (l : Launch) (Z : State) (a0 : Array Value) (hw : ∀ d ∈ tables_1, d.before a0 Z = true) (ws : List Jvm.Cond) (p0 : Int32) (p1 : Int32) (h0 : Heap) (n0 : Nat) (Z0 : n0 ≤ h0.size) :
    MetFree l (⟨"com/example/winnow/winnow/TextFile$BufferedText", "beginsLineBreak", "(CZ)Z"⟩ : MethodName) (head1 (Jvm.Cond.code (⟨"com/example/winnow/winnow/TextFile$BufferedText", "beginsLineBreak", "(CZ)Z"⟩ : MethodName) prog_54_method_4_code 2 (some .boolean) :: ws) ({ frames := 0, cells := 0, slots := 0, locals := 0 } : Room)) (fun a U => a = #[(.int p0), (.int p1)] ∧ Z.Warmed39 U.vm ∧ U.heap = h0) (fun _ _ _ _ _ => True) (fun _ U o U' => ∃ v L, o = .returned v ∧ Q2 Z p0 p1 h0 n0 v U'.heap L ∧ FrameEnd U o U' L ({ frames := 0, cells := 0, slots := 0, locals := 0 } : Room).cells ({ frames := 0, cells := 0, slots := 0, locals := 0 } : Room).slots) := by
  refine MetFree.of_bodySF (plainFor_of_name pn_2) hisR ?_
  intro p e s m args below meth c s₁ Bd hml0 hP hK
  obtain ⟨rfl, hZ, hh⟩ := hP
  have hx := Bd.exec
  have hby := Bd.bytes
  have hml : c.maxLocals = 2 := hml0
  have hown : s.vm.findClass "com/example/winnow/winnow/TextFile$BufferedText" = some m.cls := findClass_of_methodNamed Bd.named
  have hnm := (name_of_methodNamed Bd.named Bd.method).1
  have X0 : Stand p l e ({ frames := 0, cells := 0, slots := 0, locals := 0 } : Room) s m #[(.int p0), (.int p1)] below meth c s₁ [] 0 0 := Stand.of_body Bd
  have e0 : s₁.heap = h0 := by rw [← hh, Bd.state]; rfl
  have N0 := Fr.nil n0
  refine own_back (b := s₁.setTop (mkF m 0 #[.val (.int p0), .val (.int p1)] [])) (fun t kt => castTop (ef_2 m p0 p1) kt) ?_
  refine own_back (b := s₁.setTop (mkF m 3 #[.val (.int p0), .val (.int p1)] [(.int (13 : Int32)), (.int p0)])) (fun t kt => ?_) ?_
  · show Steps p.tables e below (s₁.setTop (mkF m 0 #[.val (.int p0), .val (.int p1)] [])) _
    refine XS.iloadN X0.here hx rfl (hb hby d2_0) rfl ?_
    show Steps p.tables e below (s₁.setTop (mkF m 1 #[.val (.int p0), .val (.int p1)] [(.int p0)])) _
    refine XS.bipush X0.here hx rfl (hb hby d2_1) ?_
    exact kt
  by_cases hc3_1 : p0 = (13 : Int32)
  · refine own_back (b := s₁.setTop (mkF m 21 #[.val (.int p0), .val (.int p1)] [(.int (1 : Int32))])) (fun t kt => ?_) ?_
    · show Steps p.tables e below (s₁.setTop (mkF m 3 #[.val (.int p0), .val (.int p1)] [(.int (13 : Int32)), (.int p0)])) _
      refine XS.icmpYes X0.here hx rfl (pc0 := 3) (pc' := 16) rfl (hb hby d2_3) rfl (teq hc3_1).1 (by decide) (by decide) ?_
      show Steps p.tables e below (s₁.setTop (mkF m 16 #[.val (.int p0), .val (.int p1)] [])) _
      refine XS.iconst X0.here hx rfl (hb hby d2_16) ?_
      show Steps p.tables e below (s₁.setTop (mkF m 17 #[.val (.int p0), .val (.int p1)] [(.int (1 : Int32))])) _
      refine XS.goto X0.here hx rfl (pc0 := 17) (pc' := 21) rfl (hb hby d2_17) (by decide) (by decide) ?_
      exact kt
    obtain ⟨fs, hr, hrun, hended, hW, hsame⟩ := X0.leave (v := some (.int (1 : Int32))) (fun h => by rw [Bd.returns] at h; cases h)
    refine ⟨_, _, ?_, hrun, hended, _, _, rfl, ?_, ⟨_, rfl⟩, hW, hsame.mono (by decide) (by decide)⟩
    · show Steps p.tables e below (s₁.setTop (mkF m 21 #[.val (.int p0), .val (.int p1)] [(.int (1 : Int32))])) _
      exact retN X0 hx (t := .boolean) Bd.returns (by simp) (hb hby d2_21) hr
    · show Q2 Z p0 p1 h0 n0 _ s₁.heap _
      rw [e0]
      exact ⟨by rw [show f2 p0 p1 = (1 : Int32) from by unfold f2; rw [if_pos hc3_1]], N0, rfl⟩
  · refine own_back (b := s₁.setTop (mkF m 9 #[.val (.int p0), .val (.int p1)] [(.int (10 : Int32)), (.int p0)])) (fun t kt => ?_) ?_
    · show Steps p.tables e below (s₁.setTop (mkF m 3 #[.val (.int p0), .val (.int p1)] [(.int (13 : Int32)), (.int p0)])) _
      refine XS.icmpNo X0.here hx rfl (hb hby d2_3) rfl (feq hc3_1).1 ?_
      show Steps p.tables e below (s₁.setTop (mkF m 6 #[.val (.int p0), .val (.int p1)] [])) _
      refine XS.iloadN X0.here hx rfl (hb hby d2_6) rfl ?_
      show Steps p.tables e below (s₁.setTop (mkF m 7 #[.val (.int p0), .val (.int p1)] [(.int p0)])) _
      refine XS.bipush X0.here hx rfl (hb hby d2_7) ?_
      exact kt
    by_cases hc9_2 : p0 = (10 : Int32)
    · refine own_back (b := s₁.setTop (mkF m 13 #[.val (.int p0), .val (.int p1)] [(.int p1)])) (fun t kt => ?_) ?_
      · show Steps p.tables e below (s₁.setTop (mkF m 9 #[.val (.int p0), .val (.int p1)] [(.int (10 : Int32)), (.int p0)])) _
        refine XS.icmpNo X0.here hx rfl (hb hby d2_9) rfl (teq hc9_2).2 ?_
        show Steps p.tables e below (s₁.setTop (mkF m 12 #[.val (.int p0), .val (.int p1)] [])) _
        refine XS.iloadN X0.here hx rfl (hb hby d2_12) rfl ?_
        exact kt
      by_cases hc13_3 : p1 = (0 : Int32)
      · refine own_back (b := s₁.setTop (mkF m 21 #[.val (.int p0), .val (.int p1)] [(.int (1 : Int32))])) (fun t kt => ?_) ?_
        · show Steps p.tables e below (s₁.setTop (mkF m 13 #[.val (.int p0), .val (.int p1)] [(.int p1)])) _
          refine XS.ifNo X0.here hx rfl (hb hby d2_13) rfl ((if0 _ _).trans (teq hc13_3).2) ?_
          show Steps p.tables e below (s₁.setTop (mkF m 16 #[.val (.int p0), .val (.int p1)] [])) _
          refine XS.iconst X0.here hx rfl (hb hby d2_16) ?_
          show Steps p.tables e below (s₁.setTop (mkF m 17 #[.val (.int p0), .val (.int p1)] [(.int (1 : Int32))])) _
          refine XS.goto X0.here hx rfl (pc0 := 17) (pc' := 21) rfl (hb hby d2_17) (by decide) (by decide) ?_
          exact kt
        obtain ⟨fs, hr, hrun, hended, hW, hsame⟩ := X0.leave (v := some (.int (1 : Int32))) (fun h => by rw [Bd.returns] at h; cases h)
        refine ⟨_, _, ?_, hrun, hended, _, _, rfl, ?_, ⟨_, rfl⟩, hW, hsame.mono (by decide) (by decide)⟩
        · show Steps p.tables e below (s₁.setTop (mkF m 21 #[.val (.int p0), .val (.int p1)] [(.int (1 : Int32))])) _
          exact retN X0 hx (t := .boolean) Bd.returns (by simp) (hb hby d2_21) hr
        · show Q2 Z p0 p1 h0 n0 _ s₁.heap _
          rw [e0]
          exact ⟨by rw [show f2 p0 p1 = (1 : Int32) from by unfold f2; rw [if_neg hc3_1, if_pos hc9_2, if_pos hc13_3]], N0, rfl⟩
      · refine own_back (b := s₁.setTop (mkF m 21 #[.val (.int p0), .val (.int p1)] [(.int (0 : Int32))])) (fun t kt => ?_) ?_
        · show Steps p.tables e below (s₁.setTop (mkF m 13 #[.val (.int p0), .val (.int p1)] [(.int p1)])) _
          refine XS.ifYes X0.here hx rfl (pc0 := 13) (pc' := 20) rfl (hb hby d2_13) rfl ((if0 _ _).trans (feq hc13_3).2) (by decide) (by decide) ?_
          show Steps p.tables e below (s₁.setTop (mkF m 20 #[.val (.int p0), .val (.int p1)] [])) _
          refine XS.iconst X0.here hx rfl (hb hby d2_20) ?_
          exact kt
        obtain ⟨fs, hr, hrun, hended, hW, hsame⟩ := X0.leave (v := some (.int (0 : Int32))) (fun h => by rw [Bd.returns] at h; cases h)
        refine ⟨_, _, ?_, hrun, hended, _, _, rfl, ?_, ⟨_, rfl⟩, hW, hsame.mono (by decide) (by decide)⟩
        · show Steps p.tables e below (s₁.setTop (mkF m 21 #[.val (.int p0), .val (.int p1)] [(.int (0 : Int32))])) _
          exact retN X0 hx (t := .boolean) Bd.returns (by simp) (hb hby d2_21) hr
        · show Q2 Z p0 p1 h0 n0 _ s₁.heap _
          rw [e0]
          exact ⟨by rw [show f2 p0 p1 = (0 : Int32) from by unfold f2; rw [if_neg hc3_1, if_pos hc9_2, if_neg hc13_3]], N0, rfl⟩
    · refine own_back (b := s₁.setTop (mkF m 21 #[.val (.int p0), .val (.int p1)] [(.int (0 : Int32))])) (fun t kt => ?_) ?_
      · show Steps p.tables e below (s₁.setTop (mkF m 9 #[.val (.int p0), .val (.int p1)] [(.int (10 : Int32)), (.int p0)])) _
        refine XS.icmpYes X0.here hx rfl (pc0 := 9) (pc' := 20) rfl (hb hby d2_9) rfl (feq hc9_2).2 (by decide) (by decide) ?_
        show Steps p.tables e below (s₁.setTop (mkF m 20 #[.val (.int p0), .val (.int p1)] [])) _
        refine XS.iconst X0.here hx rfl (hb hby d2_20) ?_
        exact kt
      obtain ⟨fs, hr, hrun, hended, hW, hsame⟩ := X0.leave (v := some (.int (0 : Int32))) (fun h => by rw [Bd.returns] at h; cases h)
      refine ⟨_, _, ?_, hrun, hended, _, _, rfl, ?_, ⟨_, rfl⟩, hW, hsame.mono (by decide) (by decide)⟩
      · show Steps p.tables e below (s₁.setTop (mkF m 21 #[.val (.int p0), .val (.int p1)] [(.int (0 : Int32))])) _
        exact retN X0 hx (t := .boolean) Bd.returns (by simp) (hb hby d2_21) hr
      · show Q2 Z p0 p1 h0 n0 _ s₁.heap _
        rw [e0]
        exact ⟨by rw [show f2 p0 p1 = (0 : Int32) from by unfold f2; rw [if_neg hc3_1, if_neg hc9_2]], N0, rfl⟩
theorem d3_0 : decode method_4_code 0 = .ok (.iload_n 0, 1) := by decide +kernel
theorem d3_1 : decode method_4_code 1 = .ok (.bipush 13, 2) := by decide +kernel
theorem d3_3 : decode method_4_code 3 = .ok (.if_icmp .eq 9, 3) := by decide +kernel
theorem d3_6 : decode method_4_code 6 = .ok (.iload_n 0, 1) := by decide +kernel
theorem d3_7 : decode method_4_code 7 = .ok (.bipush 10, 2) := by decide +kernel
theorem d3_9 : decode method_4_code 9 = .ok (.if_icmp .ne 7, 3) := by decide +kernel
theorem d3_12 : decode method_4_code 12 = .ok (.iconst 1, 1) := by decide +kernel
theorem d3_13 : decode method_4_code 13 = .ok (.goto 4, 3) := by decide +kernel
theorem d3_16 : decode method_4_code 16 = .ok (.iconst 0, 1) := by decide +kernel
theorem d3_17 : decode method_4_code 17 = .ok (.ireturn, 1) := by decide +kernel
theorem pn_3 : plainName "com/example/winnow/winnow/BufferedTextBeginsLineBreakPinLaw" = true := by first | (simp [plainName, overriddenIn]; done) | decide +kernel
theorem ef_3 (m : MethodId) (x0 : Int32) : entryFrame m #[(.int x0)] 1 = mkF m 0 #[.val (.int x0)] [] := by first | (simp [entryFrame, mkF, argsToLocals, Value.category]; done) | rfl
def f3 (p0 : Int32) : Int32 := (if p0 = (13 : Int32) then (1 : Int32) else (if p0 = (10 : Int32) then (1 : Int32) else (0 : Int32)))
def Q3 (Z : State) (p0 : Int32) (h0 : Heap) (n0 : Nat) (v : Option Value) (h : Heap) (L : List Loc) : Prop := v = some (.int (f3 p0)) ∧ Fr n0 L ∧ h = h0
set_option maxRecDepth 65536 in
set_option maxHeartbeats 40000000 in
theorem rm3 (l : Launch) (Z : State) (a0 : Array Value) (hw : ∀ d ∈ tables_1, d.before a0 Z = true) (ws : List Jvm.Cond) (p0 : Int32) (h0 : Heap) (n0 : Nat) (Z0 : n0 ≤ h0.size) :
    MetFree l (⟨"com/example/winnow/winnow/BufferedTextBeginsLineBreakPinLaw", "end", "(C)I"⟩ : MethodName) (head1 (Jvm.Cond.code (⟨"com/example/winnow/winnow/BufferedTextBeginsLineBreakPinLaw", "end", "(C)I"⟩ : MethodName) method_4_code 1 (some .int) :: ws) ({ frames := 0, cells := 0, slots := 0, locals := 0 } : Room)) (fun a U => a = #[(.int p0)] ∧ Z.Warmed39 U.vm ∧ U.heap = h0) (fun _ _ _ _ _ => True) (fun _ U o U' => ∃ v L, o = .returned v ∧ Q3 Z p0 h0 n0 v U'.heap L ∧ FrameEnd U o U' L ({ frames := 0, cells := 0, slots := 0, locals := 0 } : Room).cells ({ frames := 0, cells := 0, slots := 0, locals := 0 } : Room).slots) := by
  refine MetFree.of_bodySF (plainFor_of_name pn_3) hisR ?_
  intro p e s m args below meth c s₁ Bd hml0 hP hK
  obtain ⟨rfl, hZ, hh⟩ := hP
  have hx := Bd.exec
  have hby := Bd.bytes
  have hml : c.maxLocals = 1 := hml0
  have hown : s.vm.findClass "com/example/winnow/winnow/BufferedTextBeginsLineBreakPinLaw" = some m.cls := findClass_of_methodNamed Bd.named
  have hnm := (name_of_methodNamed Bd.named Bd.method).1
  have X0 : Stand p l e ({ frames := 0, cells := 0, slots := 0, locals := 0 } : Room) s m #[(.int p0)] below meth c s₁ [] 0 0 := Stand.of_body Bd
  have e0 : s₁.heap = h0 := by rw [← hh, Bd.state]; rfl
  have N0 := Fr.nil n0
  refine own_back (b := s₁.setTop (mkF m 0 #[.val (.int p0)] [])) (fun t kt => castTop (ef_3 m p0) kt) ?_
  refine own_back (b := s₁.setTop (mkF m 3 #[.val (.int p0)] [(.int (13 : Int32)), (.int p0)])) (fun t kt => ?_) ?_
  · show Steps p.tables e below (s₁.setTop (mkF m 0 #[.val (.int p0)] [])) _
    refine XS.iloadN X0.here hx rfl (hb hby d3_0) rfl ?_
    show Steps p.tables e below (s₁.setTop (mkF m 1 #[.val (.int p0)] [(.int p0)])) _
    refine XS.bipush X0.here hx rfl (hb hby d3_1) ?_
    exact kt
  by_cases hc3_1 : p0 = (13 : Int32)
  · refine own_back (b := s₁.setTop (mkF m 17 #[.val (.int p0)] [(.int (1 : Int32))])) (fun t kt => ?_) ?_
    · show Steps p.tables e below (s₁.setTop (mkF m 3 #[.val (.int p0)] [(.int (13 : Int32)), (.int p0)])) _
      refine XS.icmpYes X0.here hx rfl (pc0 := 3) (pc' := 12) rfl (hb hby d3_3) rfl (teq hc3_1).1 (by decide) (by decide) ?_
      show Steps p.tables e below (s₁.setTop (mkF m 12 #[.val (.int p0)] [])) _
      refine XS.iconst X0.here hx rfl (hb hby d3_12) ?_
      show Steps p.tables e below (s₁.setTop (mkF m 13 #[.val (.int p0)] [(.int (1 : Int32))])) _
      refine XS.goto X0.here hx rfl (pc0 := 13) (pc' := 17) rfl (hb hby d3_13) (by decide) (by decide) ?_
      exact kt
    obtain ⟨fs, hr, hrun, hended, hW, hsame⟩ := X0.leave (v := some (.int (1 : Int32))) (fun h => by rw [Bd.returns] at h; cases h)
    refine ⟨_, _, ?_, hrun, hended, _, _, rfl, ?_, ⟨_, rfl⟩, hW, hsame.mono (by decide) (by decide)⟩
    · show Steps p.tables e below (s₁.setTop (mkF m 17 #[.val (.int p0)] [(.int (1 : Int32))])) _
      exact retI X0 hx Bd.returns (hb hby d3_17) hr
    · show Q3 Z p0 h0 n0 _ s₁.heap _
      rw [e0]
      exact ⟨by rw [show f3 p0 = (1 : Int32) from by unfold f3; rw [if_pos hc3_1]], N0, rfl⟩
  · refine own_back (b := s₁.setTop (mkF m 9 #[.val (.int p0)] [(.int (10 : Int32)), (.int p0)])) (fun t kt => ?_) ?_
    · show Steps p.tables e below (s₁.setTop (mkF m 3 #[.val (.int p0)] [(.int (13 : Int32)), (.int p0)])) _
      refine XS.icmpNo X0.here hx rfl (hb hby d3_3) rfl (feq hc3_1).1 ?_
      show Steps p.tables e below (s₁.setTop (mkF m 6 #[.val (.int p0)] [])) _
      refine XS.iloadN X0.here hx rfl (hb hby d3_6) rfl ?_
      show Steps p.tables e below (s₁.setTop (mkF m 7 #[.val (.int p0)] [(.int p0)])) _
      refine XS.bipush X0.here hx rfl (hb hby d3_7) ?_
      exact kt
    by_cases hc9_2 : p0 = (10 : Int32)
    · refine own_back (b := s₁.setTop (mkF m 17 #[.val (.int p0)] [(.int (1 : Int32))])) (fun t kt => ?_) ?_
      · show Steps p.tables e below (s₁.setTop (mkF m 9 #[.val (.int p0)] [(.int (10 : Int32)), (.int p0)])) _
        refine XS.icmpNo X0.here hx rfl (hb hby d3_9) rfl (teq hc9_2).2 ?_
        show Steps p.tables e below (s₁.setTop (mkF m 12 #[.val (.int p0)] [])) _
        refine XS.iconst X0.here hx rfl (hb hby d3_12) ?_
        show Steps p.tables e below (s₁.setTop (mkF m 13 #[.val (.int p0)] [(.int (1 : Int32))])) _
        refine XS.goto X0.here hx rfl (pc0 := 13) (pc' := 17) rfl (hb hby d3_13) (by decide) (by decide) ?_
        exact kt
      obtain ⟨fs, hr, hrun, hended, hW, hsame⟩ := X0.leave (v := some (.int (1 : Int32))) (fun h => by rw [Bd.returns] at h; cases h)
      refine ⟨_, _, ?_, hrun, hended, _, _, rfl, ?_, ⟨_, rfl⟩, hW, hsame.mono (by decide) (by decide)⟩
      · show Steps p.tables e below (s₁.setTop (mkF m 17 #[.val (.int p0)] [(.int (1 : Int32))])) _
        exact retI X0 hx Bd.returns (hb hby d3_17) hr
      · show Q3 Z p0 h0 n0 _ s₁.heap _
        rw [e0]
        exact ⟨by rw [show f3 p0 = (1 : Int32) from by unfold f3; rw [if_neg hc3_1, if_pos hc9_2]], N0, rfl⟩
    · refine own_back (b := s₁.setTop (mkF m 17 #[.val (.int p0)] [(.int (0 : Int32))])) (fun t kt => ?_) ?_
      · show Steps p.tables e below (s₁.setTop (mkF m 9 #[.val (.int p0)] [(.int (10 : Int32)), (.int p0)])) _
        refine XS.icmpYes X0.here hx rfl (pc0 := 9) (pc' := 16) rfl (hb hby d3_9) rfl (feq hc9_2).2 (by decide) (by decide) ?_
        show Steps p.tables e below (s₁.setTop (mkF m 16 #[.val (.int p0)] [])) _
        refine XS.iconst X0.here hx rfl (hb hby d3_16) ?_
        exact kt
      obtain ⟨fs, hr, hrun, hended, hW, hsame⟩ := X0.leave (v := some (.int (0 : Int32))) (fun h => by rw [Bd.returns] at h; cases h)
      refine ⟨_, _, ?_, hrun, hended, _, _, rfl, ?_, ⟨_, rfl⟩, hW, hsame.mono (by decide) (by decide)⟩
      · show Steps p.tables e below (s₁.setTop (mkF m 17 #[.val (.int p0)] [(.int (0 : Int32))])) _
        exact retI X0 hx Bd.returns (hb hby d3_17) hr
      · show Q3 Z p0 h0 n0 _ s₁.heap _
        rw [e0]
        exact ⟨by rw [show f3 p0 = (0 : Int32) from by unfold f3; rw [if_neg hc3_1, if_neg hc9_2]], N0, rfl⟩
theorem d4_0 : decode method_5_code 0 = .ok (.iload_n 0, 1) := by decide +kernel
theorem d4_1 : decode method_5_code 1 = .ok (.ifCond .eq 13, 3) := by decide +kernel
theorem d4_4 : decode method_5_code 4 = .ok (.iload_n 1, 1) := by decide +kernel
theorem d4_5 : decode method_5_code 5 = .ok (.bipush 10, 2) := by decide +kernel
theorem d4_7 : decode method_5_code 7 = .ok (.if_icmp .ne 7, 3) := by decide +kernel
theorem d4_10 : decode method_5_code 10 = .ok (.iconst 1, 1) := by decide +kernel
theorem d4_11 : decode method_5_code 11 = .ok (.goto 4, 3) := by decide +kernel
theorem d4_14 : decode method_5_code 14 = .ok (.iconst 0, 1) := by decide +kernel
theorem d4_15 : decode method_5_code 15 = .ok (.ireturn, 1) := by decide +kernel
theorem pn_4 : plainName "com/example/winnow/winnow/BufferedTextBeginsLineBreakPinLaw" = true := by first | (simp [plainName, overriddenIn]; done) | decide +kernel
theorem ef_4 (m : MethodId) (x0 : Int32) (x1 : Int32) : entryFrame m #[(.int x0), (.int x1)] 2 = mkF m 0 #[.val (.int x0), .val (.int x1)] [] := by first | (simp [entryFrame, mkF, argsToLocals, Value.category]; done) | rfl
def f4 (p0 : Int32) (p1 : Int32) : Int32 := (if p0 = (0 : Int32) then (0 : Int32) else (if p1 = (10 : Int32) then (1 : Int32) else (0 : Int32)))
def Q4 (Z : State) (p0 : Int32) (p1 : Int32) (h0 : Heap) (n0 : Nat) (v : Option Value) (h : Heap) (L : List Loc) : Prop := v = some (.int (f4 p0 p1)) ∧ Fr n0 L ∧ h = h0
set_option maxRecDepth 65536 in
set_option maxHeartbeats 40000000 in
theorem rm4 (l : Launch) (Z : State) (a0 : Array Value) (hw : ∀ d ∈ tables_1, d.before a0 Z = true) (ws : List Jvm.Cond) (p0 : Int32) (p1 : Int32) (h0 : Heap) (n0 : Nat) (Z0 : n0 ≤ h0.size) :
    MetFree l (⟨"com/example/winnow/winnow/BufferedTextBeginsLineBreakPinLaw", "pair", "(ZC)I"⟩ : MethodName) (head1 (Jvm.Cond.code (⟨"com/example/winnow/winnow/BufferedTextBeginsLineBreakPinLaw", "pair", "(ZC)I"⟩ : MethodName) method_5_code 2 (some .int) :: ws) ({ frames := 0, cells := 0, slots := 0, locals := 0 } : Room)) (fun a U => a = #[(.int p0), (.int p1)] ∧ Z.Warmed39 U.vm ∧ U.heap = h0) (fun _ _ _ _ _ => True) (fun _ U o U' => ∃ v L, o = .returned v ∧ Q4 Z p0 p1 h0 n0 v U'.heap L ∧ FrameEnd U o U' L ({ frames := 0, cells := 0, slots := 0, locals := 0 } : Room).cells ({ frames := 0, cells := 0, slots := 0, locals := 0 } : Room).slots) := by
  refine MetFree.of_bodySF (plainFor_of_name pn_4) hisR ?_
  intro p e s m args below meth c s₁ Bd hml0 hP hK
  obtain ⟨rfl, hZ, hh⟩ := hP
  have hx := Bd.exec
  have hby := Bd.bytes
  have hml : c.maxLocals = 2 := hml0
  have hown : s.vm.findClass "com/example/winnow/winnow/BufferedTextBeginsLineBreakPinLaw" = some m.cls := findClass_of_methodNamed Bd.named
  have hnm := (name_of_methodNamed Bd.named Bd.method).1
  have X0 : Stand p l e ({ frames := 0, cells := 0, slots := 0, locals := 0 } : Room) s m #[(.int p0), (.int p1)] below meth c s₁ [] 0 0 := Stand.of_body Bd
  have e0 : s₁.heap = h0 := by rw [← hh, Bd.state]; rfl
  have N0 := Fr.nil n0
  refine own_back (b := s₁.setTop (mkF m 0 #[.val (.int p0), .val (.int p1)] [])) (fun t kt => castTop (ef_4 m p0 p1) kt) ?_
  refine own_back (b := s₁.setTop (mkF m 1 #[.val (.int p0), .val (.int p1)] [(.int p0)])) (fun t kt => ?_) ?_
  · show Steps p.tables e below (s₁.setTop (mkF m 0 #[.val (.int p0), .val (.int p1)] [])) _
    refine XS.iloadN X0.here hx rfl (hb hby d4_0) rfl ?_
    exact kt
  by_cases hc1_1 : p0 = (0 : Int32)
  · refine own_back (b := s₁.setTop (mkF m 15 #[.val (.int p0), .val (.int p1)] [(.int (0 : Int32))])) (fun t kt => ?_) ?_
    · show Steps p.tables e below (s₁.setTop (mkF m 1 #[.val (.int p0), .val (.int p1)] [(.int p0)])) _
      refine XS.ifYes X0.here hx rfl (pc0 := 1) (pc' := 14) rfl (hb hby d4_1) rfl ((if0 _ _).trans (teq hc1_1).1) (by decide) (by decide) ?_
      show Steps p.tables e below (s₁.setTop (mkF m 14 #[.val (.int p0), .val (.int p1)] [])) _
      refine XS.iconst X0.here hx rfl (hb hby d4_14) ?_
      exact kt
    obtain ⟨fs, hr, hrun, hended, hW, hsame⟩ := X0.leave (v := some (.int (0 : Int32))) (fun h => by rw [Bd.returns] at h; cases h)
    refine ⟨_, _, ?_, hrun, hended, _, _, rfl, ?_, ⟨_, rfl⟩, hW, hsame.mono (by decide) (by decide)⟩
    · show Steps p.tables e below (s₁.setTop (mkF m 15 #[.val (.int p0), .val (.int p1)] [(.int (0 : Int32))])) _
      exact retI X0 hx Bd.returns (hb hby d4_15) hr
    · show Q4 Z p0 p1 h0 n0 _ s₁.heap _
      rw [e0]
      exact ⟨by rw [show f4 p0 p1 = (0 : Int32) from by unfold f4; rw [if_pos hc1_1]], N0, rfl⟩
  · refine own_back (b := s₁.setTop (mkF m 7 #[.val (.int p0), .val (.int p1)] [(.int (10 : Int32)), (.int p1)])) (fun t kt => ?_) ?_
    · show Steps p.tables e below (s₁.setTop (mkF m 1 #[.val (.int p0), .val (.int p1)] [(.int p0)])) _
      refine XS.ifNo X0.here hx rfl (hb hby d4_1) rfl ((if0 _ _).trans (feq hc1_1).1) ?_
      show Steps p.tables e below (s₁.setTop (mkF m 4 #[.val (.int p0), .val (.int p1)] [])) _
      refine XS.iloadN X0.here hx rfl (hb hby d4_4) rfl ?_
      show Steps p.tables e below (s₁.setTop (mkF m 5 #[.val (.int p0), .val (.int p1)] [(.int p1)])) _
      refine XS.bipush X0.here hx rfl (hb hby d4_5) ?_
      exact kt
    by_cases hc7_2 : p1 = (10 : Int32)
    · refine own_back (b := s₁.setTop (mkF m 15 #[.val (.int p0), .val (.int p1)] [(.int (1 : Int32))])) (fun t kt => ?_) ?_
      · show Steps p.tables e below (s₁.setTop (mkF m 7 #[.val (.int p0), .val (.int p1)] [(.int (10 : Int32)), (.int p1)])) _
        refine XS.icmpNo X0.here hx rfl (hb hby d4_7) rfl (teq hc7_2).2 ?_
        show Steps p.tables e below (s₁.setTop (mkF m 10 #[.val (.int p0), .val (.int p1)] [])) _
        refine XS.iconst X0.here hx rfl (hb hby d4_10) ?_
        show Steps p.tables e below (s₁.setTop (mkF m 11 #[.val (.int p0), .val (.int p1)] [(.int (1 : Int32))])) _
        refine XS.goto X0.here hx rfl (pc0 := 11) (pc' := 15) rfl (hb hby d4_11) (by decide) (by decide) ?_
        exact kt
      obtain ⟨fs, hr, hrun, hended, hW, hsame⟩ := X0.leave (v := some (.int (1 : Int32))) (fun h => by rw [Bd.returns] at h; cases h)
      refine ⟨_, _, ?_, hrun, hended, _, _, rfl, ?_, ⟨_, rfl⟩, hW, hsame.mono (by decide) (by decide)⟩
      · show Steps p.tables e below (s₁.setTop (mkF m 15 #[.val (.int p0), .val (.int p1)] [(.int (1 : Int32))])) _
        exact retI X0 hx Bd.returns (hb hby d4_15) hr
      · show Q4 Z p0 p1 h0 n0 _ s₁.heap _
        rw [e0]
        exact ⟨by rw [show f4 p0 p1 = (1 : Int32) from by unfold f4; rw [if_neg hc1_1, if_pos hc7_2]], N0, rfl⟩
    · refine own_back (b := s₁.setTop (mkF m 15 #[.val (.int p0), .val (.int p1)] [(.int (0 : Int32))])) (fun t kt => ?_) ?_
      · show Steps p.tables e below (s₁.setTop (mkF m 7 #[.val (.int p0), .val (.int p1)] [(.int (10 : Int32)), (.int p1)])) _
        refine XS.icmpYes X0.here hx rfl (pc0 := 7) (pc' := 14) rfl (hb hby d4_7) rfl (feq hc7_2).2 (by decide) (by decide) ?_
        show Steps p.tables e below (s₁.setTop (mkF m 14 #[.val (.int p0), .val (.int p1)] [])) _
        refine XS.iconst X0.here hx rfl (hb hby d4_14) ?_
        exact kt
      obtain ⟨fs, hr, hrun, hended, hW, hsame⟩ := X0.leave (v := some (.int (0 : Int32))) (fun h => by rw [Bd.returns] at h; cases h)
      refine ⟨_, _, ?_, hrun, hended, _, _, rfl, ?_, ⟨_, rfl⟩, hW, hsame.mono (by decide) (by decide)⟩
      · show Steps p.tables e below (s₁.setTop (mkF m 15 #[.val (.int p0), .val (.int p1)] [(.int (0 : Int32))])) _
        exact retI X0 hx Bd.returns (hb hby d4_15) hr
      · show Q4 Z p0 p1 h0 n0 _ s₁.heap _
        rw [e0]
        exact ⟨by rw [show f4 p0 p1 = (0 : Int32) from by unfold f4; rw [if_neg hc1_1, if_neg hc7_2]], N0, rfl⟩
theorem pn_0 : plainName "com/example/winnow/winnow/BufferedTextBeginsLineBreakPinLaw" = true := by first | (simp [plainName, overriddenIn]; done) | decide +kernel
theorem pd_0_0 : parseMethodDescriptor "(I)C" = some ⟨[.int], some .char⟩ := by decide +kernel
theorem pd_0_1 : parseMethodDescriptor "(CZ)Z" = some ⟨[.char, .boolean], some .boolean⟩ := by decide +kernel
theorem pd_0_2 : parseMethodDescriptor "(C)I" = some ⟨[.char], some .int⟩ := by decide +kernel
theorem pd_0_3 : parseMethodDescriptor "(ZC)I" = some ⟨[.boolean, .char], some .int⟩ := by decide +kernel
theorem ef_0 (m : MethodId) (x0 : Int32) (x1 : Int32) (x2 : Int32) (x3 : Int32) (x4 : Int32) : entryFrame m #[(.int x0), (.int x1), (.int x2), (.int x3), (.int x4)] maxLocals = mkF m 0 #[.val (.int x0), .val (.int x1), .val (.int x2), .val (.int x3), .val (.int x4), .unset, .unset, .unset, .unset, .unset, .unset, .unset, .unset] [] := by first | (simp [entryFrame, mkF, argsToLocals, Value.category, maxLocals]; done) | rfl
def m0_0 (p0 : Int32) (p1 : Int32) (p2 : Int32) (p3 : Int32) (p4 : Int32) : Int32 := (if (p4 &&& (1 : Int32)) = (0 : Int32) then (0 : Int32) else (1 : Int32))
def m0_1 (p0 : Int32) (p1 : Int32) (p2 : Int32) (p3 : Int32) (p4 : Int32) : Int32 := (if (f2 (f1 p0) (m0_0 p0 p1 p2 p3 p4)) = (0 : Int32) then (0 : Int32) else ((0 : Int32) + (1 : Int32)))
def m0_2 (p0 : Int32) (p1 : Int32) (p2 : Int32) (p3 : Int32) (p4 : Int32) : Int32 := (if (f1 p0) = (13 : Int32) then (1 : Int32) else (0 : Int32))
def m0_3 (p0 : Int32) (p1 : Int32) (p2 : Int32) (p3 : Int32) (p4 : Int32) : Int32 := (if (f2 (f1 p1) (m0_2 p0 p1 p2 p3 p4)) = (0 : Int32) then (m0_1 p0 p1 p2 p3 p4) else ((m0_1 p0 p1 p2 p3 p4) + (1 : Int32)))
def m0_4 (p0 : Int32) (p1 : Int32) (p2 : Int32) (p3 : Int32) (p4 : Int32) : Int32 := (if (f1 p1) = (13 : Int32) then (1 : Int32) else (0 : Int32))
def m0_5 (p0 : Int32) (p1 : Int32) (p2 : Int32) (p3 : Int32) (p4 : Int32) : Int32 := (if (f2 (f1 p2) (m0_4 p0 p1 p2 p3 p4)) = (0 : Int32) then (m0_3 p0 p1 p2 p3 p4) else ((m0_3 p0 p1 p2 p3 p4) + (1 : Int32)))
def m0_6 (p0 : Int32) (p1 : Int32) (p2 : Int32) (p3 : Int32) (p4 : Int32) : Int32 := (if (f1 p2) = (13 : Int32) then (1 : Int32) else (0 : Int32))
def m0_7 (p0 : Int32) (p1 : Int32) (p2 : Int32) (p3 : Int32) (p4 : Int32) : Int32 := (if (f2 (f1 p3) (m0_6 p0 p1 p2 p3 p4)) = (0 : Int32) then (m0_5 p0 p1 p2 p3 p4) else ((m0_5 p0 p1 p2 p3 p4) + (1 : Int32)))
def m0_8 (p0 : Int32) (p1 : Int32) (p2 : Int32) (p3 : Int32) (p4 : Int32) : Int32 := (if (f1 p0) = (13 : Int32) then (1 : Int32) else (0 : Int32))
def m0_9 (p0 : Int32) (p1 : Int32) (p2 : Int32) (p3 : Int32) (p4 : Int32) : Int32 := (if (f1 p1) = (13 : Int32) then (1 : Int32) else (0 : Int32))
def m0_10 (p0 : Int32) (p1 : Int32) (p2 : Int32) (p3 : Int32) (p4 : Int32) : Int32 := (if (f1 p2) = (13 : Int32) then (1 : Int32) else (0 : Int32))
def f0 (p0 : Int32) (p1 : Int32) (p2 : Int32) (p3 : Int32) (p4 : Int32) : Int32 := (if (m0_7 p0 p1 p2 p3 p4) = (((((f3 (f1 p0)) + (f3 (f1 p1))) + (f3 (f1 p2))) + (f3 (f1 p3))) - ((((f4 (m0_0 p0 p1 p2 p3 p4) (f1 p0)) + (f4 (m0_8 p0 p1 p2 p3 p4) (f1 p1))) + (f4 (m0_9 p0 p1 p2 p3 p4) (f1 p2))) + (f4 (m0_10 p0 p1 p2 p3 p4) (f1 p3)))) then (1 : Int32) else (0 : Int32))
def Q0 (Z : State) (p0 : Int32) (p1 : Int32) (p2 : Int32) (p3 : Int32) (p4 : Int32) (h0 : Heap) (n0 : Nat) (v : Option Value) (h : Heap) (L : List Loc) : Prop := v = some (.int (f0 p0 p1 p2 p3 p4)) ∧ Fr n0 L
set_option maxRecDepth 65536 in
set_option maxHeartbeats 40000000 in
theorem rm0 (l : Launch) (Z : State) (a0 : Array Value) (hw : ∀ d ∈ tables_1, d.before a0 Z = true) (ws : List Jvm.Cond) (p0 : Int32) (p1 : Int32) (p2 : Int32) (p3 : Int32) (p4 : Int32) (h0 : Heap) (n0 : Nat) (Z0 : n0 ≤ h0.size) :
    MetFree l x (head1 (Jvm.Cond.code x code maxLocals ret :: ws) room_1) (fun a U => a = #[(.int p0), (.int p1), (.int p2), (.int p3), (.int p4)] ∧ Z.Warmed39 U.vm ∧ U.heap = h0) (fun _ _ _ _ _ => True) (fun _ U o U' => ∃ v L, o = .returned v ∧ Q0 Z p0 p1 p2 p3 p4 h0 n0 v U'.heap L ∧ FrameEnd U o U' L room_1.cells room_1.slots) := by
  refine MetFree.of_bodySF (plainFor_of_name pn_0) hisR ?_
  intro p e s m args below meth c s₁ Bd hml0 hP hK
  obtain ⟨rfl, hZ, hh⟩ := hP
  have hx := Bd.exec
  have hby := Bd.bytes
  have hml : c.maxLocals = 13 := hml0
  have hown : s.vm.findClass "com/example/winnow/winnow/BufferedTextBeginsLineBreakPinLaw" = some m.cls := findClass_of_methodNamed Bd.named
  have hnm := (name_of_methodNamed Bd.named Bd.method).1
  have X0 : Stand p l e room_1 s m #[(.int p0), (.int p1), (.int p2), (.int p3), (.int p4)] below meth c s₁ [] 0 0 := Stand.of_body Bd
  have e0 : s₁.heap = h0 := by rw [← hh, Bd.state]; rfl
  have N0 := Fr.nil n0
  refine own_back (b := s₁.setTop (mkF m 0 #[.val (.int p0), .val (.int p1), .val (.int p2), .val (.int p3), .val (.int p4), .unset, .unset, .unset, .unset, .unset, .unset, .unset, .unset] [])) (fun t kt => castTop (ef_0 m p0 p1 p2 p3 p4) kt) ?_
  obtain ⟨_, _, ⟨T1, L1, k1, n1⟩, -, X1, ⟨Lc1, hQ1, l1, y1, z1⟩, st1⟩ := Jvm.LawKit.callS X0 hx (y := (⟨"com/example/winnow/winnow/BufferedTextBeginsLineBreakPinLaw", "pick", "(I)C"⟩ : MethodName)) hown (mvT hZ (hw _ (List.mem_of_getElem? (i := 0) rfl))) (mvT hZ (hw _ (List.mem_of_getElem? (i := 1) rfl))) (mvT hZ (hw _ (List.mem_of_getElem? (i := 2) rfl))) (mvT hZ (hw _ (List.mem_of_getElem? (i := 3) rfl))) (by decide) (backOf (W := 0) (rm1 l Z a0 hw [] p0 h0 n0 Z0 ) hZ (hw _ (List.mem_of_getElem? (i := 3) rfl)) (hw _ (List.mem_of_getElem? (i := 2) rfl)) (by decide) (by decide)) (g := (mkF m 1 #[.val (.int p0), .val (.int p1), .val (.int p2), .val (.int p3), .val (.int p4), .unset, .unset, .unset, .unset, .unset, .unset, .unset, .unset] [(.int p0)])) rfl (by rw [hml]; rfl) (argsL := [(.int p0)]) (rest := []) (lenOf pd_0_0 rfl) rfl (by show 2 * 0 + _ ≤ _; exact Nat.le_of_eq rfl) (hb hby at_1) (fun _ _ => ⟨rfl, e0, (by decide : 0 + 0 ≤ _), (by decide : 0 + 0 ≤ _)⟩)
  dsimp only [Pt.U, Pt.locs, Pt.cells, Pt.slots] at X1 l1 y1 z1 st1 hQ1
  subst l1 y1 z1
  obtain ⟨rfl, Nq1, e1⟩ := hQ1
  have N1 := Fr.app N0 Nq1
  obtain ⟨_, _, ⟨T2, L2, k2, n2⟩, -, X2, ⟨Lc2, hQ2, l2, y2, z2⟩, st2⟩ := Jvm.LawKit.callS X1 hx (y := (⟨"com/example/winnow/winnow/BufferedTextBeginsLineBreakPinLaw", "pick", "(I)C"⟩ : MethodName)) hown (mvT hZ (hw _ (List.mem_of_getElem? (i := 0) rfl))) (mvT hZ (hw _ (List.mem_of_getElem? (i := 1) rfl))) (mvT hZ (hw _ (List.mem_of_getElem? (i := 2) rfl))) (mvT hZ (hw _ (List.mem_of_getElem? (i := 3) rfl))) (by decide) (backOf (W := 0) (rm1 l Z a0 hw [] p1 h0 n0 Z0 ) hZ (hw _ (List.mem_of_getElem? (i := 3) rfl)) (hw _ (List.mem_of_getElem? (i := 2) rfl)) (by decide) (by decide)) (g := (mkF m 7 #[.val (.int p0), .val (.int p1), .val (.int p2), .val (.int p3), .val (.int p4), .val (.int (f1 p0)), .unset, .unset, .unset, .unset, .unset, .unset, .unset] [(.int p1)])) rfl (by rw [hml]; rfl) (argsL := [(.int p1)]) (rest := []) (lenOf pd_0_0 rfl) rfl (by show 2 * 0 + _ ≤ _; exact Nat.le_of_eq rfl) (hb hby at_7) (fun _ _ => ⟨rfl, e1, (by decide : 0 + 0 ≤ _), (by decide : 0 + 0 ≤ _)⟩)
  dsimp only [Pt.U, Pt.locs, Pt.cells, Pt.slots] at X2 l2 y2 z2 st2 hQ2
  subst l2 y2 z2
  obtain ⟨rfl, Nq2, e2⟩ := hQ2
  have N2 := Fr.app N1 Nq2
  obtain ⟨_, _, ⟨T3, L3, k3, n3⟩, -, X3, ⟨Lc3, hQ3, l3, y3, z3⟩, st3⟩ := Jvm.LawKit.callS X2 hx (y := (⟨"com/example/winnow/winnow/BufferedTextBeginsLineBreakPinLaw", "pick", "(I)C"⟩ : MethodName)) hown (mvT hZ (hw _ (List.mem_of_getElem? (i := 0) rfl))) (mvT hZ (hw _ (List.mem_of_getElem? (i := 1) rfl))) (mvT hZ (hw _ (List.mem_of_getElem? (i := 2) rfl))) (mvT hZ (hw _ (List.mem_of_getElem? (i := 3) rfl))) (by decide) (backOf (W := 0) (rm1 l Z a0 hw [] p2 h0 n0 Z0 ) hZ (hw _ (List.mem_of_getElem? (i := 3) rfl)) (hw _ (List.mem_of_getElem? (i := 2) rfl)) (by decide) (by decide)) (g := (mkF m 13 #[.val (.int p0), .val (.int p1), .val (.int p2), .val (.int p3), .val (.int p4), .val (.int (f1 p0)), .val (.int (f1 p1)), .unset, .unset, .unset, .unset, .unset, .unset] [(.int p2)])) rfl (by rw [hml]; rfl) (argsL := [(.int p2)]) (rest := []) (lenOf pd_0_0 rfl) rfl (by show 2 * 0 + _ ≤ _; exact Nat.le_of_eq rfl) (hb hby at_13) (fun _ _ => ⟨rfl, e2, (by decide : 0 + 0 ≤ _), (by decide : 0 + 0 ≤ _)⟩)
  dsimp only [Pt.U, Pt.locs, Pt.cells, Pt.slots] at X3 l3 y3 z3 st3 hQ3
  subst l3 y3 z3
  obtain ⟨rfl, Nq3, e3⟩ := hQ3
  have N3 := Fr.app N2 Nq3
  obtain ⟨_, _, ⟨T4, L4, k4, n4⟩, -, X4, ⟨Lc4, hQ4, l4, y4, z4⟩, st4⟩ := Jvm.LawKit.callS X3 hx (y := (⟨"com/example/winnow/winnow/BufferedTextBeginsLineBreakPinLaw", "pick", "(I)C"⟩ : MethodName)) hown (mvT hZ (hw _ (List.mem_of_getElem? (i := 0) rfl))) (mvT hZ (hw _ (List.mem_of_getElem? (i := 1) rfl))) (mvT hZ (hw _ (List.mem_of_getElem? (i := 2) rfl))) (mvT hZ (hw _ (List.mem_of_getElem? (i := 3) rfl))) (by decide) (backOf (W := 0) (rm1 l Z a0 hw [] p3 h0 n0 Z0 ) hZ (hw _ (List.mem_of_getElem? (i := 3) rfl)) (hw _ (List.mem_of_getElem? (i := 2) rfl)) (by decide) (by decide)) (g := (mkF m 19 #[.val (.int p0), .val (.int p1), .val (.int p2), .val (.int p3), .val (.int p4), .val (.int (f1 p0)), .val (.int (f1 p1)), .val (.int (f1 p2)), .unset, .unset, .unset, .unset, .unset] [(.int p3)])) rfl (by rw [hml]; rfl) (argsL := [(.int p3)]) (rest := []) (lenOf pd_0_0 rfl) rfl (by show 2 * 0 + _ ≤ _; exact Nat.le_of_eq rfl) (hb hby at_19) (fun _ _ => ⟨rfl, e3, (by decide : 0 + 0 ≤ _), (by decide : 0 + 0 ≤ _)⟩)
  dsimp only [Pt.U, Pt.locs, Pt.cells, Pt.slots] at X4 l4 y4 z4 st4 hQ4
  subst l4 y4 z4
  obtain ⟨rfl, Nq4, e4⟩ := hQ4
  have N4 := Fr.app N3 Nq4
  refine own_back (b := T4.setTop (mkF m 28 #[.val (.int p0), .val (.int p1), .val (.int p2), .val (.int p3), .val (.int p4), .val (.int (f1 p0)), .val (.int (f1 p1)), .val (.int (f1 p2)), .val (.int (f1 p3)), .unset, .unset, .unset, .unset] [(.int (p4 &&& (1 : Int32)))])) (fun t kt => ?_) ?_
  · show Steps p.tables e below (s₁.setTop (mkF m 0 #[.val (.int p0), .val (.int p1), .val (.int p2), .val (.int p3), .val (.int p4), .unset, .unset, .unset, .unset, .unset, .unset, .unset, .unset] [])) _
    refine XS.iloadN X0.here hx rfl (hb hby at_0) rfl ?_
    show Steps p.tables e below (s₁.setTop (mkF m 1 #[.val (.int p0), .val (.int p1), .val (.int p2), .val (.int p3), .val (.int p4), .unset, .unset, .unset, .unset, .unset, .unset, .unset, .unset] [(.int p0)])) _
    refine st1 _ ?_
    show Steps p.tables e below (T1.setTop (mkF m 4 #[.val (.int p0), .val (.int p1), .val (.int p2), .val (.int p3), .val (.int p4), .unset, .unset, .unset, .unset, .unset, .unset, .unset, .unset] [(.int (f1 p0))])) _
    refine XS.istore X1.here hx rfl (hb hby at_4) rfl (l' := #[.val (.int p0), .val (.int p1), .val (.int p2), .val (.int p3), .val (.int p4), .val (.int (f1 p0)), .unset, .unset, .unset, .unset, .unset, .unset, .unset]) rfl ?_
    show Steps p.tables e below (T1.setTop (mkF m 6 #[.val (.int p0), .val (.int p1), .val (.int p2), .val (.int p3), .val (.int p4), .val (.int (f1 p0)), .unset, .unset, .unset, .unset, .unset, .unset, .unset] [])) _
    refine XS.iloadN X1.here hx rfl (hb hby at_6) rfl ?_
    show Steps p.tables e below (T1.setTop (mkF m 7 #[.val (.int p0), .val (.int p1), .val (.int p2), .val (.int p3), .val (.int p4), .val (.int (f1 p0)), .unset, .unset, .unset, .unset, .unset, .unset, .unset] [(.int p1)])) _
    refine st2 _ ?_
    show Steps p.tables e below (T2.setTop (mkF m 10 #[.val (.int p0), .val (.int p1), .val (.int p2), .val (.int p3), .val (.int p4), .val (.int (f1 p0)), .unset, .unset, .unset, .unset, .unset, .unset, .unset] [(.int (f1 p1))])) _
    refine XS.istore X2.here hx rfl (hb hby at_10) rfl (l' := #[.val (.int p0), .val (.int p1), .val (.int p2), .val (.int p3), .val (.int p4), .val (.int (f1 p0)), .val (.int (f1 p1)), .unset, .unset, .unset, .unset, .unset, .unset]) rfl ?_
    show Steps p.tables e below (T2.setTop (mkF m 12 #[.val (.int p0), .val (.int p1), .val (.int p2), .val (.int p3), .val (.int p4), .val (.int (f1 p0)), .val (.int (f1 p1)), .unset, .unset, .unset, .unset, .unset, .unset] [])) _
    refine XS.iloadN X2.here hx rfl (hb hby at_12) rfl ?_
    show Steps p.tables e below (T2.setTop (mkF m 13 #[.val (.int p0), .val (.int p1), .val (.int p2), .val (.int p3), .val (.int p4), .val (.int (f1 p0)), .val (.int (f1 p1)), .unset, .unset, .unset, .unset, .unset, .unset] [(.int p2)])) _
    refine st3 _ ?_
    show Steps p.tables e below (T3.setTop (mkF m 16 #[.val (.int p0), .val (.int p1), .val (.int p2), .val (.int p3), .val (.int p4), .val (.int (f1 p0)), .val (.int (f1 p1)), .unset, .unset, .unset, .unset, .unset, .unset] [(.int (f1 p2))])) _
    refine XS.istore X3.here hx rfl (hb hby at_16) rfl (l' := #[.val (.int p0), .val (.int p1), .val (.int p2), .val (.int p3), .val (.int p4), .val (.int (f1 p0)), .val (.int (f1 p1)), .val (.int (f1 p2)), .unset, .unset, .unset, .unset, .unset]) rfl ?_
    show Steps p.tables e below (T3.setTop (mkF m 18 #[.val (.int p0), .val (.int p1), .val (.int p2), .val (.int p3), .val (.int p4), .val (.int (f1 p0)), .val (.int (f1 p1)), .val (.int (f1 p2)), .unset, .unset, .unset, .unset, .unset] [])) _
    refine XS.iloadN X3.here hx rfl (hb hby at_18) rfl ?_
    show Steps p.tables e below (T3.setTop (mkF m 19 #[.val (.int p0), .val (.int p1), .val (.int p2), .val (.int p3), .val (.int p4), .val (.int (f1 p0)), .val (.int (f1 p1)), .val (.int (f1 p2)), .unset, .unset, .unset, .unset, .unset] [(.int p3)])) _
    refine st4 _ ?_
    show Steps p.tables e below (T4.setTop (mkF m 22 #[.val (.int p0), .val (.int p1), .val (.int p2), .val (.int p3), .val (.int p4), .val (.int (f1 p0)), .val (.int (f1 p1)), .val (.int (f1 p2)), .unset, .unset, .unset, .unset, .unset] [(.int (f1 p3))])) _
    refine XS.istore X4.here hx rfl (hb hby at_22) rfl (l' := #[.val (.int p0), .val (.int p1), .val (.int p2), .val (.int p3), .val (.int p4), .val (.int (f1 p0)), .val (.int (f1 p1)), .val (.int (f1 p2)), .val (.int (f1 p3)), .unset, .unset, .unset, .unset]) rfl ?_
    show Steps p.tables e below (T4.setTop (mkF m 24 #[.val (.int p0), .val (.int p1), .val (.int p2), .val (.int p3), .val (.int p4), .val (.int (f1 p0)), .val (.int (f1 p1)), .val (.int (f1 p2)), .val (.int (f1 p3)), .unset, .unset, .unset, .unset] [])) _
    refine XS.iload X4.here hx rfl (hb hby at_24) rfl ?_
    show Steps p.tables e below (T4.setTop (mkF m 26 #[.val (.int p0), .val (.int p1), .val (.int p2), .val (.int p3), .val (.int p4), .val (.int (f1 p0)), .val (.int (f1 p1)), .val (.int (f1 p2)), .val (.int (f1 p3)), .unset, .unset, .unset, .unset] [(.int p4)])) _
    refine XS.iconst X4.here hx rfl (hb hby at_26) ?_
    show Steps p.tables e below (T4.setTop (mkF m 27 #[.val (.int p0), .val (.int p1), .val (.int p2), .val (.int p3), .val (.int p4), .val (.int (f1 p0)), .val (.int (f1 p1)), .val (.int (f1 p2)), .val (.int (f1 p3)), .unset, .unset, .unset, .unset] [(.int (1 : Int32)), (.int p4)])) _
    refine XS.iand X4.here hx rfl (hb hby at_27) rfl ?_
    exact kt
  refine own_back (b := T4.setTop (mkF m 36 #[.val (.int p0), .val (.int p1), .val (.int p2), .val (.int p3), .val (.int p4), .val (.int (f1 p0)), .val (.int (f1 p1)), .val (.int (f1 p2)), .val (.int (f1 p3)), .unset, .unset, .unset, .unset] [(.int (m0_0 p0 p1 p2 p3 p4))])) (fun t kt => ?_) ?_
  · by_cases hm28_5 : (p4 &&& (1 : Int32)) = (0 : Int32)
    · rw [show (m0_0 p0 p1 p2 p3 p4) = (0 : Int32) from by unfold m0_0; rw [if_pos hm28_5]] at kt
      show Steps p.tables e below (T4.setTop (mkF m 28 #[.val (.int p0), .val (.int p1), .val (.int p2), .val (.int p3), .val (.int p4), .val (.int (f1 p0)), .val (.int (f1 p1)), .val (.int (f1 p2)), .val (.int (f1 p3)), .unset, .unset, .unset, .unset] [(.int (p4 &&& (1 : Int32)))])) _
      refine XS.ifYes X4.here hx rfl (pc0 := 28) (pc' := 35) rfl (hb hby at_28) rfl ((if0 _ _).trans (teq hm28_5).1) (by decide) (by decide) ?_
      show Steps p.tables e below (T4.setTop (mkF m 35 #[.val (.int p0), .val (.int p1), .val (.int p2), .val (.int p3), .val (.int p4), .val (.int (f1 p0)), .val (.int (f1 p1)), .val (.int (f1 p2)), .val (.int (f1 p3)), .unset, .unset, .unset, .unset] [])) _
      refine XS.iconst X4.here hx rfl (hb hby at_35) ?_
      exact kt
    · rw [show (m0_0 p0 p1 p2 p3 p4) = (1 : Int32) from by unfold m0_0; rw [if_neg hm28_5]] at kt
      show Steps p.tables e below (T4.setTop (mkF m 28 #[.val (.int p0), .val (.int p1), .val (.int p2), .val (.int p3), .val (.int p4), .val (.int (f1 p0)), .val (.int (f1 p1)), .val (.int (f1 p2)), .val (.int (f1 p3)), .unset, .unset, .unset, .unset] [(.int (p4 &&& (1 : Int32)))])) _
      refine XS.ifNo X4.here hx rfl (hb hby at_28) rfl ((if0 _ _).trans (feq hm28_5).1) ?_
      show Steps p.tables e below (T4.setTop (mkF m 31 #[.val (.int p0), .val (.int p1), .val (.int p2), .val (.int p3), .val (.int p4), .val (.int (f1 p0)), .val (.int (f1 p1)), .val (.int (f1 p2)), .val (.int (f1 p3)), .unset, .unset, .unset, .unset] [])) _
      refine XS.iconst X4.here hx rfl (hb hby at_31) ?_
      show Steps p.tables e below (T4.setTop (mkF m 32 #[.val (.int p0), .val (.int p1), .val (.int p2), .val (.int p3), .val (.int p4), .val (.int (f1 p0)), .val (.int (f1 p1)), .val (.int (f1 p2)), .val (.int (f1 p3)), .unset, .unset, .unset, .unset] [(.int (1 : Int32))])) _
      refine XS.goto X4.here hx rfl (pc0 := 32) (pc' := 36) rfl (hb hby at_32) (by decide) (by decide) ?_
      exact kt
  obtain ⟨_, _, ⟨T6, L6, k6, n6⟩, -, X6, ⟨Lc6, hQ6, l6, y6, z6⟩, st6⟩ := Jvm.LawKit.callS X4 hx (y := (⟨"com/example/winnow/winnow/TextFile$BufferedText", "beginsLineBreak", "(CZ)Z"⟩ : MethodName)) hown (mvT hZ (hw _ (List.mem_of_getElem? (i := 4) rfl))) (mvT hZ (hw _ (List.mem_of_getElem? (i := 5) rfl))) (mvT hZ (hw _ (List.mem_of_getElem? (i := 6) rfl))) (mvT hZ (hw _ (List.mem_of_getElem? (i := 7) rfl))) (by decide) (backOf (W := 0) (rm2 l Z a0 hw [] (f1 p0) (m0_0 p0 p1 p2 p3 p4) h0 n0 Z0 ) hZ (hw _ (List.mem_of_getElem? (i := 7) rfl)) (hw _ (List.mem_of_getElem? (i := 6) rfl)) (by decide) (by decide)) (g := (mkF m 45 #[.val (.int p0), .val (.int p1), .val (.int p2), .val (.int p3), .val (.int p4), .val (.int (f1 p0)), .val (.int (f1 p1)), .val (.int (f1 p2)), .val (.int (f1 p3)), .val (.int (m0_0 p0 p1 p2 p3 p4)), .val (.int (0 : Int32)), .unset, .unset] [(.int (m0_0 p0 p1 p2 p3 p4)), (.int (f1 p0))])) rfl (by rw [hml]; rfl) (argsL := [(.int (f1 p0)), (.int (m0_0 p0 p1 p2 p3 p4))]) (rest := []) (lenOf pd_0_1 rfl) rfl (by show 2 * 0 + _ ≤ _; exact Nat.le_of_eq rfl) (hb hby at_45) (fun _ _ => ⟨rfl, e4, (by decide : 0 + 0 ≤ _), (by decide : 0 + 0 ≤ _)⟩)
  dsimp only [Pt.U, Pt.locs, Pt.cells, Pt.slots] at X6 l6 y6 z6 st6 hQ6
  subst l6 y6 z6
  obtain ⟨rfl, Nq6, e6⟩ := hQ6
  have N6 := Fr.app N4 Nq6
  refine own_back (b := T6.setTop (mkF m 48 #[.val (.int p0), .val (.int p1), .val (.int p2), .val (.int p3), .val (.int p4), .val (.int (f1 p0)), .val (.int (f1 p1)), .val (.int (f1 p2)), .val (.int (f1 p3)), .val (.int (m0_0 p0 p1 p2 p3 p4)), .val (.int (0 : Int32)), .unset, .unset] [(.int (f2 (f1 p0) (m0_0 p0 p1 p2 p3 p4)))])) (fun t kt => ?_) ?_
  · show Steps p.tables e below (T4.setTop (mkF m 36 #[.val (.int p0), .val (.int p1), .val (.int p2), .val (.int p3), .val (.int p4), .val (.int (f1 p0)), .val (.int (f1 p1)), .val (.int (f1 p2)), .val (.int (f1 p3)), .unset, .unset, .unset, .unset] [(.int (m0_0 p0 p1 p2 p3 p4))])) _
    refine XS.istore X4.here hx rfl (hb hby at_36) rfl (l' := #[.val (.int p0), .val (.int p1), .val (.int p2), .val (.int p3), .val (.int p4), .val (.int (f1 p0)), .val (.int (f1 p1)), .val (.int (f1 p2)), .val (.int (f1 p3)), .val (.int (m0_0 p0 p1 p2 p3 p4)), .unset, .unset, .unset]) rfl ?_
    show Steps p.tables e below (T4.setTop (mkF m 38 #[.val (.int p0), .val (.int p1), .val (.int p2), .val (.int p3), .val (.int p4), .val (.int (f1 p0)), .val (.int (f1 p1)), .val (.int (f1 p2)), .val (.int (f1 p3)), .val (.int (m0_0 p0 p1 p2 p3 p4)), .unset, .unset, .unset] [])) _
    refine XS.iconst X4.here hx rfl (hb hby at_38) ?_
    show Steps p.tables e below (T4.setTop (mkF m 39 #[.val (.int p0), .val (.int p1), .val (.int p2), .val (.int p3), .val (.int p4), .val (.int (f1 p0)), .val (.int (f1 p1)), .val (.int (f1 p2)), .val (.int (f1 p3)), .val (.int (m0_0 p0 p1 p2 p3 p4)), .unset, .unset, .unset] [(.int (0 : Int32))])) _
    refine XS.istore X4.here hx rfl (hb hby at_39) rfl (l' := #[.val (.int p0), .val (.int p1), .val (.int p2), .val (.int p3), .val (.int p4), .val (.int (f1 p0)), .val (.int (f1 p1)), .val (.int (f1 p2)), .val (.int (f1 p3)), .val (.int (m0_0 p0 p1 p2 p3 p4)), .val (.int (0 : Int32)), .unset, .unset]) rfl ?_
    show Steps p.tables e below (T4.setTop (mkF m 41 #[.val (.int p0), .val (.int p1), .val (.int p2), .val (.int p3), .val (.int p4), .val (.int (f1 p0)), .val (.int (f1 p1)), .val (.int (f1 p2)), .val (.int (f1 p3)), .val (.int (m0_0 p0 p1 p2 p3 p4)), .val (.int (0 : Int32)), .unset, .unset] [])) _
    refine XS.iload X4.here hx rfl (hb hby at_41) rfl ?_
    show Steps p.tables e below (T4.setTop (mkF m 43 #[.val (.int p0), .val (.int p1), .val (.int p2), .val (.int p3), .val (.int p4), .val (.int (f1 p0)), .val (.int (f1 p1)), .val (.int (f1 p2)), .val (.int (f1 p3)), .val (.int (m0_0 p0 p1 p2 p3 p4)), .val (.int (0 : Int32)), .unset, .unset] [(.int (f1 p0))])) _
    refine XS.iload X4.here hx rfl (hb hby at_43) rfl ?_
    show Steps p.tables e below (T4.setTop (mkF m 45 #[.val (.int p0), .val (.int p1), .val (.int p2), .val (.int p3), .val (.int p4), .val (.int (f1 p0)), .val (.int (f1 p1)), .val (.int (f1 p2)), .val (.int (f1 p3)), .val (.int (m0_0 p0 p1 p2 p3 p4)), .val (.int (0 : Int32)), .unset, .unset] [(.int (m0_0 p0 p1 p2 p3 p4)), (.int (f1 p0))])) _
    refine st6 _ ?_
    exact kt
  refine own_back (b := T6.setTop (mkF m 54 #[.val (.int p0), .val (.int p1), .val (.int p2), .val (.int p3), .val (.int p4), .val (.int (f1 p0)), .val (.int (f1 p1)), .val (.int (f1 p2)), .val (.int (f1 p3)), .val (.int (m0_0 p0 p1 p2 p3 p4)), .val (.int (m0_1 p0 p1 p2 p3 p4)), .unset, .unset] [])) (fun t kt => ?_) ?_
  · by_cases hm48_7 : (f2 (f1 p0) (m0_0 p0 p1 p2 p3 p4)) = (0 : Int32)
    · rw [show (m0_1 p0 p1 p2 p3 p4) = (0 : Int32) from by unfold m0_1; rw [if_pos hm48_7]] at kt
      show Steps p.tables e below (T6.setTop (mkF m 48 #[.val (.int p0), .val (.int p1), .val (.int p2), .val (.int p3), .val (.int p4), .val (.int (f1 p0)), .val (.int (f1 p1)), .val (.int (f1 p2)), .val (.int (f1 p3)), .val (.int (m0_0 p0 p1 p2 p3 p4)), .val (.int (0 : Int32)), .unset, .unset] [(.int (f2 (f1 p0) (m0_0 p0 p1 p2 p3 p4)))])) _
      refine XS.ifYes X6.here hx rfl (pc0 := 48) (pc' := 54) rfl (hb hby at_48) rfl ((if0 _ _).trans (teq hm48_7).1) (by decide) (by decide) ?_
      exact kt
    · rw [show (m0_1 p0 p1 p2 p3 p4) = ((0 : Int32) + (1 : Int32)) from by unfold m0_1; rw [if_neg hm48_7]] at kt
      show Steps p.tables e below (T6.setTop (mkF m 48 #[.val (.int p0), .val (.int p1), .val (.int p2), .val (.int p3), .val (.int p4), .val (.int (f1 p0)), .val (.int (f1 p1)), .val (.int (f1 p2)), .val (.int (f1 p3)), .val (.int (m0_0 p0 p1 p2 p3 p4)), .val (.int (0 : Int32)), .unset, .unset] [(.int (f2 (f1 p0) (m0_0 p0 p1 p2 p3 p4)))])) _
      refine XS.ifNo X6.here hx rfl (hb hby at_48) rfl ((if0 _ _).trans (feq hm48_7).1) ?_
      show Steps p.tables e below (T6.setTop (mkF m 51 #[.val (.int p0), .val (.int p1), .val (.int p2), .val (.int p3), .val (.int p4), .val (.int (f1 p0)), .val (.int (f1 p1)), .val (.int (f1 p2)), .val (.int (f1 p3)), .val (.int (m0_0 p0 p1 p2 p3 p4)), .val (.int (0 : Int32)), .unset, .unset] [])) _
      refine XS.iinc X6.here hx rfl (hb hby at_51) rfl (l' := #[.val (.int p0), .val (.int p1), .val (.int p2), .val (.int p3), .val (.int p4), .val (.int (f1 p0)), .val (.int (f1 p1)), .val (.int (f1 p2)), .val (.int (f1 p3)), .val (.int (m0_0 p0 p1 p2 p3 p4)), .val (.int ((0 : Int32) + (1 : Int32))), .unset, .unset]) rfl ?_
      exact kt
  refine own_back (b := T6.setTop (mkF m 60 #[.val (.int p0), .val (.int p1), .val (.int p2), .val (.int p3), .val (.int p4), .val (.int (f1 p0)), .val (.int (f1 p1)), .val (.int (f1 p2)), .val (.int (f1 p3)), .val (.int (m0_0 p0 p1 p2 p3 p4)), .val (.int (m0_1 p0 p1 p2 p3 p4)), .unset, .unset] [(.int (13 : Int32)), (.int (f1 p0)), (.int (f1 p1))])) (fun t kt => ?_) ?_
  · show Steps p.tables e below (T6.setTop (mkF m 54 #[.val (.int p0), .val (.int p1), .val (.int p2), .val (.int p3), .val (.int p4), .val (.int (f1 p0)), .val (.int (f1 p1)), .val (.int (f1 p2)), .val (.int (f1 p3)), .val (.int (m0_0 p0 p1 p2 p3 p4)), .val (.int (m0_1 p0 p1 p2 p3 p4)), .unset, .unset] [])) _
    refine XS.iload X6.here hx rfl (hb hby at_54) rfl ?_
    show Steps p.tables e below (T6.setTop (mkF m 56 #[.val (.int p0), .val (.int p1), .val (.int p2), .val (.int p3), .val (.int p4), .val (.int (f1 p0)), .val (.int (f1 p1)), .val (.int (f1 p2)), .val (.int (f1 p3)), .val (.int (m0_0 p0 p1 p2 p3 p4)), .val (.int (m0_1 p0 p1 p2 p3 p4)), .unset, .unset] [(.int (f1 p1))])) _
    refine XS.iload X6.here hx rfl (hb hby at_56) rfl ?_
    show Steps p.tables e below (T6.setTop (mkF m 58 #[.val (.int p0), .val (.int p1), .val (.int p2), .val (.int p3), .val (.int p4), .val (.int (f1 p0)), .val (.int (f1 p1)), .val (.int (f1 p2)), .val (.int (f1 p3)), .val (.int (m0_0 p0 p1 p2 p3 p4)), .val (.int (m0_1 p0 p1 p2 p3 p4)), .unset, .unset] [(.int (f1 p0)), (.int (f1 p1))])) _
    refine XS.bipush X6.here hx rfl (hb hby at_58) ?_
    exact kt
  refine own_back (b := T6.setTop (mkF m 68 #[.val (.int p0), .val (.int p1), .val (.int p2), .val (.int p3), .val (.int p4), .val (.int (f1 p0)), .val (.int (f1 p1)), .val (.int (f1 p2)), .val (.int (f1 p3)), .val (.int (m0_0 p0 p1 p2 p3 p4)), .val (.int (m0_1 p0 p1 p2 p3 p4)), .unset, .unset] [(.int (m0_2 p0 p1 p2 p3 p4)), (.int (f1 p1))])) (fun t kt => ?_) ?_
  · by_cases hm60_8 : (f1 p0) = (13 : Int32)
    · rw [show (m0_2 p0 p1 p2 p3 p4) = (1 : Int32) from by unfold m0_2; rw [if_pos hm60_8]] at kt
      show Steps p.tables e below (T6.setTop (mkF m 60 #[.val (.int p0), .val (.int p1), .val (.int p2), .val (.int p3), .val (.int p4), .val (.int (f1 p0)), .val (.int (f1 p1)), .val (.int (f1 p2)), .val (.int (f1 p3)), .val (.int (m0_0 p0 p1 p2 p3 p4)), .val (.int (m0_1 p0 p1 p2 p3 p4)), .unset, .unset] [(.int (13 : Int32)), (.int (f1 p0)), (.int (f1 p1))])) _
      refine XS.icmpNo X6.here hx rfl (hb hby at_60) rfl (teq hm60_8).2 ?_
      show Steps p.tables e below (T6.setTop (mkF m 63 #[.val (.int p0), .val (.int p1), .val (.int p2), .val (.int p3), .val (.int p4), .val (.int (f1 p0)), .val (.int (f1 p1)), .val (.int (f1 p2)), .val (.int (f1 p3)), .val (.int (m0_0 p0 p1 p2 p3 p4)), .val (.int (m0_1 p0 p1 p2 p3 p4)), .unset, .unset] [(.int (f1 p1))])) _
      refine XS.iconst X6.here hx rfl (hb hby at_63) ?_
      show Steps p.tables e below (T6.setTop (mkF m 64 #[.val (.int p0), .val (.int p1), .val (.int p2), .val (.int p3), .val (.int p4), .val (.int (f1 p0)), .val (.int (f1 p1)), .val (.int (f1 p2)), .val (.int (f1 p3)), .val (.int (m0_0 p0 p1 p2 p3 p4)), .val (.int (m0_1 p0 p1 p2 p3 p4)), .unset, .unset] [(.int (1 : Int32)), (.int (f1 p1))])) _
      refine XS.goto X6.here hx rfl (pc0 := 64) (pc' := 68) rfl (hb hby at_64) (by decide) (by decide) ?_
      exact kt
    · rw [show (m0_2 p0 p1 p2 p3 p4) = (0 : Int32) from by unfold m0_2; rw [if_neg hm60_8]] at kt
      show Steps p.tables e below (T6.setTop (mkF m 60 #[.val (.int p0), .val (.int p1), .val (.int p2), .val (.int p3), .val (.int p4), .val (.int (f1 p0)), .val (.int (f1 p1)), .val (.int (f1 p2)), .val (.int (f1 p3)), .val (.int (m0_0 p0 p1 p2 p3 p4)), .val (.int (m0_1 p0 p1 p2 p3 p4)), .unset, .unset] [(.int (13 : Int32)), (.int (f1 p0)), (.int (f1 p1))])) _
      refine XS.icmpYes X6.here hx rfl (pc0 := 60) (pc' := 67) rfl (hb hby at_60) rfl (feq hm60_8).2 (by decide) (by decide) ?_
      show Steps p.tables e below (T6.setTop (mkF m 67 #[.val (.int p0), .val (.int p1), .val (.int p2), .val (.int p3), .val (.int p4), .val (.int (f1 p0)), .val (.int (f1 p1)), .val (.int (f1 p2)), .val (.int (f1 p3)), .val (.int (m0_0 p0 p1 p2 p3 p4)), .val (.int (m0_1 p0 p1 p2 p3 p4)), .unset, .unset] [(.int (f1 p1))])) _
      refine XS.iconst X6.here hx rfl (hb hby at_67) ?_
      exact kt
  obtain ⟨_, _, ⟨T9, L9, k9, n9⟩, -, X9, ⟨Lc9, hQ9, l9, y9, z9⟩, st9⟩ := Jvm.LawKit.callS X6 hx (y := (⟨"com/example/winnow/winnow/TextFile$BufferedText", "beginsLineBreak", "(CZ)Z"⟩ : MethodName)) hown (mvT hZ (hw _ (List.mem_of_getElem? (i := 4) rfl))) (mvT hZ (hw _ (List.mem_of_getElem? (i := 5) rfl))) (mvT hZ (hw _ (List.mem_of_getElem? (i := 6) rfl))) (mvT hZ (hw _ (List.mem_of_getElem? (i := 7) rfl))) (by decide) (backOf (W := 0) (rm2 l Z a0 hw [] (f1 p1) (m0_2 p0 p1 p2 p3 p4) h0 n0 Z0 ) hZ (hw _ (List.mem_of_getElem? (i := 7) rfl)) (hw _ (List.mem_of_getElem? (i := 6) rfl)) (by decide) (by decide)) (g := (mkF m 68 #[.val (.int p0), .val (.int p1), .val (.int p2), .val (.int p3), .val (.int p4), .val (.int (f1 p0)), .val (.int (f1 p1)), .val (.int (f1 p2)), .val (.int (f1 p3)), .val (.int (m0_0 p0 p1 p2 p3 p4)), .val (.int (m0_1 p0 p1 p2 p3 p4)), .unset, .unset] [(.int (m0_2 p0 p1 p2 p3 p4)), (.int (f1 p1))])) rfl (by rw [hml]; rfl) (argsL := [(.int (f1 p1)), (.int (m0_2 p0 p1 p2 p3 p4))]) (rest := []) (lenOf pd_0_1 rfl) rfl (by show 2 * 0 + _ ≤ _; exact Nat.le_of_eq rfl) (hb hby at_68) (fun _ _ => ⟨rfl, e6, (by decide : 0 + 0 ≤ _), (by decide : 0 + 0 ≤ _)⟩)
  dsimp only [Pt.U, Pt.locs, Pt.cells, Pt.slots] at X9 l9 y9 z9 st9 hQ9
  subst l9 y9 z9
  obtain ⟨rfl, Nq9, e9⟩ := hQ9
  have N9 := Fr.app N6 Nq9
  refine own_back (b := T9.setTop (mkF m 71 #[.val (.int p0), .val (.int p1), .val (.int p2), .val (.int p3), .val (.int p4), .val (.int (f1 p0)), .val (.int (f1 p1)), .val (.int (f1 p2)), .val (.int (f1 p3)), .val (.int (m0_0 p0 p1 p2 p3 p4)), .val (.int (m0_1 p0 p1 p2 p3 p4)), .unset, .unset] [(.int (f2 (f1 p1) (m0_2 p0 p1 p2 p3 p4)))])) (fun t kt => ?_) ?_
  · show Steps p.tables e below (T6.setTop (mkF m 68 #[.val (.int p0), .val (.int p1), .val (.int p2), .val (.int p3), .val (.int p4), .val (.int (f1 p0)), .val (.int (f1 p1)), .val (.int (f1 p2)), .val (.int (f1 p3)), .val (.int (m0_0 p0 p1 p2 p3 p4)), .val (.int (m0_1 p0 p1 p2 p3 p4)), .unset, .unset] [(.int (m0_2 p0 p1 p2 p3 p4)), (.int (f1 p1))])) _
    refine st9 _ ?_
    exact kt
  refine own_back (b := T9.setTop (mkF m 77 #[.val (.int p0), .val (.int p1), .val (.int p2), .val (.int p3), .val (.int p4), .val (.int (f1 p0)), .val (.int (f1 p1)), .val (.int (f1 p2)), .val (.int (f1 p3)), .val (.int (m0_0 p0 p1 p2 p3 p4)), .val (.int (m0_3 p0 p1 p2 p3 p4)), .unset, .unset] [])) (fun t kt => ?_) ?_
  · by_cases hm71_10 : (f2 (f1 p1) (m0_2 p0 p1 p2 p3 p4)) = (0 : Int32)
    · rw [show (m0_3 p0 p1 p2 p3 p4) = (m0_1 p0 p1 p2 p3 p4) from by unfold m0_3; rw [if_pos hm71_10]] at kt
      show Steps p.tables e below (T9.setTop (mkF m 71 #[.val (.int p0), .val (.int p1), .val (.int p2), .val (.int p3), .val (.int p4), .val (.int (f1 p0)), .val (.int (f1 p1)), .val (.int (f1 p2)), .val (.int (f1 p3)), .val (.int (m0_0 p0 p1 p2 p3 p4)), .val (.int (m0_1 p0 p1 p2 p3 p4)), .unset, .unset] [(.int (f2 (f1 p1) (m0_2 p0 p1 p2 p3 p4)))])) _
      refine XS.ifYes X9.here hx rfl (pc0 := 71) (pc' := 77) rfl (hb hby at_71) rfl ((if0 _ _).trans (teq hm71_10).1) (by decide) (by decide) ?_
      exact kt
    · rw [show (m0_3 p0 p1 p2 p3 p4) = ((m0_1 p0 p1 p2 p3 p4) + (1 : Int32)) from by unfold m0_3; rw [if_neg hm71_10]] at kt
      show Steps p.tables e below (T9.setTop (mkF m 71 #[.val (.int p0), .val (.int p1), .val (.int p2), .val (.int p3), .val (.int p4), .val (.int (f1 p0)), .val (.int (f1 p1)), .val (.int (f1 p2)), .val (.int (f1 p3)), .val (.int (m0_0 p0 p1 p2 p3 p4)), .val (.int (m0_1 p0 p1 p2 p3 p4)), .unset, .unset] [(.int (f2 (f1 p1) (m0_2 p0 p1 p2 p3 p4)))])) _
      refine XS.ifNo X9.here hx rfl (hb hby at_71) rfl ((if0 _ _).trans (feq hm71_10).1) ?_
      show Steps p.tables e below (T9.setTop (mkF m 74 #[.val (.int p0), .val (.int p1), .val (.int p2), .val (.int p3), .val (.int p4), .val (.int (f1 p0)), .val (.int (f1 p1)), .val (.int (f1 p2)), .val (.int (f1 p3)), .val (.int (m0_0 p0 p1 p2 p3 p4)), .val (.int (m0_1 p0 p1 p2 p3 p4)), .unset, .unset] [])) _
      refine XS.iinc X9.here hx rfl (hb hby at_74) rfl (l' := #[.val (.int p0), .val (.int p1), .val (.int p2), .val (.int p3), .val (.int p4), .val (.int (f1 p0)), .val (.int (f1 p1)), .val (.int (f1 p2)), .val (.int (f1 p3)), .val (.int (m0_0 p0 p1 p2 p3 p4)), .val (.int ((m0_1 p0 p1 p2 p3 p4) + (1 : Int32))), .unset, .unset]) rfl ?_
      exact kt
  refine own_back (b := T9.setTop (mkF m 83 #[.val (.int p0), .val (.int p1), .val (.int p2), .val (.int p3), .val (.int p4), .val (.int (f1 p0)), .val (.int (f1 p1)), .val (.int (f1 p2)), .val (.int (f1 p3)), .val (.int (m0_0 p0 p1 p2 p3 p4)), .val (.int (m0_3 p0 p1 p2 p3 p4)), .unset, .unset] [(.int (13 : Int32)), (.int (f1 p1)), (.int (f1 p2))])) (fun t kt => ?_) ?_
  · show Steps p.tables e below (T9.setTop (mkF m 77 #[.val (.int p0), .val (.int p1), .val (.int p2), .val (.int p3), .val (.int p4), .val (.int (f1 p0)), .val (.int (f1 p1)), .val (.int (f1 p2)), .val (.int (f1 p3)), .val (.int (m0_0 p0 p1 p2 p3 p4)), .val (.int (m0_3 p0 p1 p2 p3 p4)), .unset, .unset] [])) _
    refine XS.iload X9.here hx rfl (hb hby at_77) rfl ?_
    show Steps p.tables e below (T9.setTop (mkF m 79 #[.val (.int p0), .val (.int p1), .val (.int p2), .val (.int p3), .val (.int p4), .val (.int (f1 p0)), .val (.int (f1 p1)), .val (.int (f1 p2)), .val (.int (f1 p3)), .val (.int (m0_0 p0 p1 p2 p3 p4)), .val (.int (m0_3 p0 p1 p2 p3 p4)), .unset, .unset] [(.int (f1 p2))])) _
    refine XS.iload X9.here hx rfl (hb hby at_79) rfl ?_
    show Steps p.tables e below (T9.setTop (mkF m 81 #[.val (.int p0), .val (.int p1), .val (.int p2), .val (.int p3), .val (.int p4), .val (.int (f1 p0)), .val (.int (f1 p1)), .val (.int (f1 p2)), .val (.int (f1 p3)), .val (.int (m0_0 p0 p1 p2 p3 p4)), .val (.int (m0_3 p0 p1 p2 p3 p4)), .unset, .unset] [(.int (f1 p1)), (.int (f1 p2))])) _
    refine XS.bipush X9.here hx rfl (hb hby at_81) ?_
    exact kt
  refine own_back (b := T9.setTop (mkF m 91 #[.val (.int p0), .val (.int p1), .val (.int p2), .val (.int p3), .val (.int p4), .val (.int (f1 p0)), .val (.int (f1 p1)), .val (.int (f1 p2)), .val (.int (f1 p3)), .val (.int (m0_0 p0 p1 p2 p3 p4)), .val (.int (m0_3 p0 p1 p2 p3 p4)), .unset, .unset] [(.int (m0_4 p0 p1 p2 p3 p4)), (.int (f1 p2))])) (fun t kt => ?_) ?_
  · by_cases hm83_11 : (f1 p1) = (13 : Int32)
    · rw [show (m0_4 p0 p1 p2 p3 p4) = (1 : Int32) from by unfold m0_4; rw [if_pos hm83_11]] at kt
      show Steps p.tables e below (T9.setTop (mkF m 83 #[.val (.int p0), .val (.int p1), .val (.int p2), .val (.int p3), .val (.int p4), .val (.int (f1 p0)), .val (.int (f1 p1)), .val (.int (f1 p2)), .val (.int (f1 p3)), .val (.int (m0_0 p0 p1 p2 p3 p4)), .val (.int (m0_3 p0 p1 p2 p3 p4)), .unset, .unset] [(.int (13 : Int32)), (.int (f1 p1)), (.int (f1 p2))])) _
      refine XS.icmpNo X9.here hx rfl (hb hby at_83) rfl (teq hm83_11).2 ?_
      show Steps p.tables e below (T9.setTop (mkF m 86 #[.val (.int p0), .val (.int p1), .val (.int p2), .val (.int p3), .val (.int p4), .val (.int (f1 p0)), .val (.int (f1 p1)), .val (.int (f1 p2)), .val (.int (f1 p3)), .val (.int (m0_0 p0 p1 p2 p3 p4)), .val (.int (m0_3 p0 p1 p2 p3 p4)), .unset, .unset] [(.int (f1 p2))])) _
      refine XS.iconst X9.here hx rfl (hb hby at_86) ?_
      show Steps p.tables e below (T9.setTop (mkF m 87 #[.val (.int p0), .val (.int p1), .val (.int p2), .val (.int p3), .val (.int p4), .val (.int (f1 p0)), .val (.int (f1 p1)), .val (.int (f1 p2)), .val (.int (f1 p3)), .val (.int (m0_0 p0 p1 p2 p3 p4)), .val (.int (m0_3 p0 p1 p2 p3 p4)), .unset, .unset] [(.int (1 : Int32)), (.int (f1 p2))])) _
      refine XS.goto X9.here hx rfl (pc0 := 87) (pc' := 91) rfl (hb hby at_87) (by decide) (by decide) ?_
      exact kt
    · rw [show (m0_4 p0 p1 p2 p3 p4) = (0 : Int32) from by unfold m0_4; rw [if_neg hm83_11]] at kt
      show Steps p.tables e below (T9.setTop (mkF m 83 #[.val (.int p0), .val (.int p1), .val (.int p2), .val (.int p3), .val (.int p4), .val (.int (f1 p0)), .val (.int (f1 p1)), .val (.int (f1 p2)), .val (.int (f1 p3)), .val (.int (m0_0 p0 p1 p2 p3 p4)), .val (.int (m0_3 p0 p1 p2 p3 p4)), .unset, .unset] [(.int (13 : Int32)), (.int (f1 p1)), (.int (f1 p2))])) _
      refine XS.icmpYes X9.here hx rfl (pc0 := 83) (pc' := 90) rfl (hb hby at_83) rfl (feq hm83_11).2 (by decide) (by decide) ?_
      show Steps p.tables e below (T9.setTop (mkF m 90 #[.val (.int p0), .val (.int p1), .val (.int p2), .val (.int p3), .val (.int p4), .val (.int (f1 p0)), .val (.int (f1 p1)), .val (.int (f1 p2)), .val (.int (f1 p3)), .val (.int (m0_0 p0 p1 p2 p3 p4)), .val (.int (m0_3 p0 p1 p2 p3 p4)), .unset, .unset] [(.int (f1 p2))])) _
      refine XS.iconst X9.here hx rfl (hb hby at_90) ?_
      exact kt
  obtain ⟨_, _, ⟨T12, L12, k12, n12⟩, -, X12, ⟨Lc12, hQ12, l12, y12, z12⟩, st12⟩ := Jvm.LawKit.callS X9 hx (y := (⟨"com/example/winnow/winnow/TextFile$BufferedText", "beginsLineBreak", "(CZ)Z"⟩ : MethodName)) hown (mvT hZ (hw _ (List.mem_of_getElem? (i := 4) rfl))) (mvT hZ (hw _ (List.mem_of_getElem? (i := 5) rfl))) (mvT hZ (hw _ (List.mem_of_getElem? (i := 6) rfl))) (mvT hZ (hw _ (List.mem_of_getElem? (i := 7) rfl))) (by decide) (backOf (W := 0) (rm2 l Z a0 hw [] (f1 p2) (m0_4 p0 p1 p2 p3 p4) h0 n0 Z0 ) hZ (hw _ (List.mem_of_getElem? (i := 7) rfl)) (hw _ (List.mem_of_getElem? (i := 6) rfl)) (by decide) (by decide)) (g := (mkF m 91 #[.val (.int p0), .val (.int p1), .val (.int p2), .val (.int p3), .val (.int p4), .val (.int (f1 p0)), .val (.int (f1 p1)), .val (.int (f1 p2)), .val (.int (f1 p3)), .val (.int (m0_0 p0 p1 p2 p3 p4)), .val (.int (m0_3 p0 p1 p2 p3 p4)), .unset, .unset] [(.int (m0_4 p0 p1 p2 p3 p4)), (.int (f1 p2))])) rfl (by rw [hml]; rfl) (argsL := [(.int (f1 p2)), (.int (m0_4 p0 p1 p2 p3 p4))]) (rest := []) (lenOf pd_0_1 rfl) rfl (by show 2 * 0 + _ ≤ _; exact Nat.le_of_eq rfl) (hb hby at_91) (fun _ _ => ⟨rfl, e9, (by decide : 0 + 0 ≤ _), (by decide : 0 + 0 ≤ _)⟩)
  dsimp only [Pt.U, Pt.locs, Pt.cells, Pt.slots] at X12 l12 y12 z12 st12 hQ12
  subst l12 y12 z12
  obtain ⟨rfl, Nq12, e12⟩ := hQ12
  have N12 := Fr.app N9 Nq12
  refine own_back (b := T12.setTop (mkF m 94 #[.val (.int p0), .val (.int p1), .val (.int p2), .val (.int p3), .val (.int p4), .val (.int (f1 p0)), .val (.int (f1 p1)), .val (.int (f1 p2)), .val (.int (f1 p3)), .val (.int (m0_0 p0 p1 p2 p3 p4)), .val (.int (m0_3 p0 p1 p2 p3 p4)), .unset, .unset] [(.int (f2 (f1 p2) (m0_4 p0 p1 p2 p3 p4)))])) (fun t kt => ?_) ?_
  · show Steps p.tables e below (T9.setTop (mkF m 91 #[.val (.int p0), .val (.int p1), .val (.int p2), .val (.int p3), .val (.int p4), .val (.int (f1 p0)), .val (.int (f1 p1)), .val (.int (f1 p2)), .val (.int (f1 p3)), .val (.int (m0_0 p0 p1 p2 p3 p4)), .val (.int (m0_3 p0 p1 p2 p3 p4)), .unset, .unset] [(.int (m0_4 p0 p1 p2 p3 p4)), (.int (f1 p2))])) _
    refine st12 _ ?_
    exact kt
  refine own_back (b := T12.setTop (mkF m 100 #[.val (.int p0), .val (.int p1), .val (.int p2), .val (.int p3), .val (.int p4), .val (.int (f1 p0)), .val (.int (f1 p1)), .val (.int (f1 p2)), .val (.int (f1 p3)), .val (.int (m0_0 p0 p1 p2 p3 p4)), .val (.int (m0_5 p0 p1 p2 p3 p4)), .unset, .unset] [])) (fun t kt => ?_) ?_
  · by_cases hm94_13 : (f2 (f1 p2) (m0_4 p0 p1 p2 p3 p4)) = (0 : Int32)
    · rw [show (m0_5 p0 p1 p2 p3 p4) = (m0_3 p0 p1 p2 p3 p4) from by unfold m0_5; rw [if_pos hm94_13]] at kt
      show Steps p.tables e below (T12.setTop (mkF m 94 #[.val (.int p0), .val (.int p1), .val (.int p2), .val (.int p3), .val (.int p4), .val (.int (f1 p0)), .val (.int (f1 p1)), .val (.int (f1 p2)), .val (.int (f1 p3)), .val (.int (m0_0 p0 p1 p2 p3 p4)), .val (.int (m0_3 p0 p1 p2 p3 p4)), .unset, .unset] [(.int (f2 (f1 p2) (m0_4 p0 p1 p2 p3 p4)))])) _
      refine XS.ifYes X12.here hx rfl (pc0 := 94) (pc' := 100) rfl (hb hby at_94) rfl ((if0 _ _).trans (teq hm94_13).1) (by decide) (by decide) ?_
      exact kt
    · rw [show (m0_5 p0 p1 p2 p3 p4) = ((m0_3 p0 p1 p2 p3 p4) + (1 : Int32)) from by unfold m0_5; rw [if_neg hm94_13]] at kt
      show Steps p.tables e below (T12.setTop (mkF m 94 #[.val (.int p0), .val (.int p1), .val (.int p2), .val (.int p3), .val (.int p4), .val (.int (f1 p0)), .val (.int (f1 p1)), .val (.int (f1 p2)), .val (.int (f1 p3)), .val (.int (m0_0 p0 p1 p2 p3 p4)), .val (.int (m0_3 p0 p1 p2 p3 p4)), .unset, .unset] [(.int (f2 (f1 p2) (m0_4 p0 p1 p2 p3 p4)))])) _
      refine XS.ifNo X12.here hx rfl (hb hby at_94) rfl ((if0 _ _).trans (feq hm94_13).1) ?_
      show Steps p.tables e below (T12.setTop (mkF m 97 #[.val (.int p0), .val (.int p1), .val (.int p2), .val (.int p3), .val (.int p4), .val (.int (f1 p0)), .val (.int (f1 p1)), .val (.int (f1 p2)), .val (.int (f1 p3)), .val (.int (m0_0 p0 p1 p2 p3 p4)), .val (.int (m0_3 p0 p1 p2 p3 p4)), .unset, .unset] [])) _
      refine XS.iinc X12.here hx rfl (hb hby at_97) rfl (l' := #[.val (.int p0), .val (.int p1), .val (.int p2), .val (.int p3), .val (.int p4), .val (.int (f1 p0)), .val (.int (f1 p1)), .val (.int (f1 p2)), .val (.int (f1 p3)), .val (.int (m0_0 p0 p1 p2 p3 p4)), .val (.int ((m0_3 p0 p1 p2 p3 p4) + (1 : Int32))), .unset, .unset]) rfl ?_
      exact kt
  refine own_back (b := T12.setTop (mkF m 106 #[.val (.int p0), .val (.int p1), .val (.int p2), .val (.int p3), .val (.int p4), .val (.int (f1 p0)), .val (.int (f1 p1)), .val (.int (f1 p2)), .val (.int (f1 p3)), .val (.int (m0_0 p0 p1 p2 p3 p4)), .val (.int (m0_5 p0 p1 p2 p3 p4)), .unset, .unset] [(.int (13 : Int32)), (.int (f1 p2)), (.int (f1 p3))])) (fun t kt => ?_) ?_
  · show Steps p.tables e below (T12.setTop (mkF m 100 #[.val (.int p0), .val (.int p1), .val (.int p2), .val (.int p3), .val (.int p4), .val (.int (f1 p0)), .val (.int (f1 p1)), .val (.int (f1 p2)), .val (.int (f1 p3)), .val (.int (m0_0 p0 p1 p2 p3 p4)), .val (.int (m0_5 p0 p1 p2 p3 p4)), .unset, .unset] [])) _
    refine XS.iload X12.here hx rfl (hb hby at_100) rfl ?_
    show Steps p.tables e below (T12.setTop (mkF m 102 #[.val (.int p0), .val (.int p1), .val (.int p2), .val (.int p3), .val (.int p4), .val (.int (f1 p0)), .val (.int (f1 p1)), .val (.int (f1 p2)), .val (.int (f1 p3)), .val (.int (m0_0 p0 p1 p2 p3 p4)), .val (.int (m0_5 p0 p1 p2 p3 p4)), .unset, .unset] [(.int (f1 p3))])) _
    refine XS.iload X12.here hx rfl (hb hby at_102) rfl ?_
    show Steps p.tables e below (T12.setTop (mkF m 104 #[.val (.int p0), .val (.int p1), .val (.int p2), .val (.int p3), .val (.int p4), .val (.int (f1 p0)), .val (.int (f1 p1)), .val (.int (f1 p2)), .val (.int (f1 p3)), .val (.int (m0_0 p0 p1 p2 p3 p4)), .val (.int (m0_5 p0 p1 p2 p3 p4)), .unset, .unset] [(.int (f1 p2)), (.int (f1 p3))])) _
    refine XS.bipush X12.here hx rfl (hb hby at_104) ?_
    exact kt
  refine own_back (b := T12.setTop (mkF m 114 #[.val (.int p0), .val (.int p1), .val (.int p2), .val (.int p3), .val (.int p4), .val (.int (f1 p0)), .val (.int (f1 p1)), .val (.int (f1 p2)), .val (.int (f1 p3)), .val (.int (m0_0 p0 p1 p2 p3 p4)), .val (.int (m0_5 p0 p1 p2 p3 p4)), .unset, .unset] [(.int (m0_6 p0 p1 p2 p3 p4)), (.int (f1 p3))])) (fun t kt => ?_) ?_
  · by_cases hm106_14 : (f1 p2) = (13 : Int32)
    · rw [show (m0_6 p0 p1 p2 p3 p4) = (1 : Int32) from by unfold m0_6; rw [if_pos hm106_14]] at kt
      show Steps p.tables e below (T12.setTop (mkF m 106 #[.val (.int p0), .val (.int p1), .val (.int p2), .val (.int p3), .val (.int p4), .val (.int (f1 p0)), .val (.int (f1 p1)), .val (.int (f1 p2)), .val (.int (f1 p3)), .val (.int (m0_0 p0 p1 p2 p3 p4)), .val (.int (m0_5 p0 p1 p2 p3 p4)), .unset, .unset] [(.int (13 : Int32)), (.int (f1 p2)), (.int (f1 p3))])) _
      refine XS.icmpNo X12.here hx rfl (hb hby at_106) rfl (teq hm106_14).2 ?_
      show Steps p.tables e below (T12.setTop (mkF m 109 #[.val (.int p0), .val (.int p1), .val (.int p2), .val (.int p3), .val (.int p4), .val (.int (f1 p0)), .val (.int (f1 p1)), .val (.int (f1 p2)), .val (.int (f1 p3)), .val (.int (m0_0 p0 p1 p2 p3 p4)), .val (.int (m0_5 p0 p1 p2 p3 p4)), .unset, .unset] [(.int (f1 p3))])) _
      refine XS.iconst X12.here hx rfl (hb hby at_109) ?_
      show Steps p.tables e below (T12.setTop (mkF m 110 #[.val (.int p0), .val (.int p1), .val (.int p2), .val (.int p3), .val (.int p4), .val (.int (f1 p0)), .val (.int (f1 p1)), .val (.int (f1 p2)), .val (.int (f1 p3)), .val (.int (m0_0 p0 p1 p2 p3 p4)), .val (.int (m0_5 p0 p1 p2 p3 p4)), .unset, .unset] [(.int (1 : Int32)), (.int (f1 p3))])) _
      refine XS.goto X12.here hx rfl (pc0 := 110) (pc' := 114) rfl (hb hby at_110) (by decide) (by decide) ?_
      exact kt
    · rw [show (m0_6 p0 p1 p2 p3 p4) = (0 : Int32) from by unfold m0_6; rw [if_neg hm106_14]] at kt
      show Steps p.tables e below (T12.setTop (mkF m 106 #[.val (.int p0), .val (.int p1), .val (.int p2), .val (.int p3), .val (.int p4), .val (.int (f1 p0)), .val (.int (f1 p1)), .val (.int (f1 p2)), .val (.int (f1 p3)), .val (.int (m0_0 p0 p1 p2 p3 p4)), .val (.int (m0_5 p0 p1 p2 p3 p4)), .unset, .unset] [(.int (13 : Int32)), (.int (f1 p2)), (.int (f1 p3))])) _
      refine XS.icmpYes X12.here hx rfl (pc0 := 106) (pc' := 113) rfl (hb hby at_106) rfl (feq hm106_14).2 (by decide) (by decide) ?_
      show Steps p.tables e below (T12.setTop (mkF m 113 #[.val (.int p0), .val (.int p1), .val (.int p2), .val (.int p3), .val (.int p4), .val (.int (f1 p0)), .val (.int (f1 p1)), .val (.int (f1 p2)), .val (.int (f1 p3)), .val (.int (m0_0 p0 p1 p2 p3 p4)), .val (.int (m0_5 p0 p1 p2 p3 p4)), .unset, .unset] [(.int (f1 p3))])) _
      refine XS.iconst X12.here hx rfl (hb hby at_113) ?_
      exact kt
  obtain ⟨_, _, ⟨T15, L15, k15, n15⟩, -, X15, ⟨Lc15, hQ15, l15, y15, z15⟩, st15⟩ := Jvm.LawKit.callS X12 hx (y := (⟨"com/example/winnow/winnow/TextFile$BufferedText", "beginsLineBreak", "(CZ)Z"⟩ : MethodName)) hown (mvT hZ (hw _ (List.mem_of_getElem? (i := 4) rfl))) (mvT hZ (hw _ (List.mem_of_getElem? (i := 5) rfl))) (mvT hZ (hw _ (List.mem_of_getElem? (i := 6) rfl))) (mvT hZ (hw _ (List.mem_of_getElem? (i := 7) rfl))) (by decide) (backOf (W := 0) (rm2 l Z a0 hw [] (f1 p3) (m0_6 p0 p1 p2 p3 p4) h0 n0 Z0 ) hZ (hw _ (List.mem_of_getElem? (i := 7) rfl)) (hw _ (List.mem_of_getElem? (i := 6) rfl)) (by decide) (by decide)) (g := (mkF m 114 #[.val (.int p0), .val (.int p1), .val (.int p2), .val (.int p3), .val (.int p4), .val (.int (f1 p0)), .val (.int (f1 p1)), .val (.int (f1 p2)), .val (.int (f1 p3)), .val (.int (m0_0 p0 p1 p2 p3 p4)), .val (.int (m0_5 p0 p1 p2 p3 p4)), .unset, .unset] [(.int (m0_6 p0 p1 p2 p3 p4)), (.int (f1 p3))])) rfl (by rw [hml]; rfl) (argsL := [(.int (f1 p3)), (.int (m0_6 p0 p1 p2 p3 p4))]) (rest := []) (lenOf pd_0_1 rfl) rfl (by show 2 * 0 + _ ≤ _; exact Nat.le_of_eq rfl) (hb hby at_114) (fun _ _ => ⟨rfl, e12, (by decide : 0 + 0 ≤ _), (by decide : 0 + 0 ≤ _)⟩)
  dsimp only [Pt.U, Pt.locs, Pt.cells, Pt.slots] at X15 l15 y15 z15 st15 hQ15
  subst l15 y15 z15
  obtain ⟨rfl, Nq15, e15⟩ := hQ15
  have N15 := Fr.app N12 Nq15
  refine own_back (b := T15.setTop (mkF m 117 #[.val (.int p0), .val (.int p1), .val (.int p2), .val (.int p3), .val (.int p4), .val (.int (f1 p0)), .val (.int (f1 p1)), .val (.int (f1 p2)), .val (.int (f1 p3)), .val (.int (m0_0 p0 p1 p2 p3 p4)), .val (.int (m0_5 p0 p1 p2 p3 p4)), .unset, .unset] [(.int (f2 (f1 p3) (m0_6 p0 p1 p2 p3 p4)))])) (fun t kt => ?_) ?_
  · show Steps p.tables e below (T12.setTop (mkF m 114 #[.val (.int p0), .val (.int p1), .val (.int p2), .val (.int p3), .val (.int p4), .val (.int (f1 p0)), .val (.int (f1 p1)), .val (.int (f1 p2)), .val (.int (f1 p3)), .val (.int (m0_0 p0 p1 p2 p3 p4)), .val (.int (m0_5 p0 p1 p2 p3 p4)), .unset, .unset] [(.int (m0_6 p0 p1 p2 p3 p4)), (.int (f1 p3))])) _
    refine st15 _ ?_
    exact kt
  refine own_back (b := T15.setTop (mkF m 123 #[.val (.int p0), .val (.int p1), .val (.int p2), .val (.int p3), .val (.int p4), .val (.int (f1 p0)), .val (.int (f1 p1)), .val (.int (f1 p2)), .val (.int (f1 p3)), .val (.int (m0_0 p0 p1 p2 p3 p4)), .val (.int (m0_7 p0 p1 p2 p3 p4)), .unset, .unset] [])) (fun t kt => ?_) ?_
  · by_cases hm117_16 : (f2 (f1 p3) (m0_6 p0 p1 p2 p3 p4)) = (0 : Int32)
    · rw [show (m0_7 p0 p1 p2 p3 p4) = (m0_5 p0 p1 p2 p3 p4) from by unfold m0_7; rw [if_pos hm117_16]] at kt
      show Steps p.tables e below (T15.setTop (mkF m 117 #[.val (.int p0), .val (.int p1), .val (.int p2), .val (.int p3), .val (.int p4), .val (.int (f1 p0)), .val (.int (f1 p1)), .val (.int (f1 p2)), .val (.int (f1 p3)), .val (.int (m0_0 p0 p1 p2 p3 p4)), .val (.int (m0_5 p0 p1 p2 p3 p4)), .unset, .unset] [(.int (f2 (f1 p3) (m0_6 p0 p1 p2 p3 p4)))])) _
      refine XS.ifYes X15.here hx rfl (pc0 := 117) (pc' := 123) rfl (hb hby at_117) rfl ((if0 _ _).trans (teq hm117_16).1) (by decide) (by decide) ?_
      exact kt
    · rw [show (m0_7 p0 p1 p2 p3 p4) = ((m0_5 p0 p1 p2 p3 p4) + (1 : Int32)) from by unfold m0_7; rw [if_neg hm117_16]] at kt
      show Steps p.tables e below (T15.setTop (mkF m 117 #[.val (.int p0), .val (.int p1), .val (.int p2), .val (.int p3), .val (.int p4), .val (.int (f1 p0)), .val (.int (f1 p1)), .val (.int (f1 p2)), .val (.int (f1 p3)), .val (.int (m0_0 p0 p1 p2 p3 p4)), .val (.int (m0_5 p0 p1 p2 p3 p4)), .unset, .unset] [(.int (f2 (f1 p3) (m0_6 p0 p1 p2 p3 p4)))])) _
      refine XS.ifNo X15.here hx rfl (hb hby at_117) rfl ((if0 _ _).trans (feq hm117_16).1) ?_
      show Steps p.tables e below (T15.setTop (mkF m 120 #[.val (.int p0), .val (.int p1), .val (.int p2), .val (.int p3), .val (.int p4), .val (.int (f1 p0)), .val (.int (f1 p1)), .val (.int (f1 p2)), .val (.int (f1 p3)), .val (.int (m0_0 p0 p1 p2 p3 p4)), .val (.int (m0_5 p0 p1 p2 p3 p4)), .unset, .unset] [])) _
      refine XS.iinc X15.here hx rfl (hb hby at_120) rfl (l' := #[.val (.int p0), .val (.int p1), .val (.int p2), .val (.int p3), .val (.int p4), .val (.int (f1 p0)), .val (.int (f1 p1)), .val (.int (f1 p2)), .val (.int (f1 p3)), .val (.int (m0_0 p0 p1 p2 p3 p4)), .val (.int ((m0_5 p0 p1 p2 p3 p4) + (1 : Int32))), .unset, .unset]) rfl ?_
      exact kt
  obtain ⟨_, _, ⟨T17, L17, k17, n17⟩, -, X17, ⟨Lc17, hQ17, l17, y17, z17⟩, st17⟩ := Jvm.LawKit.callS X15 hx (y := (⟨"com/example/winnow/winnow/BufferedTextBeginsLineBreakPinLaw", "end", "(C)I"⟩ : MethodName)) hown (mvT hZ (hw _ (List.mem_of_getElem? (i := 8) rfl))) (mvT hZ (hw _ (List.mem_of_getElem? (i := 9) rfl))) (mvT hZ (hw _ (List.mem_of_getElem? (i := 2) rfl))) (mvT hZ (hw _ (List.mem_of_getElem? (i := 10) rfl))) (by decide) (backOf (W := 0) (rm3 l Z a0 hw [] (f1 p0) h0 n0 Z0 ) hZ (hw _ (List.mem_of_getElem? (i := 10) rfl)) (hw _ (List.mem_of_getElem? (i := 2) rfl)) (by decide) (by decide)) (g := (mkF m 125 #[.val (.int p0), .val (.int p1), .val (.int p2), .val (.int p3), .val (.int p4), .val (.int (f1 p0)), .val (.int (f1 p1)), .val (.int (f1 p2)), .val (.int (f1 p3)), .val (.int (m0_0 p0 p1 p2 p3 p4)), .val (.int (m0_7 p0 p1 p2 p3 p4)), .unset, .unset] [(.int (f1 p0))])) rfl (by rw [hml]; rfl) (argsL := [(.int (f1 p0))]) (rest := []) (lenOf pd_0_2 rfl) rfl (by show 2 * 0 + _ ≤ _; exact Nat.le_of_eq rfl) (hb hby at_125) (fun _ _ => ⟨rfl, e15, (by decide : 0 + 0 ≤ _), (by decide : 0 + 0 ≤ _)⟩)
  dsimp only [Pt.U, Pt.locs, Pt.cells, Pt.slots] at X17 l17 y17 z17 st17 hQ17
  subst l17 y17 z17
  obtain ⟨rfl, Nq17, e17⟩ := hQ17
  have N17 := Fr.app N15 Nq17
  obtain ⟨_, _, ⟨T18, L18, k18, n18⟩, -, X18, ⟨Lc18, hQ18, l18, y18, z18⟩, st18⟩ := Jvm.LawKit.callS X17 hx (y := (⟨"com/example/winnow/winnow/BufferedTextBeginsLineBreakPinLaw", "end", "(C)I"⟩ : MethodName)) hown (mvT hZ (hw _ (List.mem_of_getElem? (i := 8) rfl))) (mvT hZ (hw _ (List.mem_of_getElem? (i := 9) rfl))) (mvT hZ (hw _ (List.mem_of_getElem? (i := 2) rfl))) (mvT hZ (hw _ (List.mem_of_getElem? (i := 10) rfl))) (by decide) (backOf (W := 1) (rm3 l Z a0 hw [] (f1 p1) h0 n0 Z0 ) hZ (hw _ (List.mem_of_getElem? (i := 10) rfl)) (hw _ (List.mem_of_getElem? (i := 2) rfl)) (by decide) (by decide)) (g := (mkF m 130 #[.val (.int p0), .val (.int p1), .val (.int p2), .val (.int p3), .val (.int p4), .val (.int (f1 p0)), .val (.int (f1 p1)), .val (.int (f1 p2)), .val (.int (f1 p3)), .val (.int (m0_0 p0 p1 p2 p3 p4)), .val (.int (m0_7 p0 p1 p2 p3 p4)), .unset, .unset] [(.int (f1 p1)), (.int (f3 (f1 p0)))])) rfl (by rw [hml]; rfl) (argsL := [(.int (f1 p1))]) (rest := [(.int (f3 (f1 p0)))]) (lenOf pd_0_2 rfl) rfl (by show 2 * 0 + _ ≤ _; exact Nat.le_of_eq rfl) (hb hby at_130) (fun _ _ => ⟨rfl, e17, (by decide : 0 + 0 ≤ _), (by decide : 0 + 0 ≤ _)⟩)
  dsimp only [Pt.U, Pt.locs, Pt.cells, Pt.slots] at X18 l18 y18 z18 st18 hQ18
  subst l18 y18 z18
  obtain ⟨rfl, Nq18, e18⟩ := hQ18
  have N18 := Fr.app N17 Nq18
  obtain ⟨_, _, ⟨T19, L19, k19, n19⟩, -, X19, ⟨Lc19, hQ19, l19, y19, z19⟩, st19⟩ := Jvm.LawKit.callS X18 hx (y := (⟨"com/example/winnow/winnow/BufferedTextBeginsLineBreakPinLaw", "end", "(C)I"⟩ : MethodName)) hown (mvT hZ (hw _ (List.mem_of_getElem? (i := 8) rfl))) (mvT hZ (hw _ (List.mem_of_getElem? (i := 9) rfl))) (mvT hZ (hw _ (List.mem_of_getElem? (i := 2) rfl))) (mvT hZ (hw _ (List.mem_of_getElem? (i := 10) rfl))) (by decide) (backOf (W := 1) (rm3 l Z a0 hw [] (f1 p2) h0 n0 Z0 ) hZ (hw _ (List.mem_of_getElem? (i := 10) rfl)) (hw _ (List.mem_of_getElem? (i := 2) rfl)) (by decide) (by decide)) (g := (mkF m 136 #[.val (.int p0), .val (.int p1), .val (.int p2), .val (.int p3), .val (.int p4), .val (.int (f1 p0)), .val (.int (f1 p1)), .val (.int (f1 p2)), .val (.int (f1 p3)), .val (.int (m0_0 p0 p1 p2 p3 p4)), .val (.int (m0_7 p0 p1 p2 p3 p4)), .unset, .unset] [(.int (f1 p2)), (.int ((f3 (f1 p0)) + (f3 (f1 p1))))])) rfl (by rw [hml]; rfl) (argsL := [(.int (f1 p2))]) (rest := [(.int ((f3 (f1 p0)) + (f3 (f1 p1))))]) (lenOf pd_0_2 rfl) rfl (by show 2 * 0 + _ ≤ _; exact Nat.le_of_eq rfl) (hb hby at_136) (fun _ _ => ⟨rfl, e18, (by decide : 0 + 0 ≤ _), (by decide : 0 + 0 ≤ _)⟩)
  dsimp only [Pt.U, Pt.locs, Pt.cells, Pt.slots] at X19 l19 y19 z19 st19 hQ19
  subst l19 y19 z19
  obtain ⟨rfl, Nq19, e19⟩ := hQ19
  have N19 := Fr.app N18 Nq19
  obtain ⟨_, _, ⟨T20, L20, k20, n20⟩, -, X20, ⟨Lc20, hQ20, l20, y20, z20⟩, st20⟩ := Jvm.LawKit.callS X19 hx (y := (⟨"com/example/winnow/winnow/BufferedTextBeginsLineBreakPinLaw", "end", "(C)I"⟩ : MethodName)) hown (mvT hZ (hw _ (List.mem_of_getElem? (i := 8) rfl))) (mvT hZ (hw _ (List.mem_of_getElem? (i := 9) rfl))) (mvT hZ (hw _ (List.mem_of_getElem? (i := 2) rfl))) (mvT hZ (hw _ (List.mem_of_getElem? (i := 10) rfl))) (by decide) (backOf (W := 1) (rm3 l Z a0 hw [] (f1 p3) h0 n0 Z0 ) hZ (hw _ (List.mem_of_getElem? (i := 10) rfl)) (hw _ (List.mem_of_getElem? (i := 2) rfl)) (by decide) (by decide)) (g := (mkF m 142 #[.val (.int p0), .val (.int p1), .val (.int p2), .val (.int p3), .val (.int p4), .val (.int (f1 p0)), .val (.int (f1 p1)), .val (.int (f1 p2)), .val (.int (f1 p3)), .val (.int (m0_0 p0 p1 p2 p3 p4)), .val (.int (m0_7 p0 p1 p2 p3 p4)), .unset, .unset] [(.int (f1 p3)), (.int (((f3 (f1 p0)) + (f3 (f1 p1))) + (f3 (f1 p2))))])) rfl (by rw [hml]; rfl) (argsL := [(.int (f1 p3))]) (rest := [(.int (((f3 (f1 p0)) + (f3 (f1 p1))) + (f3 (f1 p2))))]) (lenOf pd_0_2 rfl) rfl (by show 2 * 0 + _ ≤ _; exact Nat.le_of_eq rfl) (hb hby at_142) (fun _ _ => ⟨rfl, e19, (by decide : 0 + 0 ≤ _), (by decide : 0 + 0 ≤ _)⟩)
  dsimp only [Pt.U, Pt.locs, Pt.cells, Pt.slots] at X20 l20 y20 z20 st20 hQ20
  subst l20 y20 z20
  obtain ⟨rfl, Nq20, e20⟩ := hQ20
  have N20 := Fr.app N19 Nq20
  obtain ⟨_, _, ⟨T21, L21, k21, n21⟩, -, X21, ⟨Lc21, hQ21, l21, y21, z21⟩, st21⟩ := Jvm.LawKit.callS X20 hx (y := (⟨"com/example/winnow/winnow/BufferedTextBeginsLineBreakPinLaw", "pair", "(ZC)I"⟩ : MethodName)) hown (mvT hZ (hw _ (List.mem_of_getElem? (i := 11) rfl))) (mvT hZ (hw _ (List.mem_of_getElem? (i := 12) rfl))) (mvT hZ (hw _ (List.mem_of_getElem? (i := 2) rfl))) (mvT hZ (hw _ (List.mem_of_getElem? (i := 13) rfl))) (by decide) (backOf (W := 0) (rm4 l Z a0 hw [] (m0_0 p0 p1 p2 p3 p4) (f1 p0) h0 n0 Z0 ) hZ (hw _ (List.mem_of_getElem? (i := 13) rfl)) (hw _ (List.mem_of_getElem? (i := 2) rfl)) (by decide) (by decide)) (g := (mkF m 152 #[.val (.int p0), .val (.int p1), .val (.int p2), .val (.int p3), .val (.int p4), .val (.int (f1 p0)), .val (.int (f1 p1)), .val (.int (f1 p2)), .val (.int (f1 p3)), .val (.int (m0_0 p0 p1 p2 p3 p4)), .val (.int (m0_7 p0 p1 p2 p3 p4)), .val (.int ((((f3 (f1 p0)) + (f3 (f1 p1))) + (f3 (f1 p2))) + (f3 (f1 p3)))), .unset] [(.int (f1 p0)), (.int (m0_0 p0 p1 p2 p3 p4))])) rfl (by rw [hml]; rfl) (argsL := [(.int (m0_0 p0 p1 p2 p3 p4)), (.int (f1 p0))]) (rest := []) (lenOf pd_0_3 rfl) rfl (by show 2 * 0 + _ ≤ _; exact Nat.le_of_eq rfl) (hb hby at_152) (fun _ _ => ⟨rfl, e20, (by decide : 0 + 0 ≤ _), (by decide : 0 + 0 ≤ _)⟩)
  dsimp only [Pt.U, Pt.locs, Pt.cells, Pt.slots] at X21 l21 y21 z21 st21 hQ21
  subst l21 y21 z21
  obtain ⟨rfl, Nq21, e21⟩ := hQ21
  have N21 := Fr.app N20 Nq21
  refine own_back (b := T21.setTop (mkF m 159 #[.val (.int p0), .val (.int p1), .val (.int p2), .val (.int p3), .val (.int p4), .val (.int (f1 p0)), .val (.int (f1 p1)), .val (.int (f1 p2)), .val (.int (f1 p3)), .val (.int (m0_0 p0 p1 p2 p3 p4)), .val (.int (m0_7 p0 p1 p2 p3 p4)), .val (.int ((((f3 (f1 p0)) + (f3 (f1 p1))) + (f3 (f1 p2))) + (f3 (f1 p3)))), .unset] [(.int (13 : Int32)), (.int (f1 p0)), (.int (f4 (m0_0 p0 p1 p2 p3 p4) (f1 p0)))])) (fun t kt => ?_) ?_
  · show Steps p.tables e below (T15.setTop (mkF m 123 #[.val (.int p0), .val (.int p1), .val (.int p2), .val (.int p3), .val (.int p4), .val (.int (f1 p0)), .val (.int (f1 p1)), .val (.int (f1 p2)), .val (.int (f1 p3)), .val (.int (m0_0 p0 p1 p2 p3 p4)), .val (.int (m0_7 p0 p1 p2 p3 p4)), .unset, .unset] [])) _
    refine XS.iload X15.here hx rfl (hb hby at_123) rfl ?_
    show Steps p.tables e below (T15.setTop (mkF m 125 #[.val (.int p0), .val (.int p1), .val (.int p2), .val (.int p3), .val (.int p4), .val (.int (f1 p0)), .val (.int (f1 p1)), .val (.int (f1 p2)), .val (.int (f1 p3)), .val (.int (m0_0 p0 p1 p2 p3 p4)), .val (.int (m0_7 p0 p1 p2 p3 p4)), .unset, .unset] [(.int (f1 p0))])) _
    refine st17 _ ?_
    show Steps p.tables e below (T17.setTop (mkF m 128 #[.val (.int p0), .val (.int p1), .val (.int p2), .val (.int p3), .val (.int p4), .val (.int (f1 p0)), .val (.int (f1 p1)), .val (.int (f1 p2)), .val (.int (f1 p3)), .val (.int (m0_0 p0 p1 p2 p3 p4)), .val (.int (m0_7 p0 p1 p2 p3 p4)), .unset, .unset] [(.int (f3 (f1 p0)))])) _
    refine XS.iload X17.here hx rfl (hb hby at_128) rfl ?_
    show Steps p.tables e below (T17.setTop (mkF m 130 #[.val (.int p0), .val (.int p1), .val (.int p2), .val (.int p3), .val (.int p4), .val (.int (f1 p0)), .val (.int (f1 p1)), .val (.int (f1 p2)), .val (.int (f1 p3)), .val (.int (m0_0 p0 p1 p2 p3 p4)), .val (.int (m0_7 p0 p1 p2 p3 p4)), .unset, .unset] [(.int (f1 p1)), (.int (f3 (f1 p0)))])) _
    refine st18 _ ?_
    show Steps p.tables e below (T18.setTop (mkF m 133 #[.val (.int p0), .val (.int p1), .val (.int p2), .val (.int p3), .val (.int p4), .val (.int (f1 p0)), .val (.int (f1 p1)), .val (.int (f1 p2)), .val (.int (f1 p3)), .val (.int (m0_0 p0 p1 p2 p3 p4)), .val (.int (m0_7 p0 p1 p2 p3 p4)), .unset, .unset] [(.int (f3 (f1 p1))), (.int (f3 (f1 p0)))])) _
    refine XS.iadd X18.here hx rfl (hb hby at_133) rfl ?_
    show Steps p.tables e below (T18.setTop (mkF m 134 #[.val (.int p0), .val (.int p1), .val (.int p2), .val (.int p3), .val (.int p4), .val (.int (f1 p0)), .val (.int (f1 p1)), .val (.int (f1 p2)), .val (.int (f1 p3)), .val (.int (m0_0 p0 p1 p2 p3 p4)), .val (.int (m0_7 p0 p1 p2 p3 p4)), .unset, .unset] [(.int ((f3 (f1 p0)) + (f3 (f1 p1))))])) _
    refine XS.iload X18.here hx rfl (hb hby at_134) rfl ?_
    show Steps p.tables e below (T18.setTop (mkF m 136 #[.val (.int p0), .val (.int p1), .val (.int p2), .val (.int p3), .val (.int p4), .val (.int (f1 p0)), .val (.int (f1 p1)), .val (.int (f1 p2)), .val (.int (f1 p3)), .val (.int (m0_0 p0 p1 p2 p3 p4)), .val (.int (m0_7 p0 p1 p2 p3 p4)), .unset, .unset] [(.int (f1 p2)), (.int ((f3 (f1 p0)) + (f3 (f1 p1))))])) _
    refine st19 _ ?_
    show Steps p.tables e below (T19.setTop (mkF m 139 #[.val (.int p0), .val (.int p1), .val (.int p2), .val (.int p3), .val (.int p4), .val (.int (f1 p0)), .val (.int (f1 p1)), .val (.int (f1 p2)), .val (.int (f1 p3)), .val (.int (m0_0 p0 p1 p2 p3 p4)), .val (.int (m0_7 p0 p1 p2 p3 p4)), .unset, .unset] [(.int (f3 (f1 p2))), (.int ((f3 (f1 p0)) + (f3 (f1 p1))))])) _
    refine XS.iadd X19.here hx rfl (hb hby at_139) rfl ?_
    show Steps p.tables e below (T19.setTop (mkF m 140 #[.val (.int p0), .val (.int p1), .val (.int p2), .val (.int p3), .val (.int p4), .val (.int (f1 p0)), .val (.int (f1 p1)), .val (.int (f1 p2)), .val (.int (f1 p3)), .val (.int (m0_0 p0 p1 p2 p3 p4)), .val (.int (m0_7 p0 p1 p2 p3 p4)), .unset, .unset] [(.int (((f3 (f1 p0)) + (f3 (f1 p1))) + (f3 (f1 p2))))])) _
    refine XS.iload X19.here hx rfl (hb hby at_140) rfl ?_
    show Steps p.tables e below (T19.setTop (mkF m 142 #[.val (.int p0), .val (.int p1), .val (.int p2), .val (.int p3), .val (.int p4), .val (.int (f1 p0)), .val (.int (f1 p1)), .val (.int (f1 p2)), .val (.int (f1 p3)), .val (.int (m0_0 p0 p1 p2 p3 p4)), .val (.int (m0_7 p0 p1 p2 p3 p4)), .unset, .unset] [(.int (f1 p3)), (.int (((f3 (f1 p0)) + (f3 (f1 p1))) + (f3 (f1 p2))))])) _
    refine st20 _ ?_
    show Steps p.tables e below (T20.setTop (mkF m 145 #[.val (.int p0), .val (.int p1), .val (.int p2), .val (.int p3), .val (.int p4), .val (.int (f1 p0)), .val (.int (f1 p1)), .val (.int (f1 p2)), .val (.int (f1 p3)), .val (.int (m0_0 p0 p1 p2 p3 p4)), .val (.int (m0_7 p0 p1 p2 p3 p4)), .unset, .unset] [(.int (f3 (f1 p3))), (.int (((f3 (f1 p0)) + (f3 (f1 p1))) + (f3 (f1 p2))))])) _
    refine XS.iadd X20.here hx rfl (hb hby at_145) rfl ?_
    show Steps p.tables e below (T20.setTop (mkF m 146 #[.val (.int p0), .val (.int p1), .val (.int p2), .val (.int p3), .val (.int p4), .val (.int (f1 p0)), .val (.int (f1 p1)), .val (.int (f1 p2)), .val (.int (f1 p3)), .val (.int (m0_0 p0 p1 p2 p3 p4)), .val (.int (m0_7 p0 p1 p2 p3 p4)), .unset, .unset] [(.int ((((f3 (f1 p0)) + (f3 (f1 p1))) + (f3 (f1 p2))) + (f3 (f1 p3))))])) _
    refine XS.istore X20.here hx rfl (hb hby at_146) rfl (l' := #[.val (.int p0), .val (.int p1), .val (.int p2), .val (.int p3), .val (.int p4), .val (.int (f1 p0)), .val (.int (f1 p1)), .val (.int (f1 p2)), .val (.int (f1 p3)), .val (.int (m0_0 p0 p1 p2 p3 p4)), .val (.int (m0_7 p0 p1 p2 p3 p4)), .val (.int ((((f3 (f1 p0)) + (f3 (f1 p1))) + (f3 (f1 p2))) + (f3 (f1 p3)))), .unset]) rfl ?_
    show Steps p.tables e below (T20.setTop (mkF m 148 #[.val (.int p0), .val (.int p1), .val (.int p2), .val (.int p3), .val (.int p4), .val (.int (f1 p0)), .val (.int (f1 p1)), .val (.int (f1 p2)), .val (.int (f1 p3)), .val (.int (m0_0 p0 p1 p2 p3 p4)), .val (.int (m0_7 p0 p1 p2 p3 p4)), .val (.int ((((f3 (f1 p0)) + (f3 (f1 p1))) + (f3 (f1 p2))) + (f3 (f1 p3)))), .unset] [])) _
    refine XS.iload X20.here hx rfl (hb hby at_148) rfl ?_
    show Steps p.tables e below (T20.setTop (mkF m 150 #[.val (.int p0), .val (.int p1), .val (.int p2), .val (.int p3), .val (.int p4), .val (.int (f1 p0)), .val (.int (f1 p1)), .val (.int (f1 p2)), .val (.int (f1 p3)), .val (.int (m0_0 p0 p1 p2 p3 p4)), .val (.int (m0_7 p0 p1 p2 p3 p4)), .val (.int ((((f3 (f1 p0)) + (f3 (f1 p1))) + (f3 (f1 p2))) + (f3 (f1 p3)))), .unset] [(.int (m0_0 p0 p1 p2 p3 p4))])) _
    refine XS.iload X20.here hx rfl (hb hby at_150) rfl ?_
    show Steps p.tables e below (T20.setTop (mkF m 152 #[.val (.int p0), .val (.int p1), .val (.int p2), .val (.int p3), .val (.int p4), .val (.int (f1 p0)), .val (.int (f1 p1)), .val (.int (f1 p2)), .val (.int (f1 p3)), .val (.int (m0_0 p0 p1 p2 p3 p4)), .val (.int (m0_7 p0 p1 p2 p3 p4)), .val (.int ((((f3 (f1 p0)) + (f3 (f1 p1))) + (f3 (f1 p2))) + (f3 (f1 p3)))), .unset] [(.int (f1 p0)), (.int (m0_0 p0 p1 p2 p3 p4))])) _
    refine st21 _ ?_
    show Steps p.tables e below (T21.setTop (mkF m 155 #[.val (.int p0), .val (.int p1), .val (.int p2), .val (.int p3), .val (.int p4), .val (.int (f1 p0)), .val (.int (f1 p1)), .val (.int (f1 p2)), .val (.int (f1 p3)), .val (.int (m0_0 p0 p1 p2 p3 p4)), .val (.int (m0_7 p0 p1 p2 p3 p4)), .val (.int ((((f3 (f1 p0)) + (f3 (f1 p1))) + (f3 (f1 p2))) + (f3 (f1 p3)))), .unset] [(.int (f4 (m0_0 p0 p1 p2 p3 p4) (f1 p0)))])) _
    refine XS.iload X21.here hx rfl (hb hby at_155) rfl ?_
    show Steps p.tables e below (T21.setTop (mkF m 157 #[.val (.int p0), .val (.int p1), .val (.int p2), .val (.int p3), .val (.int p4), .val (.int (f1 p0)), .val (.int (f1 p1)), .val (.int (f1 p2)), .val (.int (f1 p3)), .val (.int (m0_0 p0 p1 p2 p3 p4)), .val (.int (m0_7 p0 p1 p2 p3 p4)), .val (.int ((((f3 (f1 p0)) + (f3 (f1 p1))) + (f3 (f1 p2))) + (f3 (f1 p3)))), .unset] [(.int (f1 p0)), (.int (f4 (m0_0 p0 p1 p2 p3 p4) (f1 p0)))])) _
    refine XS.bipush X21.here hx rfl (hb hby at_157) ?_
    exact kt
  refine own_back (b := T21.setTop (mkF m 167 #[.val (.int p0), .val (.int p1), .val (.int p2), .val (.int p3), .val (.int p4), .val (.int (f1 p0)), .val (.int (f1 p1)), .val (.int (f1 p2)), .val (.int (f1 p3)), .val (.int (m0_0 p0 p1 p2 p3 p4)), .val (.int (m0_7 p0 p1 p2 p3 p4)), .val (.int ((((f3 (f1 p0)) + (f3 (f1 p1))) + (f3 (f1 p2))) + (f3 (f1 p3)))), .unset] [(.int (m0_8 p0 p1 p2 p3 p4)), (.int (f4 (m0_0 p0 p1 p2 p3 p4) (f1 p0)))])) (fun t kt => ?_) ?_
  · by_cases hm159_22 : (f1 p0) = (13 : Int32)
    · rw [show (m0_8 p0 p1 p2 p3 p4) = (1 : Int32) from by unfold m0_8; rw [if_pos hm159_22]] at kt
      show Steps p.tables e below (T21.setTop (mkF m 159 #[.val (.int p0), .val (.int p1), .val (.int p2), .val (.int p3), .val (.int p4), .val (.int (f1 p0)), .val (.int (f1 p1)), .val (.int (f1 p2)), .val (.int (f1 p3)), .val (.int (m0_0 p0 p1 p2 p3 p4)), .val (.int (m0_7 p0 p1 p2 p3 p4)), .val (.int ((((f3 (f1 p0)) + (f3 (f1 p1))) + (f3 (f1 p2))) + (f3 (f1 p3)))), .unset] [(.int (13 : Int32)), (.int (f1 p0)), (.int (f4 (m0_0 p0 p1 p2 p3 p4) (f1 p0)))])) _
      refine XS.icmpNo X21.here hx rfl (hb hby at_159) rfl (teq hm159_22).2 ?_
      show Steps p.tables e below (T21.setTop (mkF m 162 #[.val (.int p0), .val (.int p1), .val (.int p2), .val (.int p3), .val (.int p4), .val (.int (f1 p0)), .val (.int (f1 p1)), .val (.int (f1 p2)), .val (.int (f1 p3)), .val (.int (m0_0 p0 p1 p2 p3 p4)), .val (.int (m0_7 p0 p1 p2 p3 p4)), .val (.int ((((f3 (f1 p0)) + (f3 (f1 p1))) + (f3 (f1 p2))) + (f3 (f1 p3)))), .unset] [(.int (f4 (m0_0 p0 p1 p2 p3 p4) (f1 p0)))])) _
      refine XS.iconst X21.here hx rfl (hb hby at_162) ?_
      show Steps p.tables e below (T21.setTop (mkF m 163 #[.val (.int p0), .val (.int p1), .val (.int p2), .val (.int p3), .val (.int p4), .val (.int (f1 p0)), .val (.int (f1 p1)), .val (.int (f1 p2)), .val (.int (f1 p3)), .val (.int (m0_0 p0 p1 p2 p3 p4)), .val (.int (m0_7 p0 p1 p2 p3 p4)), .val (.int ((((f3 (f1 p0)) + (f3 (f1 p1))) + (f3 (f1 p2))) + (f3 (f1 p3)))), .unset] [(.int (1 : Int32)), (.int (f4 (m0_0 p0 p1 p2 p3 p4) (f1 p0)))])) _
      refine XS.goto X21.here hx rfl (pc0 := 163) (pc' := 167) rfl (hb hby at_163) (by decide) (by decide) ?_
      exact kt
    · rw [show (m0_8 p0 p1 p2 p3 p4) = (0 : Int32) from by unfold m0_8; rw [if_neg hm159_22]] at kt
      show Steps p.tables e below (T21.setTop (mkF m 159 #[.val (.int p0), .val (.int p1), .val (.int p2), .val (.int p3), .val (.int p4), .val (.int (f1 p0)), .val (.int (f1 p1)), .val (.int (f1 p2)), .val (.int (f1 p3)), .val (.int (m0_0 p0 p1 p2 p3 p4)), .val (.int (m0_7 p0 p1 p2 p3 p4)), .val (.int ((((f3 (f1 p0)) + (f3 (f1 p1))) + (f3 (f1 p2))) + (f3 (f1 p3)))), .unset] [(.int (13 : Int32)), (.int (f1 p0)), (.int (f4 (m0_0 p0 p1 p2 p3 p4) (f1 p0)))])) _
      refine XS.icmpYes X21.here hx rfl (pc0 := 159) (pc' := 166) rfl (hb hby at_159) rfl (feq hm159_22).2 (by decide) (by decide) ?_
      show Steps p.tables e below (T21.setTop (mkF m 166 #[.val (.int p0), .val (.int p1), .val (.int p2), .val (.int p3), .val (.int p4), .val (.int (f1 p0)), .val (.int (f1 p1)), .val (.int (f1 p2)), .val (.int (f1 p3)), .val (.int (m0_0 p0 p1 p2 p3 p4)), .val (.int (m0_7 p0 p1 p2 p3 p4)), .val (.int ((((f3 (f1 p0)) + (f3 (f1 p1))) + (f3 (f1 p2))) + (f3 (f1 p3)))), .unset] [(.int (f4 (m0_0 p0 p1 p2 p3 p4) (f1 p0)))])) _
      refine XS.iconst X21.here hx rfl (hb hby at_166) ?_
      exact kt
  obtain ⟨_, _, ⟨T23, L23, k23, n23⟩, -, X23, ⟨Lc23, hQ23, l23, y23, z23⟩, st23⟩ := Jvm.LawKit.callS X21 hx (y := (⟨"com/example/winnow/winnow/BufferedTextBeginsLineBreakPinLaw", "pair", "(ZC)I"⟩ : MethodName)) hown (mvT hZ (hw _ (List.mem_of_getElem? (i := 11) rfl))) (mvT hZ (hw _ (List.mem_of_getElem? (i := 12) rfl))) (mvT hZ (hw _ (List.mem_of_getElem? (i := 2) rfl))) (mvT hZ (hw _ (List.mem_of_getElem? (i := 13) rfl))) (by decide) (backOf (W := 1) (rm4 l Z a0 hw [] (m0_8 p0 p1 p2 p3 p4) (f1 p1) h0 n0 Z0 ) hZ (hw _ (List.mem_of_getElem? (i := 13) rfl)) (hw _ (List.mem_of_getElem? (i := 2) rfl)) (by decide) (by decide)) (g := (mkF m 169 #[.val (.int p0), .val (.int p1), .val (.int p2), .val (.int p3), .val (.int p4), .val (.int (f1 p0)), .val (.int (f1 p1)), .val (.int (f1 p2)), .val (.int (f1 p3)), .val (.int (m0_0 p0 p1 p2 p3 p4)), .val (.int (m0_7 p0 p1 p2 p3 p4)), .val (.int ((((f3 (f1 p0)) + (f3 (f1 p1))) + (f3 (f1 p2))) + (f3 (f1 p3)))), .unset] [(.int (f1 p1)), (.int (m0_8 p0 p1 p2 p3 p4)), (.int (f4 (m0_0 p0 p1 p2 p3 p4) (f1 p0)))])) rfl (by rw [hml]; rfl) (argsL := [(.int (m0_8 p0 p1 p2 p3 p4)), (.int (f1 p1))]) (rest := [(.int (f4 (m0_0 p0 p1 p2 p3 p4) (f1 p0)))]) (lenOf pd_0_3 rfl) rfl (by show 2 * 0 + _ ≤ _; exact Nat.le_of_eq rfl) (hb hby at_169) (fun _ _ => ⟨rfl, e21, (by decide : 0 + 0 ≤ _), (by decide : 0 + 0 ≤ _)⟩)
  dsimp only [Pt.U, Pt.locs, Pt.cells, Pt.slots] at X23 l23 y23 z23 st23 hQ23
  subst l23 y23 z23
  obtain ⟨rfl, Nq23, e23⟩ := hQ23
  have N23 := Fr.app N21 Nq23
  refine own_back (b := T23.setTop (mkF m 177 #[.val (.int p0), .val (.int p1), .val (.int p2), .val (.int p3), .val (.int p4), .val (.int (f1 p0)), .val (.int (f1 p1)), .val (.int (f1 p2)), .val (.int (f1 p3)), .val (.int (m0_0 p0 p1 p2 p3 p4)), .val (.int (m0_7 p0 p1 p2 p3 p4)), .val (.int ((((f3 (f1 p0)) + (f3 (f1 p1))) + (f3 (f1 p2))) + (f3 (f1 p3)))), .unset] [(.int (13 : Int32)), (.int (f1 p1)), (.int ((f4 (m0_0 p0 p1 p2 p3 p4) (f1 p0)) + (f4 (m0_8 p0 p1 p2 p3 p4) (f1 p1))))])) (fun t kt => ?_) ?_
  · show Steps p.tables e below (T21.setTop (mkF m 167 #[.val (.int p0), .val (.int p1), .val (.int p2), .val (.int p3), .val (.int p4), .val (.int (f1 p0)), .val (.int (f1 p1)), .val (.int (f1 p2)), .val (.int (f1 p3)), .val (.int (m0_0 p0 p1 p2 p3 p4)), .val (.int (m0_7 p0 p1 p2 p3 p4)), .val (.int ((((f3 (f1 p0)) + (f3 (f1 p1))) + (f3 (f1 p2))) + (f3 (f1 p3)))), .unset] [(.int (m0_8 p0 p1 p2 p3 p4)), (.int (f4 (m0_0 p0 p1 p2 p3 p4) (f1 p0)))])) _
    refine XS.iload X21.here hx rfl (hb hby at_167) rfl ?_
    show Steps p.tables e below (T21.setTop (mkF m 169 #[.val (.int p0), .val (.int p1), .val (.int p2), .val (.int p3), .val (.int p4), .val (.int (f1 p0)), .val (.int (f1 p1)), .val (.int (f1 p2)), .val (.int (f1 p3)), .val (.int (m0_0 p0 p1 p2 p3 p4)), .val (.int (m0_7 p0 p1 p2 p3 p4)), .val (.int ((((f3 (f1 p0)) + (f3 (f1 p1))) + (f3 (f1 p2))) + (f3 (f1 p3)))), .unset] [(.int (f1 p1)), (.int (m0_8 p0 p1 p2 p3 p4)), (.int (f4 (m0_0 p0 p1 p2 p3 p4) (f1 p0)))])) _
    refine st23 _ ?_
    show Steps p.tables e below (T23.setTop (mkF m 172 #[.val (.int p0), .val (.int p1), .val (.int p2), .val (.int p3), .val (.int p4), .val (.int (f1 p0)), .val (.int (f1 p1)), .val (.int (f1 p2)), .val (.int (f1 p3)), .val (.int (m0_0 p0 p1 p2 p3 p4)), .val (.int (m0_7 p0 p1 p2 p3 p4)), .val (.int ((((f3 (f1 p0)) + (f3 (f1 p1))) + (f3 (f1 p2))) + (f3 (f1 p3)))), .unset] [(.int (f4 (m0_8 p0 p1 p2 p3 p4) (f1 p1))), (.int (f4 (m0_0 p0 p1 p2 p3 p4) (f1 p0)))])) _
    refine XS.iadd X23.here hx rfl (hb hby at_172) rfl ?_
    show Steps p.tables e below (T23.setTop (mkF m 173 #[.val (.int p0), .val (.int p1), .val (.int p2), .val (.int p3), .val (.int p4), .val (.int (f1 p0)), .val (.int (f1 p1)), .val (.int (f1 p2)), .val (.int (f1 p3)), .val (.int (m0_0 p0 p1 p2 p3 p4)), .val (.int (m0_7 p0 p1 p2 p3 p4)), .val (.int ((((f3 (f1 p0)) + (f3 (f1 p1))) + (f3 (f1 p2))) + (f3 (f1 p3)))), .unset] [(.int ((f4 (m0_0 p0 p1 p2 p3 p4) (f1 p0)) + (f4 (m0_8 p0 p1 p2 p3 p4) (f1 p1))))])) _
    refine XS.iload X23.here hx rfl (hb hby at_173) rfl ?_
    show Steps p.tables e below (T23.setTop (mkF m 175 #[.val (.int p0), .val (.int p1), .val (.int p2), .val (.int p3), .val (.int p4), .val (.int (f1 p0)), .val (.int (f1 p1)), .val (.int (f1 p2)), .val (.int (f1 p3)), .val (.int (m0_0 p0 p1 p2 p3 p4)), .val (.int (m0_7 p0 p1 p2 p3 p4)), .val (.int ((((f3 (f1 p0)) + (f3 (f1 p1))) + (f3 (f1 p2))) + (f3 (f1 p3)))), .unset] [(.int (f1 p1)), (.int ((f4 (m0_0 p0 p1 p2 p3 p4) (f1 p0)) + (f4 (m0_8 p0 p1 p2 p3 p4) (f1 p1))))])) _
    refine XS.bipush X23.here hx rfl (hb hby at_175) ?_
    exact kt
  refine own_back (b := T23.setTop (mkF m 185 #[.val (.int p0), .val (.int p1), .val (.int p2), .val (.int p3), .val (.int p4), .val (.int (f1 p0)), .val (.int (f1 p1)), .val (.int (f1 p2)), .val (.int (f1 p3)), .val (.int (m0_0 p0 p1 p2 p3 p4)), .val (.int (m0_7 p0 p1 p2 p3 p4)), .val (.int ((((f3 (f1 p0)) + (f3 (f1 p1))) + (f3 (f1 p2))) + (f3 (f1 p3)))), .unset] [(.int (m0_9 p0 p1 p2 p3 p4)), (.int ((f4 (m0_0 p0 p1 p2 p3 p4) (f1 p0)) + (f4 (m0_8 p0 p1 p2 p3 p4) (f1 p1))))])) (fun t kt => ?_) ?_
  · by_cases hm177_24 : (f1 p1) = (13 : Int32)
    · rw [show (m0_9 p0 p1 p2 p3 p4) = (1 : Int32) from by unfold m0_9; rw [if_pos hm177_24]] at kt
      show Steps p.tables e below (T23.setTop (mkF m 177 #[.val (.int p0), .val (.int p1), .val (.int p2), .val (.int p3), .val (.int p4), .val (.int (f1 p0)), .val (.int (f1 p1)), .val (.int (f1 p2)), .val (.int (f1 p3)), .val (.int (m0_0 p0 p1 p2 p3 p4)), .val (.int (m0_7 p0 p1 p2 p3 p4)), .val (.int ((((f3 (f1 p0)) + (f3 (f1 p1))) + (f3 (f1 p2))) + (f3 (f1 p3)))), .unset] [(.int (13 : Int32)), (.int (f1 p1)), (.int ((f4 (m0_0 p0 p1 p2 p3 p4) (f1 p0)) + (f4 (m0_8 p0 p1 p2 p3 p4) (f1 p1))))])) _
      refine XS.icmpNo X23.here hx rfl (hb hby at_177) rfl (teq hm177_24).2 ?_
      show Steps p.tables e below (T23.setTop (mkF m 180 #[.val (.int p0), .val (.int p1), .val (.int p2), .val (.int p3), .val (.int p4), .val (.int (f1 p0)), .val (.int (f1 p1)), .val (.int (f1 p2)), .val (.int (f1 p3)), .val (.int (m0_0 p0 p1 p2 p3 p4)), .val (.int (m0_7 p0 p1 p2 p3 p4)), .val (.int ((((f3 (f1 p0)) + (f3 (f1 p1))) + (f3 (f1 p2))) + (f3 (f1 p3)))), .unset] [(.int ((f4 (m0_0 p0 p1 p2 p3 p4) (f1 p0)) + (f4 (m0_8 p0 p1 p2 p3 p4) (f1 p1))))])) _
      refine XS.iconst X23.here hx rfl (hb hby at_180) ?_
      show Steps p.tables e below (T23.setTop (mkF m 181 #[.val (.int p0), .val (.int p1), .val (.int p2), .val (.int p3), .val (.int p4), .val (.int (f1 p0)), .val (.int (f1 p1)), .val (.int (f1 p2)), .val (.int (f1 p3)), .val (.int (m0_0 p0 p1 p2 p3 p4)), .val (.int (m0_7 p0 p1 p2 p3 p4)), .val (.int ((((f3 (f1 p0)) + (f3 (f1 p1))) + (f3 (f1 p2))) + (f3 (f1 p3)))), .unset] [(.int (1 : Int32)), (.int ((f4 (m0_0 p0 p1 p2 p3 p4) (f1 p0)) + (f4 (m0_8 p0 p1 p2 p3 p4) (f1 p1))))])) _
      refine XS.goto X23.here hx rfl (pc0 := 181) (pc' := 185) rfl (hb hby at_181) (by decide) (by decide) ?_
      exact kt
    · rw [show (m0_9 p0 p1 p2 p3 p4) = (0 : Int32) from by unfold m0_9; rw [if_neg hm177_24]] at kt
      show Steps p.tables e below (T23.setTop (mkF m 177 #[.val (.int p0), .val (.int p1), .val (.int p2), .val (.int p3), .val (.int p4), .val (.int (f1 p0)), .val (.int (f1 p1)), .val (.int (f1 p2)), .val (.int (f1 p3)), .val (.int (m0_0 p0 p1 p2 p3 p4)), .val (.int (m0_7 p0 p1 p2 p3 p4)), .val (.int ((((f3 (f1 p0)) + (f3 (f1 p1))) + (f3 (f1 p2))) + (f3 (f1 p3)))), .unset] [(.int (13 : Int32)), (.int (f1 p1)), (.int ((f4 (m0_0 p0 p1 p2 p3 p4) (f1 p0)) + (f4 (m0_8 p0 p1 p2 p3 p4) (f1 p1))))])) _
      refine XS.icmpYes X23.here hx rfl (pc0 := 177) (pc' := 184) rfl (hb hby at_177) rfl (feq hm177_24).2 (by decide) (by decide) ?_
      show Steps p.tables e below (T23.setTop (mkF m 184 #[.val (.int p0), .val (.int p1), .val (.int p2), .val (.int p3), .val (.int p4), .val (.int (f1 p0)), .val (.int (f1 p1)), .val (.int (f1 p2)), .val (.int (f1 p3)), .val (.int (m0_0 p0 p1 p2 p3 p4)), .val (.int (m0_7 p0 p1 p2 p3 p4)), .val (.int ((((f3 (f1 p0)) + (f3 (f1 p1))) + (f3 (f1 p2))) + (f3 (f1 p3)))), .unset] [(.int ((f4 (m0_0 p0 p1 p2 p3 p4) (f1 p0)) + (f4 (m0_8 p0 p1 p2 p3 p4) (f1 p1))))])) _
      refine XS.iconst X23.here hx rfl (hb hby at_184) ?_
      exact kt
  obtain ⟨_, _, ⟨T25, L25, k25, n25⟩, -, X25, ⟨Lc25, hQ25, l25, y25, z25⟩, st25⟩ := Jvm.LawKit.callS X23 hx (y := (⟨"com/example/winnow/winnow/BufferedTextBeginsLineBreakPinLaw", "pair", "(ZC)I"⟩ : MethodName)) hown (mvT hZ (hw _ (List.mem_of_getElem? (i := 11) rfl))) (mvT hZ (hw _ (List.mem_of_getElem? (i := 12) rfl))) (mvT hZ (hw _ (List.mem_of_getElem? (i := 2) rfl))) (mvT hZ (hw _ (List.mem_of_getElem? (i := 13) rfl))) (by decide) (backOf (W := 1) (rm4 l Z a0 hw [] (m0_9 p0 p1 p2 p3 p4) (f1 p2) h0 n0 Z0 ) hZ (hw _ (List.mem_of_getElem? (i := 13) rfl)) (hw _ (List.mem_of_getElem? (i := 2) rfl)) (by decide) (by decide)) (g := (mkF m 187 #[.val (.int p0), .val (.int p1), .val (.int p2), .val (.int p3), .val (.int p4), .val (.int (f1 p0)), .val (.int (f1 p1)), .val (.int (f1 p2)), .val (.int (f1 p3)), .val (.int (m0_0 p0 p1 p2 p3 p4)), .val (.int (m0_7 p0 p1 p2 p3 p4)), .val (.int ((((f3 (f1 p0)) + (f3 (f1 p1))) + (f3 (f1 p2))) + (f3 (f1 p3)))), .unset] [(.int (f1 p2)), (.int (m0_9 p0 p1 p2 p3 p4)), (.int ((f4 (m0_0 p0 p1 p2 p3 p4) (f1 p0)) + (f4 (m0_8 p0 p1 p2 p3 p4) (f1 p1))))])) rfl (by rw [hml]; rfl) (argsL := [(.int (m0_9 p0 p1 p2 p3 p4)), (.int (f1 p2))]) (rest := [(.int ((f4 (m0_0 p0 p1 p2 p3 p4) (f1 p0)) + (f4 (m0_8 p0 p1 p2 p3 p4) (f1 p1))))]) (lenOf pd_0_3 rfl) rfl (by show 2 * 0 + _ ≤ _; exact Nat.le_of_eq rfl) (hb hby at_187) (fun _ _ => ⟨rfl, e23, (by decide : 0 + 0 ≤ _), (by decide : 0 + 0 ≤ _)⟩)
  dsimp only [Pt.U, Pt.locs, Pt.cells, Pt.slots] at X25 l25 y25 z25 st25 hQ25
  subst l25 y25 z25
  obtain ⟨rfl, Nq25, e25⟩ := hQ25
  have N25 := Fr.app N23 Nq25
  refine own_back (b := T25.setTop (mkF m 195 #[.val (.int p0), .val (.int p1), .val (.int p2), .val (.int p3), .val (.int p4), .val (.int (f1 p0)), .val (.int (f1 p1)), .val (.int (f1 p2)), .val (.int (f1 p3)), .val (.int (m0_0 p0 p1 p2 p3 p4)), .val (.int (m0_7 p0 p1 p2 p3 p4)), .val (.int ((((f3 (f1 p0)) + (f3 (f1 p1))) + (f3 (f1 p2))) + (f3 (f1 p3)))), .unset] [(.int (13 : Int32)), (.int (f1 p2)), (.int (((f4 (m0_0 p0 p1 p2 p3 p4) (f1 p0)) + (f4 (m0_8 p0 p1 p2 p3 p4) (f1 p1))) + (f4 (m0_9 p0 p1 p2 p3 p4) (f1 p2))))])) (fun t kt => ?_) ?_
  · show Steps p.tables e below (T23.setTop (mkF m 185 #[.val (.int p0), .val (.int p1), .val (.int p2), .val (.int p3), .val (.int p4), .val (.int (f1 p0)), .val (.int (f1 p1)), .val (.int (f1 p2)), .val (.int (f1 p3)), .val (.int (m0_0 p0 p1 p2 p3 p4)), .val (.int (m0_7 p0 p1 p2 p3 p4)), .val (.int ((((f3 (f1 p0)) + (f3 (f1 p1))) + (f3 (f1 p2))) + (f3 (f1 p3)))), .unset] [(.int (m0_9 p0 p1 p2 p3 p4)), (.int ((f4 (m0_0 p0 p1 p2 p3 p4) (f1 p0)) + (f4 (m0_8 p0 p1 p2 p3 p4) (f1 p1))))])) _
    refine XS.iload X23.here hx rfl (hb hby at_185) rfl ?_
    show Steps p.tables e below (T23.setTop (mkF m 187 #[.val (.int p0), .val (.int p1), .val (.int p2), .val (.int p3), .val (.int p4), .val (.int (f1 p0)), .val (.int (f1 p1)), .val (.int (f1 p2)), .val (.int (f1 p3)), .val (.int (m0_0 p0 p1 p2 p3 p4)), .val (.int (m0_7 p0 p1 p2 p3 p4)), .val (.int ((((f3 (f1 p0)) + (f3 (f1 p1))) + (f3 (f1 p2))) + (f3 (f1 p3)))), .unset] [(.int (f1 p2)), (.int (m0_9 p0 p1 p2 p3 p4)), (.int ((f4 (m0_0 p0 p1 p2 p3 p4) (f1 p0)) + (f4 (m0_8 p0 p1 p2 p3 p4) (f1 p1))))])) _
    refine st25 _ ?_
    show Steps p.tables e below (T25.setTop (mkF m 190 #[.val (.int p0), .val (.int p1), .val (.int p2), .val (.int p3), .val (.int p4), .val (.int (f1 p0)), .val (.int (f1 p1)), .val (.int (f1 p2)), .val (.int (f1 p3)), .val (.int (m0_0 p0 p1 p2 p3 p4)), .val (.int (m0_7 p0 p1 p2 p3 p4)), .val (.int ((((f3 (f1 p0)) + (f3 (f1 p1))) + (f3 (f1 p2))) + (f3 (f1 p3)))), .unset] [(.int (f4 (m0_9 p0 p1 p2 p3 p4) (f1 p2))), (.int ((f4 (m0_0 p0 p1 p2 p3 p4) (f1 p0)) + (f4 (m0_8 p0 p1 p2 p3 p4) (f1 p1))))])) _
    refine XS.iadd X25.here hx rfl (hb hby at_190) rfl ?_
    show Steps p.tables e below (T25.setTop (mkF m 191 #[.val (.int p0), .val (.int p1), .val (.int p2), .val (.int p3), .val (.int p4), .val (.int (f1 p0)), .val (.int (f1 p1)), .val (.int (f1 p2)), .val (.int (f1 p3)), .val (.int (m0_0 p0 p1 p2 p3 p4)), .val (.int (m0_7 p0 p1 p2 p3 p4)), .val (.int ((((f3 (f1 p0)) + (f3 (f1 p1))) + (f3 (f1 p2))) + (f3 (f1 p3)))), .unset] [(.int (((f4 (m0_0 p0 p1 p2 p3 p4) (f1 p0)) + (f4 (m0_8 p0 p1 p2 p3 p4) (f1 p1))) + (f4 (m0_9 p0 p1 p2 p3 p4) (f1 p2))))])) _
    refine XS.iload X25.here hx rfl (hb hby at_191) rfl ?_
    show Steps p.tables e below (T25.setTop (mkF m 193 #[.val (.int p0), .val (.int p1), .val (.int p2), .val (.int p3), .val (.int p4), .val (.int (f1 p0)), .val (.int (f1 p1)), .val (.int (f1 p2)), .val (.int (f1 p3)), .val (.int (m0_0 p0 p1 p2 p3 p4)), .val (.int (m0_7 p0 p1 p2 p3 p4)), .val (.int ((((f3 (f1 p0)) + (f3 (f1 p1))) + (f3 (f1 p2))) + (f3 (f1 p3)))), .unset] [(.int (f1 p2)), (.int (((f4 (m0_0 p0 p1 p2 p3 p4) (f1 p0)) + (f4 (m0_8 p0 p1 p2 p3 p4) (f1 p1))) + (f4 (m0_9 p0 p1 p2 p3 p4) (f1 p2))))])) _
    refine XS.bipush X25.here hx rfl (hb hby at_193) ?_
    exact kt
  refine own_back (b := T25.setTop (mkF m 203 #[.val (.int p0), .val (.int p1), .val (.int p2), .val (.int p3), .val (.int p4), .val (.int (f1 p0)), .val (.int (f1 p1)), .val (.int (f1 p2)), .val (.int (f1 p3)), .val (.int (m0_0 p0 p1 p2 p3 p4)), .val (.int (m0_7 p0 p1 p2 p3 p4)), .val (.int ((((f3 (f1 p0)) + (f3 (f1 p1))) + (f3 (f1 p2))) + (f3 (f1 p3)))), .unset] [(.int (m0_10 p0 p1 p2 p3 p4)), (.int (((f4 (m0_0 p0 p1 p2 p3 p4) (f1 p0)) + (f4 (m0_8 p0 p1 p2 p3 p4) (f1 p1))) + (f4 (m0_9 p0 p1 p2 p3 p4) (f1 p2))))])) (fun t kt => ?_) ?_
  · by_cases hm195_26 : (f1 p2) = (13 : Int32)
    · rw [show (m0_10 p0 p1 p2 p3 p4) = (1 : Int32) from by unfold m0_10; rw [if_pos hm195_26]] at kt
      show Steps p.tables e below (T25.setTop (mkF m 195 #[.val (.int p0), .val (.int p1), .val (.int p2), .val (.int p3), .val (.int p4), .val (.int (f1 p0)), .val (.int (f1 p1)), .val (.int (f1 p2)), .val (.int (f1 p3)), .val (.int (m0_0 p0 p1 p2 p3 p4)), .val (.int (m0_7 p0 p1 p2 p3 p4)), .val (.int ((((f3 (f1 p0)) + (f3 (f1 p1))) + (f3 (f1 p2))) + (f3 (f1 p3)))), .unset] [(.int (13 : Int32)), (.int (f1 p2)), (.int (((f4 (m0_0 p0 p1 p2 p3 p4) (f1 p0)) + (f4 (m0_8 p0 p1 p2 p3 p4) (f1 p1))) + (f4 (m0_9 p0 p1 p2 p3 p4) (f1 p2))))])) _
      refine XS.icmpNo X25.here hx rfl (hb hby at_195) rfl (teq hm195_26).2 ?_
      show Steps p.tables e below (T25.setTop (mkF m 198 #[.val (.int p0), .val (.int p1), .val (.int p2), .val (.int p3), .val (.int p4), .val (.int (f1 p0)), .val (.int (f1 p1)), .val (.int (f1 p2)), .val (.int (f1 p3)), .val (.int (m0_0 p0 p1 p2 p3 p4)), .val (.int (m0_7 p0 p1 p2 p3 p4)), .val (.int ((((f3 (f1 p0)) + (f3 (f1 p1))) + (f3 (f1 p2))) + (f3 (f1 p3)))), .unset] [(.int (((f4 (m0_0 p0 p1 p2 p3 p4) (f1 p0)) + (f4 (m0_8 p0 p1 p2 p3 p4) (f1 p1))) + (f4 (m0_9 p0 p1 p2 p3 p4) (f1 p2))))])) _
      refine XS.iconst X25.here hx rfl (hb hby at_198) ?_
      show Steps p.tables e below (T25.setTop (mkF m 199 #[.val (.int p0), .val (.int p1), .val (.int p2), .val (.int p3), .val (.int p4), .val (.int (f1 p0)), .val (.int (f1 p1)), .val (.int (f1 p2)), .val (.int (f1 p3)), .val (.int (m0_0 p0 p1 p2 p3 p4)), .val (.int (m0_7 p0 p1 p2 p3 p4)), .val (.int ((((f3 (f1 p0)) + (f3 (f1 p1))) + (f3 (f1 p2))) + (f3 (f1 p3)))), .unset] [(.int (1 : Int32)), (.int (((f4 (m0_0 p0 p1 p2 p3 p4) (f1 p0)) + (f4 (m0_8 p0 p1 p2 p3 p4) (f1 p1))) + (f4 (m0_9 p0 p1 p2 p3 p4) (f1 p2))))])) _
      refine XS.goto X25.here hx rfl (pc0 := 199) (pc' := 203) rfl (hb hby at_199) (by decide) (by decide) ?_
      exact kt
    · rw [show (m0_10 p0 p1 p2 p3 p4) = (0 : Int32) from by unfold m0_10; rw [if_neg hm195_26]] at kt
      show Steps p.tables e below (T25.setTop (mkF m 195 #[.val (.int p0), .val (.int p1), .val (.int p2), .val (.int p3), .val (.int p4), .val (.int (f1 p0)), .val (.int (f1 p1)), .val (.int (f1 p2)), .val (.int (f1 p3)), .val (.int (m0_0 p0 p1 p2 p3 p4)), .val (.int (m0_7 p0 p1 p2 p3 p4)), .val (.int ((((f3 (f1 p0)) + (f3 (f1 p1))) + (f3 (f1 p2))) + (f3 (f1 p3)))), .unset] [(.int (13 : Int32)), (.int (f1 p2)), (.int (((f4 (m0_0 p0 p1 p2 p3 p4) (f1 p0)) + (f4 (m0_8 p0 p1 p2 p3 p4) (f1 p1))) + (f4 (m0_9 p0 p1 p2 p3 p4) (f1 p2))))])) _
      refine XS.icmpYes X25.here hx rfl (pc0 := 195) (pc' := 202) rfl (hb hby at_195) rfl (feq hm195_26).2 (by decide) (by decide) ?_
      show Steps p.tables e below (T25.setTop (mkF m 202 #[.val (.int p0), .val (.int p1), .val (.int p2), .val (.int p3), .val (.int p4), .val (.int (f1 p0)), .val (.int (f1 p1)), .val (.int (f1 p2)), .val (.int (f1 p3)), .val (.int (m0_0 p0 p1 p2 p3 p4)), .val (.int (m0_7 p0 p1 p2 p3 p4)), .val (.int ((((f3 (f1 p0)) + (f3 (f1 p1))) + (f3 (f1 p2))) + (f3 (f1 p3)))), .unset] [(.int (((f4 (m0_0 p0 p1 p2 p3 p4) (f1 p0)) + (f4 (m0_8 p0 p1 p2 p3 p4) (f1 p1))) + (f4 (m0_9 p0 p1 p2 p3 p4) (f1 p2))))])) _
      refine XS.iconst X25.here hx rfl (hb hby at_202) ?_
      exact kt
  obtain ⟨_, _, ⟨T27, L27, k27, n27⟩, -, X27, ⟨Lc27, hQ27, l27, y27, z27⟩, st27⟩ := Jvm.LawKit.callS X25 hx (y := (⟨"com/example/winnow/winnow/BufferedTextBeginsLineBreakPinLaw", "pair", "(ZC)I"⟩ : MethodName)) hown (mvT hZ (hw _ (List.mem_of_getElem? (i := 11) rfl))) (mvT hZ (hw _ (List.mem_of_getElem? (i := 12) rfl))) (mvT hZ (hw _ (List.mem_of_getElem? (i := 2) rfl))) (mvT hZ (hw _ (List.mem_of_getElem? (i := 13) rfl))) (by decide) (backOf (W := 1) (rm4 l Z a0 hw [] (m0_10 p0 p1 p2 p3 p4) (f1 p3) h0 n0 Z0 ) hZ (hw _ (List.mem_of_getElem? (i := 13) rfl)) (hw _ (List.mem_of_getElem? (i := 2) rfl)) (by decide) (by decide)) (g := (mkF m 205 #[.val (.int p0), .val (.int p1), .val (.int p2), .val (.int p3), .val (.int p4), .val (.int (f1 p0)), .val (.int (f1 p1)), .val (.int (f1 p2)), .val (.int (f1 p3)), .val (.int (m0_0 p0 p1 p2 p3 p4)), .val (.int (m0_7 p0 p1 p2 p3 p4)), .val (.int ((((f3 (f1 p0)) + (f3 (f1 p1))) + (f3 (f1 p2))) + (f3 (f1 p3)))), .unset] [(.int (f1 p3)), (.int (m0_10 p0 p1 p2 p3 p4)), (.int (((f4 (m0_0 p0 p1 p2 p3 p4) (f1 p0)) + (f4 (m0_8 p0 p1 p2 p3 p4) (f1 p1))) + (f4 (m0_9 p0 p1 p2 p3 p4) (f1 p2))))])) rfl (by rw [hml]; rfl) (argsL := [(.int (m0_10 p0 p1 p2 p3 p4)), (.int (f1 p3))]) (rest := [(.int (((f4 (m0_0 p0 p1 p2 p3 p4) (f1 p0)) + (f4 (m0_8 p0 p1 p2 p3 p4) (f1 p1))) + (f4 (m0_9 p0 p1 p2 p3 p4) (f1 p2))))]) (lenOf pd_0_3 rfl) rfl (by show 2 * 0 + _ ≤ _; exact Nat.le_of_eq rfl) (hb hby at_205) (fun _ _ => ⟨rfl, e25, (by decide : 0 + 0 ≤ _), (by decide : 0 + 0 ≤ _)⟩)
  dsimp only [Pt.U, Pt.locs, Pt.cells, Pt.slots] at X27 l27 y27 z27 st27 hQ27
  subst l27 y27 z27
  obtain ⟨rfl, Nq27, e27⟩ := hQ27
  have N27 := Fr.app N25 Nq27
  refine own_back (b := T27.setTop (mkF m 218 #[.val (.int p0), .val (.int p1), .val (.int p2), .val (.int p3), .val (.int p4), .val (.int (f1 p0)), .val (.int (f1 p1)), .val (.int (f1 p2)), .val (.int (f1 p3)), .val (.int (m0_0 p0 p1 p2 p3 p4)), .val (.int (m0_7 p0 p1 p2 p3 p4)), .val (.int ((((f3 (f1 p0)) + (f3 (f1 p1))) + (f3 (f1 p2))) + (f3 (f1 p3)))), .val (.int ((((f4 (m0_0 p0 p1 p2 p3 p4) (f1 p0)) + (f4 (m0_8 p0 p1 p2 p3 p4) (f1 p1))) + (f4 (m0_9 p0 p1 p2 p3 p4) (f1 p2))) + (f4 (m0_10 p0 p1 p2 p3 p4) (f1 p3))))] [(.int (((((f3 (f1 p0)) + (f3 (f1 p1))) + (f3 (f1 p2))) + (f3 (f1 p3))) - ((((f4 (m0_0 p0 p1 p2 p3 p4) (f1 p0)) + (f4 (m0_8 p0 p1 p2 p3 p4) (f1 p1))) + (f4 (m0_9 p0 p1 p2 p3 p4) (f1 p2))) + (f4 (m0_10 p0 p1 p2 p3 p4) (f1 p3))))), (.int (m0_7 p0 p1 p2 p3 p4))])) (fun t kt => ?_) ?_
  · show Steps p.tables e below (T25.setTop (mkF m 203 #[.val (.int p0), .val (.int p1), .val (.int p2), .val (.int p3), .val (.int p4), .val (.int (f1 p0)), .val (.int (f1 p1)), .val (.int (f1 p2)), .val (.int (f1 p3)), .val (.int (m0_0 p0 p1 p2 p3 p4)), .val (.int (m0_7 p0 p1 p2 p3 p4)), .val (.int ((((f3 (f1 p0)) + (f3 (f1 p1))) + (f3 (f1 p2))) + (f3 (f1 p3)))), .unset] [(.int (m0_10 p0 p1 p2 p3 p4)), (.int (((f4 (m0_0 p0 p1 p2 p3 p4) (f1 p0)) + (f4 (m0_8 p0 p1 p2 p3 p4) (f1 p1))) + (f4 (m0_9 p0 p1 p2 p3 p4) (f1 p2))))])) _
    refine XS.iload X25.here hx rfl (hb hby at_203) rfl ?_
    show Steps p.tables e below (T25.setTop (mkF m 205 #[.val (.int p0), .val (.int p1), .val (.int p2), .val (.int p3), .val (.int p4), .val (.int (f1 p0)), .val (.int (f1 p1)), .val (.int (f1 p2)), .val (.int (f1 p3)), .val (.int (m0_0 p0 p1 p2 p3 p4)), .val (.int (m0_7 p0 p1 p2 p3 p4)), .val (.int ((((f3 (f1 p0)) + (f3 (f1 p1))) + (f3 (f1 p2))) + (f3 (f1 p3)))), .unset] [(.int (f1 p3)), (.int (m0_10 p0 p1 p2 p3 p4)), (.int (((f4 (m0_0 p0 p1 p2 p3 p4) (f1 p0)) + (f4 (m0_8 p0 p1 p2 p3 p4) (f1 p1))) + (f4 (m0_9 p0 p1 p2 p3 p4) (f1 p2))))])) _
    refine st27 _ ?_
    show Steps p.tables e below (T27.setTop (mkF m 208 #[.val (.int p0), .val (.int p1), .val (.int p2), .val (.int p3), .val (.int p4), .val (.int (f1 p0)), .val (.int (f1 p1)), .val (.int (f1 p2)), .val (.int (f1 p3)), .val (.int (m0_0 p0 p1 p2 p3 p4)), .val (.int (m0_7 p0 p1 p2 p3 p4)), .val (.int ((((f3 (f1 p0)) + (f3 (f1 p1))) + (f3 (f1 p2))) + (f3 (f1 p3)))), .unset] [(.int (f4 (m0_10 p0 p1 p2 p3 p4) (f1 p3))), (.int (((f4 (m0_0 p0 p1 p2 p3 p4) (f1 p0)) + (f4 (m0_8 p0 p1 p2 p3 p4) (f1 p1))) + (f4 (m0_9 p0 p1 p2 p3 p4) (f1 p2))))])) _
    refine XS.iadd X27.here hx rfl (hb hby at_208) rfl ?_
    show Steps p.tables e below (T27.setTop (mkF m 209 #[.val (.int p0), .val (.int p1), .val (.int p2), .val (.int p3), .val (.int p4), .val (.int (f1 p0)), .val (.int (f1 p1)), .val (.int (f1 p2)), .val (.int (f1 p3)), .val (.int (m0_0 p0 p1 p2 p3 p4)), .val (.int (m0_7 p0 p1 p2 p3 p4)), .val (.int ((((f3 (f1 p0)) + (f3 (f1 p1))) + (f3 (f1 p2))) + (f3 (f1 p3)))), .unset] [(.int ((((f4 (m0_0 p0 p1 p2 p3 p4) (f1 p0)) + (f4 (m0_8 p0 p1 p2 p3 p4) (f1 p1))) + (f4 (m0_9 p0 p1 p2 p3 p4) (f1 p2))) + (f4 (m0_10 p0 p1 p2 p3 p4) (f1 p3))))])) _
    refine XS.istore X27.here hx rfl (hb hby at_209) rfl (l' := #[.val (.int p0), .val (.int p1), .val (.int p2), .val (.int p3), .val (.int p4), .val (.int (f1 p0)), .val (.int (f1 p1)), .val (.int (f1 p2)), .val (.int (f1 p3)), .val (.int (m0_0 p0 p1 p2 p3 p4)), .val (.int (m0_7 p0 p1 p2 p3 p4)), .val (.int ((((f3 (f1 p0)) + (f3 (f1 p1))) + (f3 (f1 p2))) + (f3 (f1 p3)))), .val (.int ((((f4 (m0_0 p0 p1 p2 p3 p4) (f1 p0)) + (f4 (m0_8 p0 p1 p2 p3 p4) (f1 p1))) + (f4 (m0_9 p0 p1 p2 p3 p4) (f1 p2))) + (f4 (m0_10 p0 p1 p2 p3 p4) (f1 p3))))]) rfl ?_
    show Steps p.tables e below (T27.setTop (mkF m 211 #[.val (.int p0), .val (.int p1), .val (.int p2), .val (.int p3), .val (.int p4), .val (.int (f1 p0)), .val (.int (f1 p1)), .val (.int (f1 p2)), .val (.int (f1 p3)), .val (.int (m0_0 p0 p1 p2 p3 p4)), .val (.int (m0_7 p0 p1 p2 p3 p4)), .val (.int ((((f3 (f1 p0)) + (f3 (f1 p1))) + (f3 (f1 p2))) + (f3 (f1 p3)))), .val (.int ((((f4 (m0_0 p0 p1 p2 p3 p4) (f1 p0)) + (f4 (m0_8 p0 p1 p2 p3 p4) (f1 p1))) + (f4 (m0_9 p0 p1 p2 p3 p4) (f1 p2))) + (f4 (m0_10 p0 p1 p2 p3 p4) (f1 p3))))] [])) _
    refine XS.iload X27.here hx rfl (hb hby at_211) rfl ?_
    show Steps p.tables e below (T27.setTop (mkF m 213 #[.val (.int p0), .val (.int p1), .val (.int p2), .val (.int p3), .val (.int p4), .val (.int (f1 p0)), .val (.int (f1 p1)), .val (.int (f1 p2)), .val (.int (f1 p3)), .val (.int (m0_0 p0 p1 p2 p3 p4)), .val (.int (m0_7 p0 p1 p2 p3 p4)), .val (.int ((((f3 (f1 p0)) + (f3 (f1 p1))) + (f3 (f1 p2))) + (f3 (f1 p3)))), .val (.int ((((f4 (m0_0 p0 p1 p2 p3 p4) (f1 p0)) + (f4 (m0_8 p0 p1 p2 p3 p4) (f1 p1))) + (f4 (m0_9 p0 p1 p2 p3 p4) (f1 p2))) + (f4 (m0_10 p0 p1 p2 p3 p4) (f1 p3))))] [(.int (m0_7 p0 p1 p2 p3 p4))])) _
    refine XS.iload X27.here hx rfl (hb hby at_213) rfl ?_
    show Steps p.tables e below (T27.setTop (mkF m 215 #[.val (.int p0), .val (.int p1), .val (.int p2), .val (.int p3), .val (.int p4), .val (.int (f1 p0)), .val (.int (f1 p1)), .val (.int (f1 p2)), .val (.int (f1 p3)), .val (.int (m0_0 p0 p1 p2 p3 p4)), .val (.int (m0_7 p0 p1 p2 p3 p4)), .val (.int ((((f3 (f1 p0)) + (f3 (f1 p1))) + (f3 (f1 p2))) + (f3 (f1 p3)))), .val (.int ((((f4 (m0_0 p0 p1 p2 p3 p4) (f1 p0)) + (f4 (m0_8 p0 p1 p2 p3 p4) (f1 p1))) + (f4 (m0_9 p0 p1 p2 p3 p4) (f1 p2))) + (f4 (m0_10 p0 p1 p2 p3 p4) (f1 p3))))] [(.int ((((f3 (f1 p0)) + (f3 (f1 p1))) + (f3 (f1 p2))) + (f3 (f1 p3)))), (.int (m0_7 p0 p1 p2 p3 p4))])) _
    refine XS.iload X27.here hx rfl (hb hby at_215) rfl ?_
    show Steps p.tables e below (T27.setTop (mkF m 217 #[.val (.int p0), .val (.int p1), .val (.int p2), .val (.int p3), .val (.int p4), .val (.int (f1 p0)), .val (.int (f1 p1)), .val (.int (f1 p2)), .val (.int (f1 p3)), .val (.int (m0_0 p0 p1 p2 p3 p4)), .val (.int (m0_7 p0 p1 p2 p3 p4)), .val (.int ((((f3 (f1 p0)) + (f3 (f1 p1))) + (f3 (f1 p2))) + (f3 (f1 p3)))), .val (.int ((((f4 (m0_0 p0 p1 p2 p3 p4) (f1 p0)) + (f4 (m0_8 p0 p1 p2 p3 p4) (f1 p1))) + (f4 (m0_9 p0 p1 p2 p3 p4) (f1 p2))) + (f4 (m0_10 p0 p1 p2 p3 p4) (f1 p3))))] [(.int ((((f4 (m0_0 p0 p1 p2 p3 p4) (f1 p0)) + (f4 (m0_8 p0 p1 p2 p3 p4) (f1 p1))) + (f4 (m0_9 p0 p1 p2 p3 p4) (f1 p2))) + (f4 (m0_10 p0 p1 p2 p3 p4) (f1 p3)))), (.int ((((f3 (f1 p0)) + (f3 (f1 p1))) + (f3 (f1 p2))) + (f3 (f1 p3)))), (.int (m0_7 p0 p1 p2 p3 p4))])) _
    refine XS.isub X27.here hx rfl (hb hby at_217) rfl ?_
    exact kt
  by_cases hc218_28 : (m0_7 p0 p1 p2 p3 p4) = (((((f3 (f1 p0)) + (f3 (f1 p1))) + (f3 (f1 p2))) + (f3 (f1 p3))) - ((((f4 (m0_0 p0 p1 p2 p3 p4) (f1 p0)) + (f4 (m0_8 p0 p1 p2 p3 p4) (f1 p1))) + (f4 (m0_9 p0 p1 p2 p3 p4) (f1 p2))) + (f4 (m0_10 p0 p1 p2 p3 p4) (f1 p3))))
  · refine own_back (b := T27.setTop (mkF m 226 #[.val (.int p0), .val (.int p1), .val (.int p2), .val (.int p3), .val (.int p4), .val (.int (f1 p0)), .val (.int (f1 p1)), .val (.int (f1 p2)), .val (.int (f1 p3)), .val (.int (m0_0 p0 p1 p2 p3 p4)), .val (.int (m0_7 p0 p1 p2 p3 p4)), .val (.int ((((f3 (f1 p0)) + (f3 (f1 p1))) + (f3 (f1 p2))) + (f3 (f1 p3)))), .val (.int ((((f4 (m0_0 p0 p1 p2 p3 p4) (f1 p0)) + (f4 (m0_8 p0 p1 p2 p3 p4) (f1 p1))) + (f4 (m0_9 p0 p1 p2 p3 p4) (f1 p2))) + (f4 (m0_10 p0 p1 p2 p3 p4) (f1 p3))))] [(.int (1 : Int32))])) (fun t kt => ?_) ?_
    · show Steps p.tables e below (T27.setTop (mkF m 218 #[.val (.int p0), .val (.int p1), .val (.int p2), .val (.int p3), .val (.int p4), .val (.int (f1 p0)), .val (.int (f1 p1)), .val (.int (f1 p2)), .val (.int (f1 p3)), .val (.int (m0_0 p0 p1 p2 p3 p4)), .val (.int (m0_7 p0 p1 p2 p3 p4)), .val (.int ((((f3 (f1 p0)) + (f3 (f1 p1))) + (f3 (f1 p2))) + (f3 (f1 p3)))), .val (.int ((((f4 (m0_0 p0 p1 p2 p3 p4) (f1 p0)) + (f4 (m0_8 p0 p1 p2 p3 p4) (f1 p1))) + (f4 (m0_9 p0 p1 p2 p3 p4) (f1 p2))) + (f4 (m0_10 p0 p1 p2 p3 p4) (f1 p3))))] [(.int (((((f3 (f1 p0)) + (f3 (f1 p1))) + (f3 (f1 p2))) + (f3 (f1 p3))) - ((((f4 (m0_0 p0 p1 p2 p3 p4) (f1 p0)) + (f4 (m0_8 p0 p1 p2 p3 p4) (f1 p1))) + (f4 (m0_9 p0 p1 p2 p3 p4) (f1 p2))) + (f4 (m0_10 p0 p1 p2 p3 p4) (f1 p3))))), (.int (m0_7 p0 p1 p2 p3 p4))])) _
      refine XS.icmpNo X27.here hx rfl (hb hby at_218) rfl (teq hc218_28).2 ?_
      show Steps p.tables e below (T27.setTop (mkF m 221 #[.val (.int p0), .val (.int p1), .val (.int p2), .val (.int p3), .val (.int p4), .val (.int (f1 p0)), .val (.int (f1 p1)), .val (.int (f1 p2)), .val (.int (f1 p3)), .val (.int (m0_0 p0 p1 p2 p3 p4)), .val (.int (m0_7 p0 p1 p2 p3 p4)), .val (.int ((((f3 (f1 p0)) + (f3 (f1 p1))) + (f3 (f1 p2))) + (f3 (f1 p3)))), .val (.int ((((f4 (m0_0 p0 p1 p2 p3 p4) (f1 p0)) + (f4 (m0_8 p0 p1 p2 p3 p4) (f1 p1))) + (f4 (m0_9 p0 p1 p2 p3 p4) (f1 p2))) + (f4 (m0_10 p0 p1 p2 p3 p4) (f1 p3))))] [])) _
      refine XS.iconst X27.here hx rfl (hb hby at_221) ?_
      show Steps p.tables e below (T27.setTop (mkF m 222 #[.val (.int p0), .val (.int p1), .val (.int p2), .val (.int p3), .val (.int p4), .val (.int (f1 p0)), .val (.int (f1 p1)), .val (.int (f1 p2)), .val (.int (f1 p3)), .val (.int (m0_0 p0 p1 p2 p3 p4)), .val (.int (m0_7 p0 p1 p2 p3 p4)), .val (.int ((((f3 (f1 p0)) + (f3 (f1 p1))) + (f3 (f1 p2))) + (f3 (f1 p3)))), .val (.int ((((f4 (m0_0 p0 p1 p2 p3 p4) (f1 p0)) + (f4 (m0_8 p0 p1 p2 p3 p4) (f1 p1))) + (f4 (m0_9 p0 p1 p2 p3 p4) (f1 p2))) + (f4 (m0_10 p0 p1 p2 p3 p4) (f1 p3))))] [(.int (1 : Int32))])) _
      refine XS.goto X27.here hx rfl (pc0 := 222) (pc' := 226) rfl (hb hby at_222) (by decide) (by decide) ?_
      exact kt
    obtain ⟨fs, hr, hrun, hended, hW, hsame⟩ := X27.leave (v := some (.int (1 : Int32))) (fun h => by rw [Bd.returns] at h; cases h)
    refine ⟨_, _, ?_, hrun, hended, _, _, rfl, ?_, ⟨_, rfl⟩, hW, hsame.mono (by decide) (by decide)⟩
    · show Steps p.tables e below (T27.setTop (mkF m 226 #[.val (.int p0), .val (.int p1), .val (.int p2), .val (.int p3), .val (.int p4), .val (.int (f1 p0)), .val (.int (f1 p1)), .val (.int (f1 p2)), .val (.int (f1 p3)), .val (.int (m0_0 p0 p1 p2 p3 p4)), .val (.int (m0_7 p0 p1 p2 p3 p4)), .val (.int ((((f3 (f1 p0)) + (f3 (f1 p1))) + (f3 (f1 p2))) + (f3 (f1 p3)))), .val (.int ((((f4 (m0_0 p0 p1 p2 p3 p4) (f1 p0)) + (f4 (m0_8 p0 p1 p2 p3 p4) (f1 p1))) + (f4 (m0_9 p0 p1 p2 p3 p4) (f1 p2))) + (f4 (m0_10 p0 p1 p2 p3 p4) (f1 p3))))] [(.int (1 : Int32))])) _
      exact retN X27 hx (t := .boolean) Bd.returns (by simp) (hb hby at_226) hr
    · show Q0 Z p0 p1 p2 p3 p4 h0 n0 _ T27.heap _
      rw [e27]
      exact ⟨by rw [show f0 p0 p1 p2 p3 p4 = (1 : Int32) from by unfold f0; rw [if_pos hc218_28]], N27⟩
  · refine own_back (b := T27.setTop (mkF m 226 #[.val (.int p0), .val (.int p1), .val (.int p2), .val (.int p3), .val (.int p4), .val (.int (f1 p0)), .val (.int (f1 p1)), .val (.int (f1 p2)), .val (.int (f1 p3)), .val (.int (m0_0 p0 p1 p2 p3 p4)), .val (.int (m0_7 p0 p1 p2 p3 p4)), .val (.int ((((f3 (f1 p0)) + (f3 (f1 p1))) + (f3 (f1 p2))) + (f3 (f1 p3)))), .val (.int ((((f4 (m0_0 p0 p1 p2 p3 p4) (f1 p0)) + (f4 (m0_8 p0 p1 p2 p3 p4) (f1 p1))) + (f4 (m0_9 p0 p1 p2 p3 p4) (f1 p2))) + (f4 (m0_10 p0 p1 p2 p3 p4) (f1 p3))))] [(.int (0 : Int32))])) (fun t kt => ?_) ?_
    · show Steps p.tables e below (T27.setTop (mkF m 218 #[.val (.int p0), .val (.int p1), .val (.int p2), .val (.int p3), .val (.int p4), .val (.int (f1 p0)), .val (.int (f1 p1)), .val (.int (f1 p2)), .val (.int (f1 p3)), .val (.int (m0_0 p0 p1 p2 p3 p4)), .val (.int (m0_7 p0 p1 p2 p3 p4)), .val (.int ((((f3 (f1 p0)) + (f3 (f1 p1))) + (f3 (f1 p2))) + (f3 (f1 p3)))), .val (.int ((((f4 (m0_0 p0 p1 p2 p3 p4) (f1 p0)) + (f4 (m0_8 p0 p1 p2 p3 p4) (f1 p1))) + (f4 (m0_9 p0 p1 p2 p3 p4) (f1 p2))) + (f4 (m0_10 p0 p1 p2 p3 p4) (f1 p3))))] [(.int (((((f3 (f1 p0)) + (f3 (f1 p1))) + (f3 (f1 p2))) + (f3 (f1 p3))) - ((((f4 (m0_0 p0 p1 p2 p3 p4) (f1 p0)) + (f4 (m0_8 p0 p1 p2 p3 p4) (f1 p1))) + (f4 (m0_9 p0 p1 p2 p3 p4) (f1 p2))) + (f4 (m0_10 p0 p1 p2 p3 p4) (f1 p3))))), (.int (m0_7 p0 p1 p2 p3 p4))])) _
      refine XS.icmpYes X27.here hx rfl (pc0 := 218) (pc' := 225) rfl (hb hby at_218) rfl (feq hc218_28).2 (by decide) (by decide) ?_
      show Steps p.tables e below (T27.setTop (mkF m 225 #[.val (.int p0), .val (.int p1), .val (.int p2), .val (.int p3), .val (.int p4), .val (.int (f1 p0)), .val (.int (f1 p1)), .val (.int (f1 p2)), .val (.int (f1 p3)), .val (.int (m0_0 p0 p1 p2 p3 p4)), .val (.int (m0_7 p0 p1 p2 p3 p4)), .val (.int ((((f3 (f1 p0)) + (f3 (f1 p1))) + (f3 (f1 p2))) + (f3 (f1 p3)))), .val (.int ((((f4 (m0_0 p0 p1 p2 p3 p4) (f1 p0)) + (f4 (m0_8 p0 p1 p2 p3 p4) (f1 p1))) + (f4 (m0_9 p0 p1 p2 p3 p4) (f1 p2))) + (f4 (m0_10 p0 p1 p2 p3 p4) (f1 p3))))] [])) _
      refine XS.iconst X27.here hx rfl (hb hby at_225) ?_
      exact kt
    obtain ⟨fs, hr, hrun, hended, hW, hsame⟩ := X27.leave (v := some (.int (0 : Int32))) (fun h => by rw [Bd.returns] at h; cases h)
    refine ⟨_, _, ?_, hrun, hended, _, _, rfl, ?_, ⟨_, rfl⟩, hW, hsame.mono (by decide) (by decide)⟩
    · show Steps p.tables e below (T27.setTop (mkF m 226 #[.val (.int p0), .val (.int p1), .val (.int p2), .val (.int p3), .val (.int p4), .val (.int (f1 p0)), .val (.int (f1 p1)), .val (.int (f1 p2)), .val (.int (f1 p3)), .val (.int (m0_0 p0 p1 p2 p3 p4)), .val (.int (m0_7 p0 p1 p2 p3 p4)), .val (.int ((((f3 (f1 p0)) + (f3 (f1 p1))) + (f3 (f1 p2))) + (f3 (f1 p3)))), .val (.int ((((f4 (m0_0 p0 p1 p2 p3 p4) (f1 p0)) + (f4 (m0_8 p0 p1 p2 p3 p4) (f1 p1))) + (f4 (m0_9 p0 p1 p2 p3 p4) (f1 p2))) + (f4 (m0_10 p0 p1 p2 p3 p4) (f1 p3))))] [(.int (0 : Int32))])) _
      exact retN X27 hx (t := .boolean) Bd.returns (by simp) (hb hby at_226) hr
    · show Q0 Z p0 p1 p2 p3 p4 h0 n0 _ T27.heap _
      rw [e27]
      exact ⟨by rw [show f0 p0 p1 p2 p3 p4 = (0 : Int32) from by unfold f0; rw [if_neg hc218_28]], N27⟩
theorem own_one (b c : Int32) : (f2 c b = 0 ∧ f3 c = 0 ∧ f4 b c = 0) ∨ (f2 c b = 1 ∧ f3 c = 1 ∧ f4 b c = 0) ∨ (f2 c b = 0 ∧ f3 c = 1 ∧ f4 b c = 1) := by
  unfold f2 f3 f4
  by_cases h1 : c = (13 : Int32)
  · have h2 : ¬ c = (10 : Int32) := by rw [h1]; decide
    simp only [if_pos h1, if_neg h2, ite_self]
    decide
  · by_cases h2 : c = (10 : Int32)
    · by_cases h3 : b = (0 : Int32)
      · simp only [if_neg h1, if_pos h2, if_pos h3]
        decide
      · simp only [if_neg h1, if_pos h2, if_neg h3]
        decide
    · simp only [if_neg h1, if_neg h2, ite_self]
      decide
theorem own_law (a b c d g : Int32) : f0 a b c d g = 1 := by
  have e1 : m0_8 a b c d g = m0_2 a b c d g := rfl
  have e2 : m0_9 a b c d g = m0_4 a b c d g := rfl
  have e3 : m0_10 a b c d g = m0_6 a b c d g := rfl
  have t0 := own_one (m0_0 a b c d g) (f1 a)
  have t1 := own_one (m0_2 a b c d g) (f1 b)
  have t2 := own_one (m0_4 a b c d g) (f1 c)
  have t3 := own_one (m0_6 a b c d g) (f1 d)
  have u1 : m0_1 a b c d g = if f2 (f1 a) (m0_0 a b c d g) = 0 then 0 else 0 + 1 := rfl
  have u2 : m0_3 a b c d g = if f2 (f1 b) (m0_2 a b c d g) = 0 then m0_1 a b c d g else m0_1 a b c d g + 1 := rfl
  have u3 : m0_5 a b c d g = if f2 (f1 c) (m0_4 a b c d g) = 0 then m0_3 a b c d g else m0_3 a b c d g + 1 := rfl
  have u4 : m0_7 a b c d g = if f2 (f1 d) (m0_6 a b c d g) = 0 then m0_5 a b c d g else m0_5 a b c d g + 1 := rfl
  unfold f0
  rw [e1, e2, e3, u4, u3, u2, u1]
  have z1 : ¬ (1 : Int32) = 0 := by decide
  rcases t0 with ⟨x0, y0, z0⟩ | ⟨x0, y0, z0⟩ | ⟨x0, y0, z0⟩ <;> rcases t1 with ⟨x1, y1, w1⟩ | ⟨x1, y1, w1⟩ | ⟨x1, y1, w1⟩ <;> rcases t2 with ⟨x2, y2, w2⟩ | ⟨x2, y2, w2⟩ | ⟨x2, y2, w2⟩ <;> rcases t3 with ⟨x3, y3, w3⟩ | ⟨x3, y3, w3⟩ | ⟨x3, y3, w3⟩ <;> (rw [x0, x1, x2, x3, y0, y1, y2, y3, z0, w1, w2, w3]; decide)
set_option maxRecDepth 65536 in
set_option maxHeartbeats 40000000 in
theorem comes_1 {Post : Tables → Env → Array Value → State → Outcome → State → Prop} (hpost : ∀ tb e args s v u, (limb_1_1.after args s (.returned v) u = true ∧ limb_1_2.after args s (.returned v) u = true ∧ True) → FrameEnd s (.returned v) u (Jvm.fieldLocs frame_1_writes args s ++ Jvm.arrayLocs frame_1_arrays args s ++ Jvm.staticLocs frame_1_statics s) 0 0 → Post tb e args s (.returned v) u) :
    ArmFor flags0 classFile x code maxLocals ret World_1 tables_1 room_1 Calls_1 rest_1 Pre_1 Post := by
  intro l hfl _ _ p e ha hc hk s m args below hf hA hF happ hP
  obtain ⟨hcalls, hrest, hpre⟩ := hP
  obtain ⟨-, -, -, hnamed, -, -, -, hat⟩ := (Spec.applies_iff hf).mp happ
  obtain ⟨hg, hn⟩ := and_e (Cond.before_iff.mp (show (Jvm.Cond.and given_1 narrow_1).before args s = true from hpre))
  obtain ⟨gc, gr0⟩ := and_e hg
  obtain ⟨ga0, gr1⟩ := and_e gr0
  obtain ⟨ga1, gr2⟩ := and_e gr1
  obtain ⟨ga2, gr3⟩ := and_e gr2
  obtain ⟨ga3, gr4⟩ := and_e gr3
  obtain ⟨w0, w1, w2, w3, w4, rfl⟩ : ∃ w0 w1 w2 w3 w4 : Value, args = #[w0, w1, w2, w3, w4] := by
    have hs : args.size = 5 := by simpa [Cond.value, given_1] using gc
    obtain ⟨L⟩ := args
    match L, hs with
    | [w0, w1, w2, w3, w4], _ => exact ⟨w0, w1, w2, w3, w4, rfl⟩
  have hw := fun d (hd : d ∈ tables_1) => atoms_spec (ws := Jvm.Cond.code x code maxLocals ret :: tables_1) hat d (List.mem_cons_of_mem _ hd)
  have hfit : Fit s := fun {y c} hc i hi => by
    obtain ⟨ha, rfl⟩ := Array.getElem?_eq_some_iff.mp hc
    have q := List.all_eq_true.mp ((Array.all_eq_true_iff_forall_mem.mp hF) _ (Array.getElem_mem ha)) i (List.mem_range.mpr hi)
    simpa [Array.getElem?_eq_getElem hi] using q
  obtain ⟨i0, ei0⟩ := is_v ga0
  obtain rfl : w0 = (.int i0) := Option.some.inj ei0
  obtain ⟨i1, ei1⟩ := is_v ga1
  obtain rfl : w1 = (.int i1) := Option.some.inj ei1
  obtain ⟨i2, ei2⟩ := is_v ga2
  obtain rfl : w2 = (.int i2) := Option.some.inj ei2
  obtain ⟨i3, ei3⟩ := is_v ga3
  obtain rfl : w3 = (.int i3) := Option.some.inj ei3
  obtain ⟨i4, ei4⟩ := is_v gr4
  obtain rfl : w4 = (.int i4) := Option.some.inj ei4
  obtain ⟨n, o, h1, h2, h3, _, L, rfl, ⟨rfl, N⟩, hq⟩ := rm0 l s _ hw tables_1 i0 i1 i2 i3 i4 s.heap s.heap.size (Nat.le_refl _)  p e ha hc hk s m _ below hf ((Spec.applies_iff_loose hf).mp happ).1 ⟨rfl, State.Warmed39.refl s, rfl⟩ trivial
  refine ⟨n, _, h1, h2, h3, hpost _ _ _ _ _ _ ⟨Cond.after_iff.mpr rfl, Cond.after_iff.mpr (eq_i res_at (Term.int_eval (1)) (congrArg Value.int (own_law i0 i1 i2 i3 i4))), trivial⟩ ⟨hq.1, hq.2.1, (hq.2.2.sift fun y hy => Or.inr (N y hy)).mono (by decide) (by decide)⟩⟩
theorem main_1_1 : Claimed_1_1 := comes_1 fun _ _ _ _ _ _ h hF => ⟨h.1, hF⟩
theorem main_1_2 : Claimed_1_2 := comes_1 fun _ _ _ _ _ _ h hF => ⟨h.2.1, hF⟩
end Jvm.Pilot.@@N@@
namespace Jvm.Pilot.@@N@@
open Jvm Jvm.ClassFile Sem Op Lib Jvm.Free Jvm.Stand Jvm.Pilot.@@N@@.Jvm.D
/-! MADE BY PROGRAM (witnessworld.py) out of the Statement's table words and the real class files: 9 classes; the members and pool entries that the words name. The judged class is class 1, her method 1. -/
namespace start1
open Jvm.ClassFile
def u (s : String) : CpInfo := .utf8 (stringToUtf16 s)
/-- a pool by its gaps: so many unusable entries, then the entry; so many at the end -/
def gap : Nat → List CpInfo → List CpInfo
  | 0, r => r
  | n + 1, r => .unusable :: gap n r
def poolList (es : List (Nat × CpInfo)) (last : Nat) : List CpInfo := es.foldr (fun e r => gap e.1 (e.2 :: r)) (gap last [])
def pool (es : List (Nat × CpInfo)) (last : Nat) : Array CpInfo := ⟨poolList es last⟩
def fileOf (pool : Array CpInfo) (this : Nat) (attrs : Array Attribute := #[]) (ms : Array MethodInfo := #[]) (fl : Nat := 33) (sup : Nat := 0) (ifs : Array Nat := #[]) (fds : Array FieldInfo := #[]) : ClassFile where
  minorVersion := 0
  majorVersion := 65
  constantPool := pool
  accessFlags := fl
  thisClass := this
  superClass := sup
  interfaces := ifs
  fields := fds
  methods := ms
  attributes := attrs
def plain (name : String) (sup : Option ClassId) : Class where
  name := name
  kind := .ordinary
  loader := none
  accessFlags := 33
  super := sup
  interfaces := #[]
  cf := none
  fields := #[]
  methods := #[]
  instanceTypes := #[]
  staticTypes := #[]
  resolved := #[]
  callSites := []
  init := .initialized
  statics := none
  mirror := none

def pool0 : Array CpInfo := pool [(5, u "<init>"), (0, u "()V"), (1, .class_ 10), (1, u "java/lang/Object")] 113

def k0m0 : Method := { name := "<init>", desc := "()V", sig := { parameters := [], returnType := none }, accessFlags := 1, code := none }
/-- java/lang/Object -/
def k0 : Class := { plain "java/lang/Object" none with
  accessFlags := 33
  interfaces := #[]
  cf := some (fileOf pool0 8 #[] #[{ accessFlags := 1, nameIndex := 5, descriptorIndex := 6, attributes := #[] }] 33 0 #[] #[])
  fields := #[]
  methods := #[k0m0]
  instanceTypes := #[]
  staticTypes := #[]
  resolved := Array.replicate 124 none
  statics := none }

def pool1 : Array CpInfo := pool [(2, .class_ 4), (1, u "java/lang/Object"), (0, u "<init>"), (0, u "()V"), (0, .methodref 8 9), (0, .class_ 10), (0, .nameAndType 11 12), (0, u "com/example/winnow/winnow/BufferedTextBeginsLineBreakPinLaw"), (0, u "pick"), (0, u "(I)C"), (0, .methodref 14 15), (0, .class_ 16), (0, .nameAndType 17 18), (0, u "com/example/winnow/winnow/TextFile$BufferedText"), (0, u "beginsLineBreak"), (0, u "(CZ)Z"), (0, .methodref 8 20), (0, .nameAndType 21 22), (0, u "end"), (0, u "(C)I"), (0, .methodref 8 24), (0, .nameAndType 25 26), (0, u "pair"), (0, u "(ZC)I"), (2, u "law"), (0, u "(IIIII)Z")] 7

def k1m0 : Method := { name := "<init>", desc := "()V", sig := { parameters := [], returnType := none }, accessFlags := 1, code := none }
def k1c1 : Code := { maxStack := 3, maxLocals := 13, code := code, exceptionTable := #[], attributes := #[] }
def k1m1 : Method := { name := "law", desc := "(IIIII)Z", sig := { parameters := [.int, .int, .int, .int, .int], returnType := some .boolean }, accessFlags := 9, code := some k1c1 }
def k1c2 : Code := { maxStack := 2, maxLocals := 2, code := method_3_code, exceptionTable := #[], attributes := #[] }
def k1m2 : Method := { name := "pick", desc := "(I)C", sig := { parameters := [.int], returnType := some .char }, accessFlags := 10, code := some k1c2 }
def k1c3 : Code := { maxStack := 2, maxLocals := 1, code := method_4_code, exceptionTable := #[], attributes := #[] }
def k1m3 : Method := { name := "end", desc := "(C)I", sig := { parameters := [.char], returnType := some .int }, accessFlags := 10, code := some k1c3 }
def k1c4 : Code := { maxStack := 2, maxLocals := 2, code := method_5_code, exceptionTable := #[], attributes := #[] }
def k1m4 : Method := { name := "pair", desc := "(ZC)I", sig := { parameters := [.boolean, .char], returnType := some .int }, accessFlags := 10, code := some k1c4 }
/-- com/example/winnow/winnow/BufferedTextBeginsLineBreakPinLaw -/
def k1 : Class := { plain "com/example/winnow/winnow/BufferedTextBeginsLineBreakPinLaw" (some 0) with
  accessFlags := 49
  interfaces := #[]
  cf := some (fileOf pool1 8 #[] #[{ accessFlags := 1, nameIndex := 5, descriptorIndex := 6, attributes := #[] }, { accessFlags := 9, nameIndex := 29, descriptorIndex := 30, attributes := #[] }, { accessFlags := 10, nameIndex := 11, descriptorIndex := 12, attributes := #[] }, { accessFlags := 10, nameIndex := 21, descriptorIndex := 22, attributes := #[] }, { accessFlags := 10, nameIndex := 25, descriptorIndex := 26, attributes := #[] }] 49 2 #[] #[])
  fields := #[]
  methods := #[k1m0, k1m1, k1m2, k1m3, k1m4]
  instanceTypes := #[]
  staticTypes := #[]
  resolved := Array.replicate 38 none
  statics := none }

def pool2 : Array CpInfo := pool [(2, .class_ 4), (1, u "java/lang/Object"), (3, .class_ 10), (1, u "com/example/winnow/winnow/TextFile$BufferedText"), (0, u "text"), (0, u "Ljava/io/Reader;"), (2, u "mostChars"), (0, u "I"), (2, u "buffer"), (0, u "[C"), (2, u "emptyLinesAhead"), (0, u "J"), (6, u "next"), (6, u "beginsLineBreak"), (0, u "(CZ)Z"), (2, u "end"), (11, u "offset"), (20, .class_ 76), (0, u "com/example/winnow/winnow/TextFile")] 2

def k2c0 : Code := { maxStack := 2, maxLocals := 2, code := prog_54_method_4_code, exceptionTable := #[], attributes := #[] }
def k2m0 : Method := { name := "beginsLineBreak", desc := "(CZ)Z", sig := { parameters := [.char, .boolean], returnType := some .boolean }, accessFlags := 8, code := some k2c0 }
/-- com/example/winnow/winnow/TextFile$BufferedText -/
def k2 : Class := { plain "com/example/winnow/winnow/TextFile$BufferedText" (some 0) with
  accessFlags := 1056
  interfaces := #[]
  cf := some (fileOf pool2 8 #[.nestHost 75] #[{ accessFlags := 8, nameIndex := 38, descriptorIndex := 39, attributes := #[] }] 1056 2 #[] #[{ accessFlags := 18, nameIndex := 11, descriptorIndex := 12, attributes := #[] }, { accessFlags := 18, nameIndex := 15, descriptorIndex := 16, attributes := #[] }, { accessFlags := 2, nameIndex := 23, descriptorIndex := 24, attributes := #[] }, { accessFlags := 0, nameIndex := 19, descriptorIndex := 20, attributes := #[] }, { accessFlags := 0, nameIndex := 31, descriptorIndex := 16, attributes := #[] }, { accessFlags := 0, nameIndex := 42, descriptorIndex := 16, attributes := #[] }, { accessFlags := 0, nameIndex := 54, descriptorIndex := 24, attributes := #[] }])
  fields := #[{ name := "text", type := (.object "java/io/Reader"), accessFlags := 18, slot := 0, constantValue := 0 }, { name := "mostChars", type := .int, accessFlags := 18, slot := 1, constantValue := 0 }, { name := "emptyLinesAhead", type := .long, accessFlags := 2, slot := 2, constantValue := 0 }, { name := "buffer", type := (.array .char), accessFlags := 0, slot := 3, constantValue := 0 }, { name := "next", type := .int, accessFlags := 0, slot := 4, constantValue := 0 }, { name := "end", type := .int, accessFlags := 0, slot := 5, constantValue := 0 }, { name := "offset", type := .long, accessFlags := 0, slot := 6, constantValue := 0 }]
  methods := #[k2m0]
  instanceTypes := #[(.object "java/io/Reader"), .int, .long, (.array .char), .int, .int, .long]
  staticTypes := #[]
  resolved := Array.replicate 79 none
  statics := none }

def pool3 : Array CpInfo := pool [(1, u "java/lang/Cloneable"), (0, .class_ 1), (0, u "java/lang/Object"), (0, .class_ 3)] 3

/-- java/lang/Cloneable -/
def k3 : Class := { plain "java/lang/Cloneable" (some 0) with
  accessFlags := 1537
  interfaces := #[]
  cf := some (fileOf pool3 2 #[] #[] 1537 4 #[] #[])
  fields := #[]
  methods := #[]
  instanceTypes := #[]
  staticTypes := #[]
  resolved := Array.replicate 8 none
  statics := none }

def pool4 : Array CpInfo := pool [(1, u "java/io/Serializable"), (0, .class_ 1), (0, u "java/lang/Object"), (0, .class_ 3)] 3

/-- java/io/Serializable -/
def k4 : Class := { plain "java/io/Serializable" (some 0) with
  accessFlags := 1537
  interfaces := #[]
  cf := some (fileOf pool4 2 #[] #[] 1537 4 #[] #[])
  fields := #[]
  methods := #[]
  instanceTypes := #[]
  staticTypes := #[]
  resolved := Array.replicate 8 none
  statics := none }

/-- the primitive byte -/
def k5 : Class := { plain "byte" none with kind := .primitive 'B', accessFlags := 0x411 }
/-- [B -/
def k6 : Class := { plain "[B" (some 0) with kind := .array 5 .byte, interfaces := #[3, 4], accessFlags := 1041 }

/-- the primitive int -/
def k7 : Class := { plain "int" none with kind := .primitive 'I', accessFlags := 0x411 }
/-- [I -/
def k8 : Class := { plain "[I" (some 0) with kind := .array 7 .int, interfaces := #[3, 4], accessFlags := 1041 }

def heap : Heap := #[]
def classes : Array Class := #[k0, k1, k2, k3, k4, k5, k6, k7, k8]
def interned : List (Array UInt16 × Addr) := []
def slotsUsed : Nat := 0
def theMethod : MethodId := ⟨1, 1⟩
def args0 : Array Value := #[.int 10, .int 1, .int 4, .int 5, .int 6]
def aboutOver (below : List Frame) : State where
  vm := { classes := classes, interned := interned.toArray }
  heap := heap
  slotsUsed := slotsUsed
  threads := #[{ frames := .invoking theMethod args0 :: below }]
def below0 : List Frame := [.native { method := ⟨0, 0⟩, args := #[] }]
def about1 : State := aboutOver below0
def p0 : Program := .bare "" "" ""
def e0 : Env := launch0.env 0 0 0
theorem w_frames : about1.frames = Frame.invoking theMethod args0 :: below0 := rfl
set_option maxRecDepth 65536 in
theorem w_args : argsFit about1.vm theMethod args0 = true := by decide +kernel
set_option maxRecDepth 65536 in
theorem w_heap : heapFits about1 = true := by decide +kernel
set_option maxRecDepth 65536 in
theorem w_runnable : about1.curStatus? = some .runnable := by decide +kernel
set_option maxRecDepth 65536 in
theorem w_alone : about1.alone = true := by decide +kernel
set_option maxRecDepth 65536 in
theorem w_named : about1.methodNamed? x = some theMethod := by decide +kernel
set_option maxRecDepth 65536 in
theorem w_hears : about1.hears theMethod below0 = true := by decide +kernel
set_option maxRecDepth 65536 in
theorem w_ripe : about1.ripe theMethod args0 below0 = true := by decide +kernel
theorem w_running : about1.status = .running := rfl
set_option maxRecDepth 65536 in
theorem w_room : about1.hasRoom e0.platform room_1 = true :=
  launch0.hasRoom_least _ room_1 (by decide +kernel) (by decide +kernel) (by decide +kernel) (by decide +kernel) (by decide +kernel) (by decide +kernel)
theorem allAtoms_all (ts : List Jvm.Cond) (a : Array Jvm.Value) (st : Jvm.State) : (allAtoms ts).before a st = ts.all (fun c => c.before a st) := by
  induction ts with
  | nil => rfl
  | cons c t ih =>
    show (Jvm.Cond.and c (allAtoms t)).before a st = _
    rw [Jvm.Cond.before_and, ih, List.all_cons]
def words1 : List Jvm.Cond := Jvm.Cond.code x code maxLocals ret :: tables_1
/-- a 'code' word, met by the world's own term for the bytes: nothing is compared byte by byte -/
theorem code_word {y : MethodName} {bytes : ByteArray} {mx : Nat} {rt : Option FieldType} {a : Array Value} {s : State} {m : MethodId} {meth : Method} {c : Code} (h1 : s.methodNamed? y = some m) (h2 : s.vm.method? m = some meth) (h3 : meth.code = some c) (h4 : c.code = bytes)
    (h5 : (c.maxLocals == mx && c.exceptionTable.isEmpty && decide (c.maxStack ≤ mostOperands) && decide (meth.sig.returnType = rt) && !meth.locks && decide (parseMethodDescriptor y.desc = some meth.sig)) = true) : (Jvm.Cond.code y bytes mx rt).before a s = true := by
  simp only [Bool.and_eq_true, beq_iff_eq, Bool.not_eq_true', decide_eq_true_eq] at h5
  obtain ⟨⟨⟨⟨⟨g1, g2⟩, g3⟩, g4⟩, g5⟩, g6⟩ := h5
  simp [Cond.before, Cond.holds, Cond.value, h1, h2, h3, h4, g1, g2, g3, g4, g5, g6]
def isCode : Jvm.Cond → Bool
  | .code _ _ _ _ => true
  | _ => false
theorem all_split {L : List Jvm.Cond} {P : Jvm.Cond → Bool} (h1 : L.all (fun c => isCode c || P c) = true) (h2 : ∀ c ∈ L.filter isCode, P c = true) : L.all P = true := by
  refine List.all_eq_true.mpr fun c hc => ?_
  have h := List.all_eq_true.mp h1 c hc
  rcases Bool.eq_false_or_eq_true (isCode c) with hi | hi
  · exact h2 c (List.mem_filter.mpr ⟨hc, hi⟩)
  · simpa [hi] using h
set_option maxRecDepth 65536 in
theorem w_c0 : (Jvm.Cond.code x code maxLocals ret).before args0 about1 = true := code_word (m := ⟨1, 1⟩) (meth := k1m1) (c := k1c1) (by decide +kernel) rfl rfl rfl (by decide +kernel)
set_option maxRecDepth 65536 in
theorem w_c1 : (Jvm.Cond.code ({ cls := "com/example/winnow/winnow/BufferedTextBeginsLineBreakPinLaw", name := "pick", desc := "(I)C" } : Jvm.MethodName) method_3_code (2 : Nat) (Option.some Jvm.ClassFile.FieldType.char)).before args0 about1 = true := code_word (m := ⟨1, 2⟩) (meth := k1m2) (c := k1c2) (by decide +kernel) rfl rfl rfl (by decide +kernel)
set_option maxRecDepth 65536 in
theorem w_c2 : (Jvm.Cond.code ({ cls := "com/example/winnow/winnow/TextFile$BufferedText", name := "beginsLineBreak", desc := "(CZ)Z" } : Jvm.MethodName) prog_54_method_4_code (2 : Nat) (Option.some Jvm.ClassFile.FieldType.boolean)).before args0 about1 = true := code_word (m := ⟨2, 0⟩) (meth := k2m0) (c := k2c0) (by decide +kernel) rfl rfl rfl (by decide +kernel)
set_option maxRecDepth 65536 in
theorem w_c3 : (Jvm.Cond.code ({ cls := "com/example/winnow/winnow/BufferedTextBeginsLineBreakPinLaw", name := "end", desc := "(C)I" } : Jvm.MethodName) method_4_code (1 : Nat) (Option.some Jvm.ClassFile.FieldType.int)).before args0 about1 = true := code_word (m := ⟨1, 3⟩) (meth := k1m3) (c := k1c3) (by decide +kernel) rfl rfl rfl (by decide +kernel)
set_option maxRecDepth 65536 in
theorem w_c4 : (Jvm.Cond.code ({ cls := "com/example/winnow/winnow/BufferedTextBeginsLineBreakPinLaw", name := "pair", desc := "(ZC)I" } : Jvm.MethodName) method_5_code (2 : Nat) (Option.some Jvm.ClassFile.FieldType.int)).before args0 about1 = true := code_word (m := ⟨1, 4⟩) (meth := k1m4) (c := k1c4) (by decide +kernel) rfl rfl rfl (by decide +kernel)
def codes1 : List Jvm.Cond := [Jvm.Cond.code x code maxLocals ret, Jvm.Cond.code ({ cls := "com/example/winnow/winnow/BufferedTextBeginsLineBreakPinLaw", name := "pick", desc := "(I)C" } : Jvm.MethodName) method_3_code (2 : Nat) (Option.some Jvm.ClassFile.FieldType.char), Jvm.Cond.code ({ cls := "com/example/winnow/winnow/TextFile$BufferedText", name := "beginsLineBreak", desc := "(CZ)Z" } : Jvm.MethodName) prog_54_method_4_code (2 : Nat) (Option.some Jvm.ClassFile.FieldType.boolean), Jvm.Cond.code ({ cls := "com/example/winnow/winnow/BufferedTextBeginsLineBreakPinLaw", name := "end", desc := "(C)I" } : Jvm.MethodName) method_4_code (1 : Nat) (Option.some Jvm.ClassFile.FieldType.int), Jvm.Cond.code ({ cls := "com/example/winnow/winnow/BufferedTextBeginsLineBreakPinLaw", name := "pair", desc := "(ZC)I" } : Jvm.MethodName) method_5_code (2 : Nat) (Option.some Jvm.ClassFile.FieldType.int)]
set_option maxRecDepth 65536 in
theorem codes_eq : words1.filter isCode = codes1 := rfl
theorem w_codes : ∀ c ∈ words1.filter isCode, c.before args0 about1 = true := by
  rw [codes_eq]
  intro c hc
  simp only [codes1, List.mem_cons, List.not_mem_nil, or_false] at hc
  rcases hc with rfl | rfl | rfl | rfl | rfl
  · exact w_c0
  · exact w_c1
  · exact w_c2
  · exact w_c3
  · exact w_c4
set_option maxRecDepth 65536 in
theorem w_t1 : words1.all (fun c => isCode c || c.before args0 about1) = true := by decide +kernel
theorem w_tables : (allAtoms (Jvm.Cond.code x code maxLocals ret :: tables_1)).before args0 about1 = true := by
  rw [allAtoms_all]
  show words1.all (fun c => c.before args0 about1) = true
  refine all_split ?_ w_codes
  rw [w_t1]
set_option maxRecDepth 65536 in
theorem w_case : (Jvm.Cond.and given_1 narrow_1).before args0 about1 = true := by decide +kernel
theorem w_applies : (headSpec (Jvm.Cond.code x code maxLocals ret :: tables_1) room_1).applies x e0.platform about1 = true :=
  (Spec.applies_iff w_frames).mpr ⟨w_running, w_runnable, w_alone, w_named, w_hears, w_ripe, w_room, w_tables⟩
theorem atStart : AtStart classFile x code maxLocals ret World_1 tables_1 room_1 Calls_1 rest_1 Pre_1 launch0 p0 e0 about1 theMethod args0 below0 :=
  ⟨lists_1, trivial, launch0.admits_env _ _ _, launch0.least_env, fairChoices_fair.cas, fairChoices_fair.clock, w_frames, w_args, w_heap, w_applies, trivial, trivial, w_case⟩
end start1
theorem witness_1 : WitnessClaimed_1 := ⟨start1.p0, start1.e0, start1.about1, start1.theMethod, start1.args0, start1.below0, start1.atStart⟩
end Jvm.Pilot.@@N@@
