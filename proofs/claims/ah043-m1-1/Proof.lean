import JvmDerived
import JvmDerived.Pilot.@@N@@Statement
import JvmDerived.Pilot.@@N@@Code
set_option linter.unusedVariables false
set_option linter.unusedSimpArgs false

namespace Jvm.RoadKit
open Sem ClassFile Op Lib Jvm.Stand Jvm.Free Jvm.LawKit
section New
variable {p : Program} {l : Launch} {e : Env} {R : Room} {s : State} {m : MethodId} {args : Array Value} {below : List Frame} {meth : Method} {c : Code} {T : State} {locs : List Loc} {cells slots : Nat}
theorem retI (X : Stand p l e R s m args below meth c T locs cells slots) (hx : p.tables.exec = Jvm.exec) {pc : Nat} {Ls : Array Slot} {z : Int32} {rest : List Value} (hret : meth.sig.returnType = some .int) (hd : decode c.code pc = .ok (.ireturn, 1)) {fs : List Frame}
    (hl : ∀ (f : JFrame) (acts : List Action), f.method = m → f.locked = none → f.entered = [] → (doReturn e (T.setTop f) acts (some (.int z))).1 = T.setFrames fs) : Steps p.tables e below (T.setTop (mkF m pc Ls (.int z :: rest))) (T.setFrames fs) :=
  retOut X hx hret rfl (Or.inl ⟨rfl, Or.inl rfl, z, rfl⟩) hd hl
theorem own_retL (X : Stand p l e R s m args below meth c T locs cells slots) (hx : p.tables.exec = Jvm.exec) {pc : Nat} {Ls : Array Slot} {z : Int64} {rest : List Value} (hret : meth.sig.returnType = some .long) (hd : decode c.code pc = .ok (.lreturn, 1)) {fs : List Frame}
    (hl : ∀ (f : JFrame) (acts : List Action), f.method = m → f.locked = none → f.entered = [] → (doReturn e (T.setTop f) acts (some (.long z))).1 = T.setFrames fs) : Steps p.tables e below (T.setTop (mkF m pc Ls (.long z :: rest))) (T.setFrames fs) :=
  retOut X hx hret rfl (Or.inr (Or.inl ⟨rfl, rfl, z, rfl⟩)) hd hl
theorem own_retA (X : Stand p l e R s m args below meth c T locs cells slots) (hx : p.tables.exec = Jvm.exec) {pc : Nat} {Ls : Array Slot} {w : Value} {t : FieldType} {rest : List Value} (hret : meth.sig.returnType = some t) (ht : t.isReference = true) (hw : w.isRef = true) (hd : decode c.code pc = .ok (.areturn, 1)) {fs : List Frame}
    (hl : ∀ (f : JFrame) (acts : List Action), f.method = m → f.locked = none → f.entered = [] → (doReturn e (T.setTop f) acts (some w)).1 = T.setFrames fs) : Steps p.tables e below (T.setTop (mkF m pc Ls (w :: rest))) (T.setFrames fs) :=
  retOut X hx hret (by cases t <;> first | (cases ht; done) | (cases w <;> first | rfl | cases hw)) (Or.inr (Or.inr (Or.inr (Or.inr ⟨rfl, ht, hw⟩)))) hd hl
theorem own_back {tb : Tables} {e : Env} {below : List Frame} {a b : State} {P : State → Outcome → Prop} (h : ∀ t, Steps tb e below b t → Steps tb e below a t) (k : ∃ t o, Steps tb e below b t ∧ P t o) : ∃ t o, Steps tb e below a t ∧ P t o := by
  obtain ⟨t, o, k1, k2⟩ := k
  exact ⟨t, o, h t k1, k2⟩
theorem own_sta_keep {Z : State} {h h' : Heap} {C n d : String} {v : Value} (F : Sta Z h C n d v) (K : Keep h h' []) : Sta Z h' C n d v := by
  obtain ⟨cf, i, k, f, st, cell, h1, h2, h3, h4, h5, r⟩ := F
  exact ⟨cf, i, k, f, st, cell, h1, h2, h3, h4, K.2.1 _ _ h5 nin0, r⟩
def ElA (Z : State) (h : Heap) (a : Addr) (ty : FieldType) (j : Int32) (v : Value) : Prop := ∃ c : Cell, Arr Z h a c ty ∧ ¬ (j < 0 ∨ c.slots.size ≤ j.toNatClampNeg) ∧ c.slots[j.toNatClampNeg]? = some v
theorem ElA.lt {Z : State} {h : Heap} {a : Addr} {ty : FieldType} {j : Int32} {v : Value} (F : ElA Z h a ty j v) : a < h.size := by obtain ⟨c, A, -⟩ := F; exact A.lt
theorem ElA.ext {Z : State} {h h' : Heap} {a : Addr} {ty : FieldType} {j : Int32} {v : Value} (F : ElA Z h a ty j v) (E : Ext h h') : ElA Z h' a ty j v := by obtain ⟨c, A, r⟩ := F; exact ⟨c, A.ext E, r⟩
theorem ElA.other {Z : State} {h h' : Heap} {a b : Addr} {ty : FieldType} {j : Int32} {v w : Value} {sl : Nat} (F : ElA Z h b ty j v) (W : Wr h h' a sl w) (q : b ≠ a) : ElA Z h' b ty j v := by obtain ⟨c, A, r⟩ := F; exact ⟨c, A.other W q, r⟩
theorem ElA.keep {Z : State} {h h' : Heap} {a : Addr} {ty : FieldType} {j : Int32} {v : Value} {ws : List Addr} (F : ElA Z h a ty j v) (K : Keep h h' ws) (q : a ∉ ws) : ElA Z h' a ty j v := by obtain ⟨c, A, r⟩ := F; exact ⟨c, ⟨K.2.1 a c A.1 q, A.2⟩, r⟩
theorem ElA.store {Z : State} {h h' : Heap} {a : Addr} {ty : FieldType} {j : Int32} {v : Value} {c : Cell} (A : Arr Z h a c ty) (hj : ¬ (j < 0 ∨ c.slots.size ≤ j.toNatClampNeg)) (W : Wr h h' a j.toNatClampNeg v) : ElA Z h' a ty j v :=
  ⟨_, A.same W, by rw [sz_set]; exact hj, get_hit hj rfl⟩
theorem own_irr (x : Int32) : ¬ x < x := by rw [Int32.lt_iff_toInt_lt]; omega
theorem own_irrL (x : Int64) : ¬ x < x := by rw [Int64.lt_iff_toInt_lt]; omega
end New
end Jvm.RoadKit
namespace Jvm.Pilot.@@N@@
open Jvm Jvm.ClassFile Sem Op Lib Jvm.Free Jvm.Stand Jvm.LawKit Jvm.RoadKit Bundle Jvm.Pilot.@@N@@.Jvm.D

theorem d1_0 : decode prog_8_method_11_code 0 = .ok (.iload_n 0, 1) := by decide +kernel
theorem d1_1 : decode prog_8_method_11_code 1 = .ok (.bipush 32, 2) := by decide +kernel
theorem d1_3 : decode prog_8_method_11_code 3 = .ok (.if_icmp .eq 15, 3) := by decide +kernel
theorem d1_6 : decode prog_8_method_11_code 6 = .ok (.iload_n 0, 1) := by decide +kernel
theorem d1_7 : decode prog_8_method_11_code 7 = .ok (.bipush 9, 2) := by decide +kernel
theorem d1_9 : decode prog_8_method_11_code 9 = .ok (.if_icmp .lt 13, 3) := by decide +kernel
theorem d1_12 : decode prog_8_method_11_code 12 = .ok (.iload_n 0, 1) := by decide +kernel
theorem d1_13 : decode prog_8_method_11_code 13 = .ok (.bipush 13, 2) := by decide +kernel
theorem d1_15 : decode prog_8_method_11_code 15 = .ok (.if_icmp .gt 7, 3) := by decide +kernel
theorem d1_18 : decode prog_8_method_11_code 18 = .ok (.iconst 1, 1) := by decide +kernel
theorem d1_19 : decode prog_8_method_11_code 19 = .ok (.goto 4, 3) := by decide +kernel
theorem d1_22 : decode prog_8_method_11_code 22 = .ok (.iconst 0, 1) := by decide +kernel
theorem d1_23 : decode prog_8_method_11_code 23 = .ok (.ireturn, 1) := by decide +kernel
theorem pn_1 : plainName "com/example/twinrail/twinrail/Dictionary" = true := by first | (simp [plainName, overriddenIn]; done) | decide +kernel
theorem ef_1 (m : MethodId) (x0 : Int32) : entryFrame m #[(.int x0)] 1 = mkF m 0 #[.val (.int x0)] [] := by first | (simp [entryFrame, mkF, argsToLocals, Value.category]; done) | rfl
def f1 (p0 : Int32) : Int32 := (if p0 = (32 : Int32) then (1 : Int32) else (if p0 < (9 : Int32) then (0 : Int32) else (if (13 : Int32) < p0 then (0 : Int32) else (1 : Int32))))
def Q1 (Z : State) (p0 : Int32) (h0 : Heap) (n0 : Nat) (v : Option Value) (h : Heap) (L : List Loc) : Prop := v = some (.int (f1 p0)) ∧ Fr n0 L ∧ h = h0
set_option maxRecDepth 65536 in
set_option maxHeartbeats 40000000 in
theorem rm1 (l : Launch) (Z : State) (a0 : Array Value) (hw : ∀ d ∈ tables_1, d.before a0 Z = true) (ws : List Jvm.Cond) (p0 : Int32) (h0 : Heap) (n0 : Nat) (Z0 : n0 ≤ h0.size) :
    MetFree l (⟨"com/example/twinrail/twinrail/Dictionary", "isSeparator", "(I)Z"⟩ : MethodName) (head1 (Jvm.Cond.code (⟨"com/example/twinrail/twinrail/Dictionary", "isSeparator", "(I)Z"⟩ : MethodName) prog_8_method_11_code 1 (some .boolean) :: ws) ({ frames := 0, cells := 0, slots := 0, locals := 0 } : Room)) (fun a U => a = #[(.int p0)] ∧ Z.Warmed39 U.vm ∧ U.heap = h0) (fun _ _ _ _ _ => True) (fun _ U o U' => ∃ v L, o = .returned v ∧ Q1 Z p0 h0 n0 v U'.heap L ∧ FrameEnd U o U' L ({ frames := 0, cells := 0, slots := 0, locals := 0 } : Room).cells ({ frames := 0, cells := 0, slots := 0, locals := 0 } : Room).slots) := by
  refine MetFree.of_bodySF (plainFor_of_name pn_1) hisR ?_
  intro p e s m args below meth c s₁ Bd hml0 hP hK
  obtain ⟨rfl, hZ, hh⟩ := hP
  have hx := Bd.exec
  have hby := Bd.bytes
  have hml : c.maxLocals = 1 := hml0
  have hown : s.vm.findClass "com/example/twinrail/twinrail/Dictionary" = some m.cls := findClass_of_methodNamed Bd.named
  have hnm := (name_of_methodNamed Bd.named Bd.method).1
  have X0 : Stand p l e ({ frames := 0, cells := 0, slots := 0, locals := 0 } : Room) s m #[(.int p0)] below meth c s₁ [] 0 0 := Stand.of_body Bd
  have e0 : s₁.heap = h0 := by rw [← hh, Bd.state]; rfl
  have N0 := Fr.nil n0
  refine own_back (b := s₁.setTop (mkF m 0 #[.val (.int p0)] [])) (fun t kt => castTop (ef_1 m p0) kt) ?_
  refine own_back (b := s₁.setTop (mkF m 3 #[.val (.int p0)] [(.int (32 : Int32)), (.int p0)])) (fun t kt => ?_) ?_
  · show Steps p.tables e below (s₁.setTop (mkF m 0 #[.val (.int p0)] [])) _
    refine XS.iloadN X0.here hx rfl (hb hby d1_0) rfl ?_
    show Steps p.tables e below (s₁.setTop (mkF m 1 #[.val (.int p0)] [(.int p0)])) _
    refine XS.bipush X0.here hx rfl (hb hby d1_1) ?_
    exact kt
  by_cases hc3_1 : p0 = (32 : Int32)
  · refine own_back (b := s₁.setTop (mkF m 23 #[.val (.int p0)] [(.int (1 : Int32))])) (fun t kt => ?_) ?_
    · show Steps p.tables e below (s₁.setTop (mkF m 3 #[.val (.int p0)] [(.int (32 : Int32)), (.int p0)])) _
      refine XS.icmpYes X0.here hx rfl (pc0 := 3) (pc' := 18) rfl (hb hby d1_3) rfl (teq hc3_1).1 (by decide) (by decide) ?_
      show Steps p.tables e below (s₁.setTop (mkF m 18 #[.val (.int p0)] [])) _
      refine XS.iconst X0.here hx rfl (hb hby d1_18) ?_
      show Steps p.tables e below (s₁.setTop (mkF m 19 #[.val (.int p0)] [(.int (1 : Int32))])) _
      refine XS.goto X0.here hx rfl (pc0 := 19) (pc' := 23) rfl (hb hby d1_19) (by decide) (by decide) ?_
      exact kt
    obtain ⟨fs, hr, hrun, hended, hW, hsame⟩ := X0.leave (v := some (.int (1 : Int32))) (fun h => by rw [Bd.returns] at h; cases h)
    refine ⟨_, _, ?_, hrun, hended, _, _, rfl, ?_, ⟨_, rfl⟩, hW, hsame.mono (by decide) (by decide)⟩
    · show Steps p.tables e below (s₁.setTop (mkF m 23 #[.val (.int p0)] [(.int (1 : Int32))])) _
      exact retN X0 hx (t := .boolean) Bd.returns (by simp) (hb hby d1_23) hr
    · show Q1 Z p0 h0 n0 _ s₁.heap _
      rw [e0]
      exact ⟨by rw [show f1 p0 = (1 : Int32) from by unfold f1; rw [if_pos hc3_1]], N0, rfl⟩
  · refine own_back (b := s₁.setTop (mkF m 9 #[.val (.int p0)] [(.int (9 : Int32)), (.int p0)])) (fun t kt => ?_) ?_
    · show Steps p.tables e below (s₁.setTop (mkF m 3 #[.val (.int p0)] [(.int (32 : Int32)), (.int p0)])) _
      refine XS.icmpNo X0.here hx rfl (hb hby d1_3) rfl (feq hc3_1).1 ?_
      show Steps p.tables e below (s₁.setTop (mkF m 6 #[.val (.int p0)] [])) _
      refine XS.iloadN X0.here hx rfl (hb hby d1_6) rfl ?_
      show Steps p.tables e below (s₁.setTop (mkF m 7 #[.val (.int p0)] [(.int p0)])) _
      refine XS.bipush X0.here hx rfl (hb hby d1_7) ?_
      exact kt
    by_cases hc9_2 : p0 < (9 : Int32)
    · refine own_back (b := s₁.setTop (mkF m 23 #[.val (.int p0)] [(.int (0 : Int32))])) (fun t kt => ?_) ?_
      · show Steps p.tables e below (s₁.setTop (mkF m 9 #[.val (.int p0)] [(.int (9 : Int32)), (.int p0)])) _
        refine XS.icmpYes X0.here hx rfl (pc0 := 9) (pc' := 22) rfl (hb hby d1_9) rfl (tlt hc9_2).1 (by decide) (by decide) ?_
        show Steps p.tables e below (s₁.setTop (mkF m 22 #[.val (.int p0)] [])) _
        refine XS.iconst X0.here hx rfl (hb hby d1_22) ?_
        exact kt
      obtain ⟨fs, hr, hrun, hended, hW, hsame⟩ := X0.leave (v := some (.int (0 : Int32))) (fun h => by rw [Bd.returns] at h; cases h)
      refine ⟨_, _, ?_, hrun, hended, _, _, rfl, ?_, ⟨_, rfl⟩, hW, hsame.mono (by decide) (by decide)⟩
      · show Steps p.tables e below (s₁.setTop (mkF m 23 #[.val (.int p0)] [(.int (0 : Int32))])) _
        exact retN X0 hx (t := .boolean) Bd.returns (by simp) (hb hby d1_23) hr
      · show Q1 Z p0 h0 n0 _ s₁.heap _
        rw [e0]
        exact ⟨by rw [show f1 p0 = (0 : Int32) from by unfold f1; rw [if_neg hc3_1, if_pos hc9_2]], N0, rfl⟩
    · refine own_back (b := s₁.setTop (mkF m 15 #[.val (.int p0)] [(.int (13 : Int32)), (.int p0)])) (fun t kt => ?_) ?_
      · show Steps p.tables e below (s₁.setTop (mkF m 9 #[.val (.int p0)] [(.int (9 : Int32)), (.int p0)])) _
        refine XS.icmpNo X0.here hx rfl (hb hby d1_9) rfl (flt hc9_2).1 ?_
        show Steps p.tables e below (s₁.setTop (mkF m 12 #[.val (.int p0)] [])) _
        refine XS.iloadN X0.here hx rfl (hb hby d1_12) rfl ?_
        show Steps p.tables e below (s₁.setTop (mkF m 13 #[.val (.int p0)] [(.int p0)])) _
        refine XS.bipush X0.here hx rfl (hb hby d1_13) ?_
        exact kt
      by_cases hc15_3 : (13 : Int32) < p0
      · refine own_back (b := s₁.setTop (mkF m 23 #[.val (.int p0)] [(.int (0 : Int32))])) (fun t kt => ?_) ?_
        · show Steps p.tables e below (s₁.setTop (mkF m 15 #[.val (.int p0)] [(.int (13 : Int32)), (.int p0)])) _
          refine XS.icmpYes X0.here hx rfl (pc0 := 15) (pc' := 22) rfl (hb hby d1_15) rfl (tlt hc15_3).2.2.1 (by decide) (by decide) ?_
          show Steps p.tables e below (s₁.setTop (mkF m 22 #[.val (.int p0)] [])) _
          refine XS.iconst X0.here hx rfl (hb hby d1_22) ?_
          exact kt
        obtain ⟨fs, hr, hrun, hended, hW, hsame⟩ := X0.leave (v := some (.int (0 : Int32))) (fun h => by rw [Bd.returns] at h; cases h)
        refine ⟨_, _, ?_, hrun, hended, _, _, rfl, ?_, ⟨_, rfl⟩, hW, hsame.mono (by decide) (by decide)⟩
        · show Steps p.tables e below (s₁.setTop (mkF m 23 #[.val (.int p0)] [(.int (0 : Int32))])) _
          exact retN X0 hx (t := .boolean) Bd.returns (by simp) (hb hby d1_23) hr
        · show Q1 Z p0 h0 n0 _ s₁.heap _
          rw [e0]
          exact ⟨by rw [show f1 p0 = (0 : Int32) from by unfold f1; rw [if_neg hc3_1, if_neg hc9_2, if_pos hc15_3]], N0, rfl⟩
      · refine own_back (b := s₁.setTop (mkF m 23 #[.val (.int p0)] [(.int (1 : Int32))])) (fun t kt => ?_) ?_
        · show Steps p.tables e below (s₁.setTop (mkF m 15 #[.val (.int p0)] [(.int (13 : Int32)), (.int p0)])) _
          refine XS.icmpNo X0.here hx rfl (hb hby d1_15) rfl (flt hc15_3).2.2.1 ?_
          show Steps p.tables e below (s₁.setTop (mkF m 18 #[.val (.int p0)] [])) _
          refine XS.iconst X0.here hx rfl (hb hby d1_18) ?_
          show Steps p.tables e below (s₁.setTop (mkF m 19 #[.val (.int p0)] [(.int (1 : Int32))])) _
          refine XS.goto X0.here hx rfl (pc0 := 19) (pc' := 23) rfl (hb hby d1_19) (by decide) (by decide) ?_
          exact kt
        obtain ⟨fs, hr, hrun, hended, hW, hsame⟩ := X0.leave (v := some (.int (1 : Int32))) (fun h => by rw [Bd.returns] at h; cases h)
        refine ⟨_, _, ?_, hrun, hended, _, _, rfl, ?_, ⟨_, rfl⟩, hW, hsame.mono (by decide) (by decide)⟩
        · show Steps p.tables e below (s₁.setTop (mkF m 23 #[.val (.int p0)] [(.int (1 : Int32))])) _
          exact retN X0 hx (t := .boolean) Bd.returns (by simp) (hb hby d1_23) hr
        · show Q1 Z p0 h0 n0 _ s₁.heap _
          rw [e0]
          exact ⟨by rw [show f1 p0 = (1 : Int32) from by unfold f1; rw [if_neg hc3_1, if_neg hc9_2, if_neg hc15_3]], N0, rfl⟩
theorem d2_0 : decode method_2_code 0 = .ok (.iload_n 0, 1) := by decide +kernel
theorem d2_1 : decode method_2_code 1 = .ok (.bipush 32, 2) := by decide +kernel
theorem d2_3 : decode method_2_code 3 = .ok (.if_icmp .ne 5, 3) := by decide +kernel
theorem d2_6 : decode method_2_code 6 = .ok (.iconst 1, 1) := by decide +kernel
theorem d2_7 : decode method_2_code 7 = .ok (.ireturn, 1) := by decide +kernel
theorem d2_8 : decode method_2_code 8 = .ok (.iload_n 0, 1) := by decide +kernel
theorem d2_9 : decode method_2_code 9 = .ok (.bipush 9, 2) := by decide +kernel
theorem d2_11 : decode method_2_code 11 = .ok (.if_icmp .ne 5, 3) := by decide +kernel
theorem d2_14 : decode method_2_code 14 = .ok (.iconst 1, 1) := by decide +kernel
theorem d2_15 : decode method_2_code 15 = .ok (.ireturn, 1) := by decide +kernel
theorem d2_16 : decode method_2_code 16 = .ok (.iload_n 0, 1) := by decide +kernel
theorem d2_17 : decode method_2_code 17 = .ok (.bipush 10, 2) := by decide +kernel
theorem d2_19 : decode method_2_code 19 = .ok (.if_icmp .ne 5, 3) := by decide +kernel
theorem d2_22 : decode method_2_code 22 = .ok (.iconst 1, 1) := by decide +kernel
theorem d2_23 : decode method_2_code 23 = .ok (.ireturn, 1) := by decide +kernel
theorem d2_24 : decode method_2_code 24 = .ok (.iload_n 0, 1) := by decide +kernel
theorem d2_25 : decode method_2_code 25 = .ok (.bipush 11, 2) := by decide +kernel
theorem d2_27 : decode method_2_code 27 = .ok (.if_icmp .ne 5, 3) := by decide +kernel
theorem d2_30 : decode method_2_code 30 = .ok (.iconst 1, 1) := by decide +kernel
theorem d2_31 : decode method_2_code 31 = .ok (.ireturn, 1) := by decide +kernel
theorem d2_32 : decode method_2_code 32 = .ok (.iload_n 0, 1) := by decide +kernel
theorem d2_33 : decode method_2_code 33 = .ok (.bipush 12, 2) := by decide +kernel
theorem d2_35 : decode method_2_code 35 = .ok (.if_icmp .ne 5, 3) := by decide +kernel
theorem d2_38 : decode method_2_code 38 = .ok (.iconst 1, 1) := by decide +kernel
theorem d2_39 : decode method_2_code 39 = .ok (.ireturn, 1) := by decide +kernel
theorem d2_40 : decode method_2_code 40 = .ok (.iload_n 0, 1) := by decide +kernel
theorem d2_41 : decode method_2_code 41 = .ok (.bipush 13, 2) := by decide +kernel
theorem d2_43 : decode method_2_code 43 = .ok (.if_icmp .ne 5, 3) := by decide +kernel
theorem d2_46 : decode method_2_code 46 = .ok (.iconst 1, 1) := by decide +kernel
theorem d2_47 : decode method_2_code 47 = .ok (.ireturn, 1) := by decide +kernel
theorem d2_48 : decode method_2_code 48 = .ok (.iconst 0, 1) := by decide +kernel
theorem d2_49 : decode method_2_code 49 = .ok (.ireturn, 1) := by decide +kernel
theorem pn_2 : plainName "com/example/twinrail/twinrail/DictionaryIsSeparatorPinLaw" = true := by first | (simp [plainName, overriddenIn]; done) | decide +kernel
theorem ef_2 (m : MethodId) (x0 : Int32) : entryFrame m #[(.int x0)] 1 = mkF m 0 #[.val (.int x0)] [] := by first | (simp [entryFrame, mkF, argsToLocals, Value.category]; done) | rfl
def f2 (p0 : Int32) : Int32 := (if p0 = (32 : Int32) then (1 : Int32) else (if p0 = (9 : Int32) then (1 : Int32) else (if p0 = (10 : Int32) then (1 : Int32) else (if p0 = (11 : Int32) then (1 : Int32) else (if p0 = (12 : Int32) then (1 : Int32) else (if p0 = (13 : Int32) then (1 : Int32) else (0 : Int32)))))))
def Q2 (Z : State) (p0 : Int32) (h0 : Heap) (n0 : Nat) (v : Option Value) (h : Heap) (L : List Loc) : Prop := v = some (.int (f2 p0)) ∧ Fr n0 L ∧ h = h0
set_option maxRecDepth 65536 in
set_option maxHeartbeats 40000000 in
theorem rm2 (l : Launch) (Z : State) (a0 : Array Value) (hw : ∀ d ∈ tables_1, d.before a0 Z = true) (ws : List Jvm.Cond) (p0 : Int32) (h0 : Heap) (n0 : Nat) (Z0 : n0 ≤ h0.size) :
    MetFree l (⟨"com/example/twinrail/twinrail/DictionaryIsSeparatorPinLaw", "isAsciiWhitespace", "(I)Z"⟩ : MethodName) (head1 (Jvm.Cond.code (⟨"com/example/twinrail/twinrail/DictionaryIsSeparatorPinLaw", "isAsciiWhitespace", "(I)Z"⟩ : MethodName) method_2_code 1 (some .boolean) :: ws) ({ frames := 0, cells := 0, slots := 0, locals := 0 } : Room)) (fun a U => a = #[(.int p0)] ∧ Z.Warmed39 U.vm ∧ U.heap = h0) (fun _ _ _ _ _ => True) (fun _ U o U' => ∃ v L, o = .returned v ∧ Q2 Z p0 h0 n0 v U'.heap L ∧ FrameEnd U o U' L ({ frames := 0, cells := 0, slots := 0, locals := 0 } : Room).cells ({ frames := 0, cells := 0, slots := 0, locals := 0 } : Room).slots) := by
  refine MetFree.of_bodySF (plainFor_of_name pn_2) hisR ?_
  intro p e s m args below meth c s₁ Bd hml0 hP hK
  obtain ⟨rfl, hZ, hh⟩ := hP
  have hx := Bd.exec
  have hby := Bd.bytes
  have hml : c.maxLocals = 1 := hml0
  have hown : s.vm.findClass "com/example/twinrail/twinrail/DictionaryIsSeparatorPinLaw" = some m.cls := findClass_of_methodNamed Bd.named
  have hnm := (name_of_methodNamed Bd.named Bd.method).1
  have X0 : Stand p l e ({ frames := 0, cells := 0, slots := 0, locals := 0 } : Room) s m #[(.int p0)] below meth c s₁ [] 0 0 := Stand.of_body Bd
  have e0 : s₁.heap = h0 := by rw [← hh, Bd.state]; rfl
  have N0 := Fr.nil n0
  refine own_back (b := s₁.setTop (mkF m 0 #[.val (.int p0)] [])) (fun t kt => castTop (ef_2 m p0) kt) ?_
  refine own_back (b := s₁.setTop (mkF m 3 #[.val (.int p0)] [(.int (32 : Int32)), (.int p0)])) (fun t kt => ?_) ?_
  · show Steps p.tables e below (s₁.setTop (mkF m 0 #[.val (.int p0)] [])) _
    refine XS.iloadN X0.here hx rfl (hb hby d2_0) rfl ?_
    show Steps p.tables e below (s₁.setTop (mkF m 1 #[.val (.int p0)] [(.int p0)])) _
    refine XS.bipush X0.here hx rfl (hb hby d2_1) ?_
    exact kt
  by_cases hc3_1 : p0 = (32 : Int32)
  · refine own_back (b := s₁.setTop (mkF m 7 #[.val (.int p0)] [(.int (1 : Int32))])) (fun t kt => ?_) ?_
    · show Steps p.tables e below (s₁.setTop (mkF m 3 #[.val (.int p0)] [(.int (32 : Int32)), (.int p0)])) _
      refine XS.icmpNo X0.here hx rfl (hb hby d2_3) rfl (teq hc3_1).2 ?_
      show Steps p.tables e below (s₁.setTop (mkF m 6 #[.val (.int p0)] [])) _
      refine XS.iconst X0.here hx rfl (hb hby d2_6) ?_
      exact kt
    obtain ⟨fs, hr, hrun, hended, hW, hsame⟩ := X0.leave (v := some (.int (1 : Int32))) (fun h => by rw [Bd.returns] at h; cases h)
    refine ⟨_, _, ?_, hrun, hended, _, _, rfl, ?_, ⟨_, rfl⟩, hW, hsame.mono (by decide) (by decide)⟩
    · show Steps p.tables e below (s₁.setTop (mkF m 7 #[.val (.int p0)] [(.int (1 : Int32))])) _
      exact retN X0 hx (t := .boolean) Bd.returns (by simp) (hb hby d2_7) hr
    · show Q2 Z p0 h0 n0 _ s₁.heap _
      rw [e0]
      exact ⟨by rw [show f2 p0 = (1 : Int32) from by unfold f2; rw [if_pos hc3_1]], N0, rfl⟩
  · refine own_back (b := s₁.setTop (mkF m 11 #[.val (.int p0)] [(.int (9 : Int32)), (.int p0)])) (fun t kt => ?_) ?_
    · show Steps p.tables e below (s₁.setTop (mkF m 3 #[.val (.int p0)] [(.int (32 : Int32)), (.int p0)])) _
      refine XS.icmpYes X0.here hx rfl (pc0 := 3) (pc' := 8) rfl (hb hby d2_3) rfl (feq hc3_1).2 (by decide) (by decide) ?_
      show Steps p.tables e below (s₁.setTop (mkF m 8 #[.val (.int p0)] [])) _
      refine XS.iloadN X0.here hx rfl (hb hby d2_8) rfl ?_
      show Steps p.tables e below (s₁.setTop (mkF m 9 #[.val (.int p0)] [(.int p0)])) _
      refine XS.bipush X0.here hx rfl (hb hby d2_9) ?_
      exact kt
    by_cases hc11_2 : p0 = (9 : Int32)
    · refine own_back (b := s₁.setTop (mkF m 15 #[.val (.int p0)] [(.int (1 : Int32))])) (fun t kt => ?_) ?_
      · show Steps p.tables e below (s₁.setTop (mkF m 11 #[.val (.int p0)] [(.int (9 : Int32)), (.int p0)])) _
        refine XS.icmpNo X0.here hx rfl (hb hby d2_11) rfl (teq hc11_2).2 ?_
        show Steps p.tables e below (s₁.setTop (mkF m 14 #[.val (.int p0)] [])) _
        refine XS.iconst X0.here hx rfl (hb hby d2_14) ?_
        exact kt
      obtain ⟨fs, hr, hrun, hended, hW, hsame⟩ := X0.leave (v := some (.int (1 : Int32))) (fun h => by rw [Bd.returns] at h; cases h)
      refine ⟨_, _, ?_, hrun, hended, _, _, rfl, ?_, ⟨_, rfl⟩, hW, hsame.mono (by decide) (by decide)⟩
      · show Steps p.tables e below (s₁.setTop (mkF m 15 #[.val (.int p0)] [(.int (1 : Int32))])) _
        exact retN X0 hx (t := .boolean) Bd.returns (by simp) (hb hby d2_15) hr
      · show Q2 Z p0 h0 n0 _ s₁.heap _
        rw [e0]
        exact ⟨by rw [show f2 p0 = (1 : Int32) from by unfold f2; rw [if_neg hc3_1, if_pos hc11_2]], N0, rfl⟩
    · refine own_back (b := s₁.setTop (mkF m 19 #[.val (.int p0)] [(.int (10 : Int32)), (.int p0)])) (fun t kt => ?_) ?_
      · show Steps p.tables e below (s₁.setTop (mkF m 11 #[.val (.int p0)] [(.int (9 : Int32)), (.int p0)])) _
        refine XS.icmpYes X0.here hx rfl (pc0 := 11) (pc' := 16) rfl (hb hby d2_11) rfl (feq hc11_2).2 (by decide) (by decide) ?_
        show Steps p.tables e below (s₁.setTop (mkF m 16 #[.val (.int p0)] [])) _
        refine XS.iloadN X0.here hx rfl (hb hby d2_16) rfl ?_
        show Steps p.tables e below (s₁.setTop (mkF m 17 #[.val (.int p0)] [(.int p0)])) _
        refine XS.bipush X0.here hx rfl (hb hby d2_17) ?_
        exact kt
      by_cases hc19_3 : p0 = (10 : Int32)
      · refine own_back (b := s₁.setTop (mkF m 23 #[.val (.int p0)] [(.int (1 : Int32))])) (fun t kt => ?_) ?_
        · show Steps p.tables e below (s₁.setTop (mkF m 19 #[.val (.int p0)] [(.int (10 : Int32)), (.int p0)])) _
          refine XS.icmpNo X0.here hx rfl (hb hby d2_19) rfl (teq hc19_3).2 ?_
          show Steps p.tables e below (s₁.setTop (mkF m 22 #[.val (.int p0)] [])) _
          refine XS.iconst X0.here hx rfl (hb hby d2_22) ?_
          exact kt
        obtain ⟨fs, hr, hrun, hended, hW, hsame⟩ := X0.leave (v := some (.int (1 : Int32))) (fun h => by rw [Bd.returns] at h; cases h)
        refine ⟨_, _, ?_, hrun, hended, _, _, rfl, ?_, ⟨_, rfl⟩, hW, hsame.mono (by decide) (by decide)⟩
        · show Steps p.tables e below (s₁.setTop (mkF m 23 #[.val (.int p0)] [(.int (1 : Int32))])) _
          exact retN X0 hx (t := .boolean) Bd.returns (by simp) (hb hby d2_23) hr
        · show Q2 Z p0 h0 n0 _ s₁.heap _
          rw [e0]
          exact ⟨by rw [show f2 p0 = (1 : Int32) from by unfold f2; rw [if_neg hc3_1, if_neg hc11_2, if_pos hc19_3]], N0, rfl⟩
      · refine own_back (b := s₁.setTop (mkF m 27 #[.val (.int p0)] [(.int (11 : Int32)), (.int p0)])) (fun t kt => ?_) ?_
        · show Steps p.tables e below (s₁.setTop (mkF m 19 #[.val (.int p0)] [(.int (10 : Int32)), (.int p0)])) _
          refine XS.icmpYes X0.here hx rfl (pc0 := 19) (pc' := 24) rfl (hb hby d2_19) rfl (feq hc19_3).2 (by decide) (by decide) ?_
          show Steps p.tables e below (s₁.setTop (mkF m 24 #[.val (.int p0)] [])) _
          refine XS.iloadN X0.here hx rfl (hb hby d2_24) rfl ?_
          show Steps p.tables e below (s₁.setTop (mkF m 25 #[.val (.int p0)] [(.int p0)])) _
          refine XS.bipush X0.here hx rfl (hb hby d2_25) ?_
          exact kt
        by_cases hc27_4 : p0 = (11 : Int32)
        · refine own_back (b := s₁.setTop (mkF m 31 #[.val (.int p0)] [(.int (1 : Int32))])) (fun t kt => ?_) ?_
          · show Steps p.tables e below (s₁.setTop (mkF m 27 #[.val (.int p0)] [(.int (11 : Int32)), (.int p0)])) _
            refine XS.icmpNo X0.here hx rfl (hb hby d2_27) rfl (teq hc27_4).2 ?_
            show Steps p.tables e below (s₁.setTop (mkF m 30 #[.val (.int p0)] [])) _
            refine XS.iconst X0.here hx rfl (hb hby d2_30) ?_
            exact kt
          obtain ⟨fs, hr, hrun, hended, hW, hsame⟩ := X0.leave (v := some (.int (1 : Int32))) (fun h => by rw [Bd.returns] at h; cases h)
          refine ⟨_, _, ?_, hrun, hended, _, _, rfl, ?_, ⟨_, rfl⟩, hW, hsame.mono (by decide) (by decide)⟩
          · show Steps p.tables e below (s₁.setTop (mkF m 31 #[.val (.int p0)] [(.int (1 : Int32))])) _
            exact retN X0 hx (t := .boolean) Bd.returns (by simp) (hb hby d2_31) hr
          · show Q2 Z p0 h0 n0 _ s₁.heap _
            rw [e0]
            exact ⟨by rw [show f2 p0 = (1 : Int32) from by unfold f2; rw [if_neg hc3_1, if_neg hc11_2, if_neg hc19_3, if_pos hc27_4]], N0, rfl⟩
        · refine own_back (b := s₁.setTop (mkF m 35 #[.val (.int p0)] [(.int (12 : Int32)), (.int p0)])) (fun t kt => ?_) ?_
          · show Steps p.tables e below (s₁.setTop (mkF m 27 #[.val (.int p0)] [(.int (11 : Int32)), (.int p0)])) _
            refine XS.icmpYes X0.here hx rfl (pc0 := 27) (pc' := 32) rfl (hb hby d2_27) rfl (feq hc27_4).2 (by decide) (by decide) ?_
            show Steps p.tables e below (s₁.setTop (mkF m 32 #[.val (.int p0)] [])) _
            refine XS.iloadN X0.here hx rfl (hb hby d2_32) rfl ?_
            show Steps p.tables e below (s₁.setTop (mkF m 33 #[.val (.int p0)] [(.int p0)])) _
            refine XS.bipush X0.here hx rfl (hb hby d2_33) ?_
            exact kt
          by_cases hc35_5 : p0 = (12 : Int32)
          · refine own_back (b := s₁.setTop (mkF m 39 #[.val (.int p0)] [(.int (1 : Int32))])) (fun t kt => ?_) ?_
            · show Steps p.tables e below (s₁.setTop (mkF m 35 #[.val (.int p0)] [(.int (12 : Int32)), (.int p0)])) _
              refine XS.icmpNo X0.here hx rfl (hb hby d2_35) rfl (teq hc35_5).2 ?_
              show Steps p.tables e below (s₁.setTop (mkF m 38 #[.val (.int p0)] [])) _
              refine XS.iconst X0.here hx rfl (hb hby d2_38) ?_
              exact kt
            obtain ⟨fs, hr, hrun, hended, hW, hsame⟩ := X0.leave (v := some (.int (1 : Int32))) (fun h => by rw [Bd.returns] at h; cases h)
            refine ⟨_, _, ?_, hrun, hended, _, _, rfl, ?_, ⟨_, rfl⟩, hW, hsame.mono (by decide) (by decide)⟩
            · show Steps p.tables e below (s₁.setTop (mkF m 39 #[.val (.int p0)] [(.int (1 : Int32))])) _
              exact retN X0 hx (t := .boolean) Bd.returns (by simp) (hb hby d2_39) hr
            · show Q2 Z p0 h0 n0 _ s₁.heap _
              rw [e0]
              exact ⟨by rw [show f2 p0 = (1 : Int32) from by unfold f2; rw [if_neg hc3_1, if_neg hc11_2, if_neg hc19_3, if_neg hc27_4, if_pos hc35_5]], N0, rfl⟩
          · refine own_back (b := s₁.setTop (mkF m 43 #[.val (.int p0)] [(.int (13 : Int32)), (.int p0)])) (fun t kt => ?_) ?_
            · show Steps p.tables e below (s₁.setTop (mkF m 35 #[.val (.int p0)] [(.int (12 : Int32)), (.int p0)])) _
              refine XS.icmpYes X0.here hx rfl (pc0 := 35) (pc' := 40) rfl (hb hby d2_35) rfl (feq hc35_5).2 (by decide) (by decide) ?_
              show Steps p.tables e below (s₁.setTop (mkF m 40 #[.val (.int p0)] [])) _
              refine XS.iloadN X0.here hx rfl (hb hby d2_40) rfl ?_
              show Steps p.tables e below (s₁.setTop (mkF m 41 #[.val (.int p0)] [(.int p0)])) _
              refine XS.bipush X0.here hx rfl (hb hby d2_41) ?_
              exact kt
            by_cases hc43_6 : p0 = (13 : Int32)
            · refine own_back (b := s₁.setTop (mkF m 47 #[.val (.int p0)] [(.int (1 : Int32))])) (fun t kt => ?_) ?_
              · show Steps p.tables e below (s₁.setTop (mkF m 43 #[.val (.int p0)] [(.int (13 : Int32)), (.int p0)])) _
                refine XS.icmpNo X0.here hx rfl (hb hby d2_43) rfl (teq hc43_6).2 ?_
                show Steps p.tables e below (s₁.setTop (mkF m 46 #[.val (.int p0)] [])) _
                refine XS.iconst X0.here hx rfl (hb hby d2_46) ?_
                exact kt
              obtain ⟨fs, hr, hrun, hended, hW, hsame⟩ := X0.leave (v := some (.int (1 : Int32))) (fun h => by rw [Bd.returns] at h; cases h)
              refine ⟨_, _, ?_, hrun, hended, _, _, rfl, ?_, ⟨_, rfl⟩, hW, hsame.mono (by decide) (by decide)⟩
              · show Steps p.tables e below (s₁.setTop (mkF m 47 #[.val (.int p0)] [(.int (1 : Int32))])) _
                exact retN X0 hx (t := .boolean) Bd.returns (by simp) (hb hby d2_47) hr
              · show Q2 Z p0 h0 n0 _ s₁.heap _
                rw [e0]
                exact ⟨by rw [show f2 p0 = (1 : Int32) from by unfold f2; rw [if_neg hc3_1, if_neg hc11_2, if_neg hc19_3, if_neg hc27_4, if_neg hc35_5, if_pos hc43_6]], N0, rfl⟩
            · refine own_back (b := s₁.setTop (mkF m 49 #[.val (.int p0)] [(.int (0 : Int32))])) (fun t kt => ?_) ?_
              · show Steps p.tables e below (s₁.setTop (mkF m 43 #[.val (.int p0)] [(.int (13 : Int32)), (.int p0)])) _
                refine XS.icmpYes X0.here hx rfl (pc0 := 43) (pc' := 48) rfl (hb hby d2_43) rfl (feq hc43_6).2 (by decide) (by decide) ?_
                show Steps p.tables e below (s₁.setTop (mkF m 48 #[.val (.int p0)] [])) _
                refine XS.iconst X0.here hx rfl (hb hby d2_48) ?_
                exact kt
              obtain ⟨fs, hr, hrun, hended, hW, hsame⟩ := X0.leave (v := some (.int (0 : Int32))) (fun h => by rw [Bd.returns] at h; cases h)
              refine ⟨_, _, ?_, hrun, hended, _, _, rfl, ?_, ⟨_, rfl⟩, hW, hsame.mono (by decide) (by decide)⟩
              · show Steps p.tables e below (s₁.setTop (mkF m 49 #[.val (.int p0)] [(.int (0 : Int32))])) _
                exact retN X0 hx (t := .boolean) Bd.returns (by simp) (hb hby d2_49) hr
              · show Q2 Z p0 h0 n0 _ s₁.heap _
                rw [e0]
                exact ⟨by rw [show f2 p0 = (0 : Int32) from by unfold f2; rw [if_neg hc3_1, if_neg hc11_2, if_neg hc19_3, if_neg hc27_4, if_neg hc35_5, if_neg hc43_6]], N0, rfl⟩
theorem pn_0 : plainName "com/example/twinrail/twinrail/DictionaryIsSeparatorPinLaw" = true := by first | (simp [plainName, overriddenIn]; done) | decide +kernel
theorem pd_0_0 : parseMethodDescriptor "(I)Z" = some ⟨[.int], some .boolean⟩ := by decide +kernel
theorem ef_0 (m : MethodId) (x0 : Int32) (x1 : Int32) : entryFrame m #[(.int x0), (.int x1)] maxLocals = mkF m 0 #[.val (.int x0), .val (.int x1), .unset, .unset, .unset, .unset] [] := by first | (simp [entryFrame, mkF, argsToLocals, Value.category, maxLocals]; done) | rfl
def m0_0 (p0 : Int32) (p1 : Int32) : Int32 := (if (f1 p0) = (f2 p0) then (1 : Int32) else (0 : Int32))
def m0_1 (p0 : Int32) (p1 : Int32) : Int32 := (if (f1 (p1 &&& (255 : Int32))) = (f2 (p1 &&& (255 : Int32))) then (1 : Int32) else (0 : Int32))
def m0_2 (p0 : Int32) (p1 : Int32) : Int32 := (if (f1 (12288 : Int32)) = (0 : Int32) then (1 : Int32) else (0 : Int32))
def f0 (p0 : Int32) (p1 : Int32) : Int32 := (if (m0_0 p0 p1) = (0 : Int32) then (0 : Int32) else (if (m0_1 p0 p1) = (0 : Int32) then (0 : Int32) else (if (m0_2 p0 p1) = (0 : Int32) then (0 : Int32) else (1 : Int32))))
def Q0 (Z : State) (p0 : Int32) (p1 : Int32) (h0 : Heap) (n0 : Nat) (v : Option Value) (h : Heap) (L : List Loc) : Prop := v = some (.int (f0 p0 p1)) ∧ Fr n0 L
set_option maxRecDepth 65536 in
set_option maxHeartbeats 40000000 in
theorem rm0 (l : Launch) (Z : State) (a0 : Array Value) (hw : ∀ d ∈ tables_1, d.before a0 Z = true) (ws : List Jvm.Cond) (p0 : Int32) (p1 : Int32) (h0 : Heap) (n0 : Nat) (Z0 : n0 ≤ h0.size) :
    MetFree l x (head1 (Jvm.Cond.code x code maxLocals ret :: ws) room_1) (fun a U => a = #[(.int p0), (.int p1)] ∧ Z.Warmed39 U.vm ∧ U.heap = h0) (fun _ _ _ _ _ => True) (fun _ U o U' => ∃ v L, o = .returned v ∧ Q0 Z p0 p1 h0 n0 v U'.heap L ∧ FrameEnd U o U' L room_1.cells room_1.slots) := by
  refine MetFree.of_bodySF (plainFor_of_name pn_0) hisR ?_
  intro p e s m args below meth c s₁ Bd hml0 hP hK
  obtain ⟨rfl, hZ, hh⟩ := hP
  have hx := Bd.exec
  have hby := Bd.bytes
  have hml : c.maxLocals = 6 := hml0
  have hown : s.vm.findClass "com/example/twinrail/twinrail/DictionaryIsSeparatorPinLaw" = some m.cls := findClass_of_methodNamed Bd.named
  have hnm := (name_of_methodNamed Bd.named Bd.method).1
  have X0 : Stand p l e room_1 s m #[(.int p0), (.int p1)] below meth c s₁ [] 0 0 := Stand.of_body Bd
  have e0 : s₁.heap = h0 := by rw [← hh, Bd.state]; rfl
  have N0 := Fr.nil n0
  refine own_back (b := s₁.setTop (mkF m 0 #[.val (.int p0), .val (.int p1), .unset, .unset, .unset, .unset] [])) (fun t kt => castTop (ef_0 m p0 p1) kt) ?_
  obtain ⟨_, _, ⟨T1, L1, k1, n1⟩, -, X1, ⟨Lc1, hQ1, l1, y1, z1⟩, st1⟩ := Jvm.LawKit.callS X0 hx (y := (⟨"com/example/twinrail/twinrail/Dictionary", "isSeparator", "(I)Z"⟩ : MethodName)) hown (mvT hZ (hw _ (List.mem_of_getElem? (i := 0) rfl))) (mvT hZ (hw _ (List.mem_of_getElem? (i := 1) rfl))) (mvT hZ (hw _ (List.mem_of_getElem? (i := 2) rfl))) (mvT hZ (hw _ (List.mem_of_getElem? (i := 3) rfl))) (by decide) (backOf (W := 0) (rm1 l Z a0 hw [] p0 h0 n0 Z0 ) hZ (hw _ (List.mem_of_getElem? (i := 3) rfl)) (hw _ (List.mem_of_getElem? (i := 2) rfl)) (by decide) (by decide)) (g := (mkF m 7 #[.val (.int p0), .val (.int p1), .val (.int (p1 &&& (255 : Int32))), .unset, .unset, .unset] [(.int p0)])) rfl (by rw [hml]; rfl) (argsL := [(.int p0)]) (rest := []) (lenOf pd_0_0 rfl) rfl (by show 2 * 0 + _ ≤ _; exact Nat.le_of_eq rfl) (hb hby at_7) (fun _ _ => ⟨rfl, e0, (by decide : 0 + 0 ≤ _), (by decide : 0 + 0 ≤ _)⟩)
  dsimp only [Pt.U, Pt.locs, Pt.cells, Pt.slots] at X1 l1 y1 z1 st1 hQ1
  subst l1 y1 z1
  obtain ⟨rfl, Nq1, e1⟩ := hQ1
  have N1 := Fr.app N0 Nq1
  obtain ⟨_, _, ⟨T2, L2, k2, n2⟩, -, X2, ⟨Lc2, hQ2, l2, y2, z2⟩, st2⟩ := Jvm.LawKit.callS X1 hx (y := (⟨"com/example/twinrail/twinrail/DictionaryIsSeparatorPinLaw", "isAsciiWhitespace", "(I)Z"⟩ : MethodName)) hown (mvT hZ (hw _ (List.mem_of_getElem? (i := 4) rfl))) (mvT hZ (hw _ (List.mem_of_getElem? (i := 5) rfl))) (mvT hZ (hw _ (List.mem_of_getElem? (i := 6) rfl))) (mvT hZ (hw _ (List.mem_of_getElem? (i := 7) rfl))) (by decide) (backOf (W := 1) (rm2 l Z a0 hw [] p0 h0 n0 Z0 ) hZ (hw _ (List.mem_of_getElem? (i := 7) rfl)) (hw _ (List.mem_of_getElem? (i := 6) rfl)) (by decide) (by decide)) (g := (mkF m 11 #[.val (.int p0), .val (.int p1), .val (.int (p1 &&& (255 : Int32))), .unset, .unset, .unset] [(.int p0), (.int (f1 p0))])) rfl (by rw [hml]; rfl) (argsL := [(.int p0)]) (rest := [(.int (f1 p0))]) (lenOf pd_0_0 rfl) rfl (by show 2 * 0 + _ ≤ _; exact Nat.le_of_eq rfl) (hb hby at_11) (fun _ _ => ⟨rfl, e1, (by decide : 0 + 0 ≤ _), (by decide : 0 + 0 ≤ _)⟩)
  dsimp only [Pt.U, Pt.locs, Pt.cells, Pt.slots] at X2 l2 y2 z2 st2 hQ2
  subst l2 y2 z2
  obtain ⟨rfl, Nq2, e2⟩ := hQ2
  have N2 := Fr.app N1 Nq2
  refine own_back (b := T2.setTop (mkF m 14 #[.val (.int p0), .val (.int p1), .val (.int (p1 &&& (255 : Int32))), .unset, .unset, .unset] [(.int (f2 p0)), (.int (f1 p0))])) (fun t kt => ?_) ?_
  · show Steps p.tables e below (s₁.setTop (mkF m 0 #[.val (.int p0), .val (.int p1), .unset, .unset, .unset, .unset] [])) _
    refine XS.iloadN X0.here hx rfl (hb hby at_0) rfl ?_
    show Steps p.tables e below (s₁.setTop (mkF m 1 #[.val (.int p0), .val (.int p1), .unset, .unset, .unset, .unset] [(.int p1)])) _
    refine XS.sipush X0.here hx rfl (hb hby at_1) ?_
    show Steps p.tables e below (s₁.setTop (mkF m 4 #[.val (.int p0), .val (.int p1), .unset, .unset, .unset, .unset] [(.int (255 : Int32)), (.int p1)])) _
    refine XS.iand X0.here hx rfl (hb hby at_4) rfl ?_
    show Steps p.tables e below (s₁.setTop (mkF m 5 #[.val (.int p0), .val (.int p1), .unset, .unset, .unset, .unset] [(.int (p1 &&& (255 : Int32)))])) _
    refine XS.istoreN X0.here hx rfl (hb hby at_5) rfl (l' := #[.val (.int p0), .val (.int p1), .val (.int (p1 &&& (255 : Int32))), .unset, .unset, .unset]) rfl ?_
    show Steps p.tables e below (s₁.setTop (mkF m 6 #[.val (.int p0), .val (.int p1), .val (.int (p1 &&& (255 : Int32))), .unset, .unset, .unset] [])) _
    refine XS.iloadN X0.here hx rfl (hb hby at_6) rfl ?_
    show Steps p.tables e below (s₁.setTop (mkF m 7 #[.val (.int p0), .val (.int p1), .val (.int (p1 &&& (255 : Int32))), .unset, .unset, .unset] [(.int p0)])) _
    refine st1 _ ?_
    show Steps p.tables e below (T1.setTop (mkF m 10 #[.val (.int p0), .val (.int p1), .val (.int (p1 &&& (255 : Int32))), .unset, .unset, .unset] [(.int (f1 p0))])) _
    refine XS.iloadN X1.here hx rfl (hb hby at_10) rfl ?_
    show Steps p.tables e below (T1.setTop (mkF m 11 #[.val (.int p0), .val (.int p1), .val (.int (p1 &&& (255 : Int32))), .unset, .unset, .unset] [(.int p0), (.int (f1 p0))])) _
    refine st2 _ ?_
    exact kt
  refine own_back (b := T2.setTop (mkF m 22 #[.val (.int p0), .val (.int p1), .val (.int (p1 &&& (255 : Int32))), .unset, .unset, .unset] [(.int (m0_0 p0 p1))])) (fun t kt => ?_) ?_
  · by_cases hm14_3 : (f1 p0) = (f2 p0)
    · rw [show (m0_0 p0 p1) = (1 : Int32) from by unfold m0_0; rw [if_pos hm14_3]] at kt
      show Steps p.tables e below (T2.setTop (mkF m 14 #[.val (.int p0), .val (.int p1), .val (.int (p1 &&& (255 : Int32))), .unset, .unset, .unset] [(.int (f2 p0)), (.int (f1 p0))])) _
      refine XS.icmpNo X2.here hx rfl (hb hby at_14) rfl (teq hm14_3).2 ?_
      show Steps p.tables e below (T2.setTop (mkF m 17 #[.val (.int p0), .val (.int p1), .val (.int (p1 &&& (255 : Int32))), .unset, .unset, .unset] [])) _
      refine XS.iconst X2.here hx rfl (hb hby at_17) ?_
      show Steps p.tables e below (T2.setTop (mkF m 18 #[.val (.int p0), .val (.int p1), .val (.int (p1 &&& (255 : Int32))), .unset, .unset, .unset] [(.int (1 : Int32))])) _
      refine XS.goto X2.here hx rfl (pc0 := 18) (pc' := 22) rfl (hb hby at_18) (by decide) (by decide) ?_
      exact kt
    · rw [show (m0_0 p0 p1) = (0 : Int32) from by unfold m0_0; rw [if_neg hm14_3]] at kt
      show Steps p.tables e below (T2.setTop (mkF m 14 #[.val (.int p0), .val (.int p1), .val (.int (p1 &&& (255 : Int32))), .unset, .unset, .unset] [(.int (f2 p0)), (.int (f1 p0))])) _
      refine XS.icmpYes X2.here hx rfl (pc0 := 14) (pc' := 21) rfl (hb hby at_14) rfl (feq hm14_3).2 (by decide) (by decide) ?_
      show Steps p.tables e below (T2.setTop (mkF m 21 #[.val (.int p0), .val (.int p1), .val (.int (p1 &&& (255 : Int32))), .unset, .unset, .unset] [])) _
      refine XS.iconst X2.here hx rfl (hb hby at_21) ?_
      exact kt
  obtain ⟨_, _, ⟨T4, L4, k4, n4⟩, -, X4, ⟨Lc4, hQ4, l4, y4, z4⟩, st4⟩ := Jvm.LawKit.callS X2 hx (y := (⟨"com/example/twinrail/twinrail/Dictionary", "isSeparator", "(I)Z"⟩ : MethodName)) hown (mvT hZ (hw _ (List.mem_of_getElem? (i := 0) rfl))) (mvT hZ (hw _ (List.mem_of_getElem? (i := 1) rfl))) (mvT hZ (hw _ (List.mem_of_getElem? (i := 2) rfl))) (mvT hZ (hw _ (List.mem_of_getElem? (i := 3) rfl))) (by decide) (backOf (W := 0) (rm1 l Z a0 hw [] (p1 &&& (255 : Int32)) h0 n0 Z0 ) hZ (hw _ (List.mem_of_getElem? (i := 3) rfl)) (hw _ (List.mem_of_getElem? (i := 2) rfl)) (by decide) (by decide)) (g := (mkF m 24 #[.val (.int p0), .val (.int p1), .val (.int (p1 &&& (255 : Int32))), .val (.int (m0_0 p0 p1)), .unset, .unset] [(.int (p1 &&& (255 : Int32)))])) rfl (by rw [hml]; rfl) (argsL := [(.int (p1 &&& (255 : Int32)))]) (rest := []) (lenOf pd_0_0 rfl) rfl (by show 2 * 0 + _ ≤ _; exact Nat.le_of_eq rfl) (hb hby at_24) (fun _ _ => ⟨rfl, e2, (by decide : 0 + 0 ≤ _), (by decide : 0 + 0 ≤ _)⟩)
  dsimp only [Pt.U, Pt.locs, Pt.cells, Pt.slots] at X4 l4 y4 z4 st4 hQ4
  subst l4 y4 z4
  obtain ⟨rfl, Nq4, e4⟩ := hQ4
  have N4 := Fr.app N2 Nq4
  obtain ⟨_, _, ⟨T5, L5, k5, n5⟩, -, X5, ⟨Lc5, hQ5, l5, y5, z5⟩, st5⟩ := Jvm.LawKit.callS X4 hx (y := (⟨"com/example/twinrail/twinrail/DictionaryIsSeparatorPinLaw", "isAsciiWhitespace", "(I)Z"⟩ : MethodName)) hown (mvT hZ (hw _ (List.mem_of_getElem? (i := 4) rfl))) (mvT hZ (hw _ (List.mem_of_getElem? (i := 5) rfl))) (mvT hZ (hw _ (List.mem_of_getElem? (i := 6) rfl))) (mvT hZ (hw _ (List.mem_of_getElem? (i := 7) rfl))) (by decide) (backOf (W := 1) (rm2 l Z a0 hw [] (p1 &&& (255 : Int32)) h0 n0 Z0 ) hZ (hw _ (List.mem_of_getElem? (i := 7) rfl)) (hw _ (List.mem_of_getElem? (i := 6) rfl)) (by decide) (by decide)) (g := (mkF m 28 #[.val (.int p0), .val (.int p1), .val (.int (p1 &&& (255 : Int32))), .val (.int (m0_0 p0 p1)), .unset, .unset] [(.int (p1 &&& (255 : Int32))), (.int (f1 (p1 &&& (255 : Int32))))])) rfl (by rw [hml]; rfl) (argsL := [(.int (p1 &&& (255 : Int32)))]) (rest := [(.int (f1 (p1 &&& (255 : Int32))))]) (lenOf pd_0_0 rfl) rfl (by show 2 * 0 + _ ≤ _; exact Nat.le_of_eq rfl) (hb hby at_28) (fun _ _ => ⟨rfl, e4, (by decide : 0 + 0 ≤ _), (by decide : 0 + 0 ≤ _)⟩)
  dsimp only [Pt.U, Pt.locs, Pt.cells, Pt.slots] at X5 l5 y5 z5 st5 hQ5
  subst l5 y5 z5
  obtain ⟨rfl, Nq5, e5⟩ := hQ5
  have N5 := Fr.app N4 Nq5
  refine own_back (b := T5.setTop (mkF m 31 #[.val (.int p0), .val (.int p1), .val (.int (p1 &&& (255 : Int32))), .val (.int (m0_0 p0 p1)), .unset, .unset] [(.int (f2 (p1 &&& (255 : Int32)))), (.int (f1 (p1 &&& (255 : Int32))))])) (fun t kt => ?_) ?_
  · show Steps p.tables e below (T2.setTop (mkF m 22 #[.val (.int p0), .val (.int p1), .val (.int (p1 &&& (255 : Int32))), .unset, .unset, .unset] [(.int (m0_0 p0 p1))])) _
    refine XS.istoreN X2.here hx rfl (hb hby at_22) rfl (l' := #[.val (.int p0), .val (.int p1), .val (.int (p1 &&& (255 : Int32))), .val (.int (m0_0 p0 p1)), .unset, .unset]) rfl ?_
    show Steps p.tables e below (T2.setTop (mkF m 23 #[.val (.int p0), .val (.int p1), .val (.int (p1 &&& (255 : Int32))), .val (.int (m0_0 p0 p1)), .unset, .unset] [])) _
    refine XS.iloadN X2.here hx rfl (hb hby at_23) rfl ?_
    show Steps p.tables e below (T2.setTop (mkF m 24 #[.val (.int p0), .val (.int p1), .val (.int (p1 &&& (255 : Int32))), .val (.int (m0_0 p0 p1)), .unset, .unset] [(.int (p1 &&& (255 : Int32)))])) _
    refine st4 _ ?_
    show Steps p.tables e below (T4.setTop (mkF m 27 #[.val (.int p0), .val (.int p1), .val (.int (p1 &&& (255 : Int32))), .val (.int (m0_0 p0 p1)), .unset, .unset] [(.int (f1 (p1 &&& (255 : Int32))))])) _
    refine XS.iloadN X4.here hx rfl (hb hby at_27) rfl ?_
    show Steps p.tables e below (T4.setTop (mkF m 28 #[.val (.int p0), .val (.int p1), .val (.int (p1 &&& (255 : Int32))), .val (.int (m0_0 p0 p1)), .unset, .unset] [(.int (p1 &&& (255 : Int32))), (.int (f1 (p1 &&& (255 : Int32))))])) _
    refine st5 _ ?_
    exact kt
  refine own_back (b := T5.setTop (mkF m 39 #[.val (.int p0), .val (.int p1), .val (.int (p1 &&& (255 : Int32))), .val (.int (m0_0 p0 p1)), .unset, .unset] [(.int (m0_1 p0 p1))])) (fun t kt => ?_) ?_
  · by_cases hm31_6 : (f1 (p1 &&& (255 : Int32))) = (f2 (p1 &&& (255 : Int32)))
    · rw [show (m0_1 p0 p1) = (1 : Int32) from by unfold m0_1; rw [if_pos hm31_6]] at kt
      show Steps p.tables e below (T5.setTop (mkF m 31 #[.val (.int p0), .val (.int p1), .val (.int (p1 &&& (255 : Int32))), .val (.int (m0_0 p0 p1)), .unset, .unset] [(.int (f2 (p1 &&& (255 : Int32)))), (.int (f1 (p1 &&& (255 : Int32))))])) _
      refine XS.icmpNo X5.here hx rfl (hb hby at_31) rfl (teq hm31_6).2 ?_
      show Steps p.tables e below (T5.setTop (mkF m 34 #[.val (.int p0), .val (.int p1), .val (.int (p1 &&& (255 : Int32))), .val (.int (m0_0 p0 p1)), .unset, .unset] [])) _
      refine XS.iconst X5.here hx rfl (hb hby at_34) ?_
      show Steps p.tables e below (T5.setTop (mkF m 35 #[.val (.int p0), .val (.int p1), .val (.int (p1 &&& (255 : Int32))), .val (.int (m0_0 p0 p1)), .unset, .unset] [(.int (1 : Int32))])) _
      refine XS.goto X5.here hx rfl (pc0 := 35) (pc' := 39) rfl (hb hby at_35) (by decide) (by decide) ?_
      exact kt
    · rw [show (m0_1 p0 p1) = (0 : Int32) from by unfold m0_1; rw [if_neg hm31_6]] at kt
      show Steps p.tables e below (T5.setTop (mkF m 31 #[.val (.int p0), .val (.int p1), .val (.int (p1 &&& (255 : Int32))), .val (.int (m0_0 p0 p1)), .unset, .unset] [(.int (f2 (p1 &&& (255 : Int32)))), (.int (f1 (p1 &&& (255 : Int32))))])) _
      refine XS.icmpYes X5.here hx rfl (pc0 := 31) (pc' := 38) rfl (hb hby at_31) rfl (feq hm31_6).2 (by decide) (by decide) ?_
      show Steps p.tables e below (T5.setTop (mkF m 38 #[.val (.int p0), .val (.int p1), .val (.int (p1 &&& (255 : Int32))), .val (.int (m0_0 p0 p1)), .unset, .unset] [])) _
      refine XS.iconst X5.here hx rfl (hb hby at_38) ?_
      exact kt
  obtain ⟨_, _, ⟨T7, L7, k7, n7⟩, -, X7, ⟨Lc7, hQ7, l7, y7, z7⟩, st7⟩ := Jvm.LawKit.callS X5 hx (y := (⟨"com/example/twinrail/twinrail/Dictionary", "isSeparator", "(I)Z"⟩ : MethodName)) hown (mvT hZ (hw _ (List.mem_of_getElem? (i := 0) rfl))) (mvT hZ (hw _ (List.mem_of_getElem? (i := 1) rfl))) (mvT hZ (hw _ (List.mem_of_getElem? (i := 2) rfl))) (mvT hZ (hw _ (List.mem_of_getElem? (i := 3) rfl))) (by decide) (backOf (W := 0) (rm1 l Z a0 hw [] (12288 : Int32) h0 n0 Z0 ) hZ (hw _ (List.mem_of_getElem? (i := 3) rfl)) (hw _ (List.mem_of_getElem? (i := 2) rfl)) (by decide) (by decide)) (g := (mkF m 44 #[.val (.int p0), .val (.int p1), .val (.int (p1 &&& (255 : Int32))), .val (.int (m0_0 p0 p1)), .val (.int (m0_1 p0 p1)), .unset] [(.int (12288 : Int32))])) rfl (by rw [hml]; rfl) (argsL := [(.int (12288 : Int32))]) (rest := []) (lenOf pd_0_0 rfl) rfl (by show 2 * 0 + _ ≤ _; exact Nat.le_of_eq rfl) (hb hby at_44) (fun _ _ => ⟨rfl, e5, (by decide : 0 + 0 ≤ _), (by decide : 0 + 0 ≤ _)⟩)
  dsimp only [Pt.U, Pt.locs, Pt.cells, Pt.slots] at X7 l7 y7 z7 st7 hQ7
  subst l7 y7 z7
  obtain ⟨rfl, Nq7, e7⟩ := hQ7
  have N7 := Fr.app N5 Nq7
  refine own_back (b := T7.setTop (mkF m 47 #[.val (.int p0), .val (.int p1), .val (.int (p1 &&& (255 : Int32))), .val (.int (m0_0 p0 p1)), .val (.int (m0_1 p0 p1)), .unset] [(.int (f1 (12288 : Int32)))])) (fun t kt => ?_) ?_
  · show Steps p.tables e below (T5.setTop (mkF m 39 #[.val (.int p0), .val (.int p1), .val (.int (p1 &&& (255 : Int32))), .val (.int (m0_0 p0 p1)), .unset, .unset] [(.int (m0_1 p0 p1))])) _
    refine XS.istore X5.here hx rfl (hb hby at_39) rfl (l' := #[.val (.int p0), .val (.int p1), .val (.int (p1 &&& (255 : Int32))), .val (.int (m0_0 p0 p1)), .val (.int (m0_1 p0 p1)), .unset]) rfl ?_
    show Steps p.tables e below (T5.setTop (mkF m 41 #[.val (.int p0), .val (.int p1), .val (.int (p1 &&& (255 : Int32))), .val (.int (m0_0 p0 p1)), .val (.int (m0_1 p0 p1)), .unset] [])) _
    refine XS.sipush X5.here hx rfl (hb hby at_41) ?_
    show Steps p.tables e below (T5.setTop (mkF m 44 #[.val (.int p0), .val (.int p1), .val (.int (p1 &&& (255 : Int32))), .val (.int (m0_0 p0 p1)), .val (.int (m0_1 p0 p1)), .unset] [(.int (12288 : Int32))])) _
    refine st7 _ ?_
    exact kt
  refine own_back (b := T7.setTop (mkF m 55 #[.val (.int p0), .val (.int p1), .val (.int (p1 &&& (255 : Int32))), .val (.int (m0_0 p0 p1)), .val (.int (m0_1 p0 p1)), .unset] [(.int (m0_2 p0 p1))])) (fun t kt => ?_) ?_
  · by_cases hm47_8 : (f1 (12288 : Int32)) = (0 : Int32)
    · rw [show (m0_2 p0 p1) = (1 : Int32) from by unfold m0_2; rw [if_pos hm47_8]] at kt
      show Steps p.tables e below (T7.setTop (mkF m 47 #[.val (.int p0), .val (.int p1), .val (.int (p1 &&& (255 : Int32))), .val (.int (m0_0 p0 p1)), .val (.int (m0_1 p0 p1)), .unset] [(.int (f1 (12288 : Int32)))])) _
      refine XS.ifNo X7.here hx rfl (hb hby at_47) rfl ((if0 _ _).trans (teq hm47_8).2) ?_
      show Steps p.tables e below (T7.setTop (mkF m 50 #[.val (.int p0), .val (.int p1), .val (.int (p1 &&& (255 : Int32))), .val (.int (m0_0 p0 p1)), .val (.int (m0_1 p0 p1)), .unset] [])) _
      refine XS.iconst X7.here hx rfl (hb hby at_50) ?_
      show Steps p.tables e below (T7.setTop (mkF m 51 #[.val (.int p0), .val (.int p1), .val (.int (p1 &&& (255 : Int32))), .val (.int (m0_0 p0 p1)), .val (.int (m0_1 p0 p1)), .unset] [(.int (1 : Int32))])) _
      refine XS.goto X7.here hx rfl (pc0 := 51) (pc' := 55) rfl (hb hby at_51) (by decide) (by decide) ?_
      exact kt
    · rw [show (m0_2 p0 p1) = (0 : Int32) from by unfold m0_2; rw [if_neg hm47_8]] at kt
      show Steps p.tables e below (T7.setTop (mkF m 47 #[.val (.int p0), .val (.int p1), .val (.int (p1 &&& (255 : Int32))), .val (.int (m0_0 p0 p1)), .val (.int (m0_1 p0 p1)), .unset] [(.int (f1 (12288 : Int32)))])) _
      refine XS.ifYes X7.here hx rfl (pc0 := 47) (pc' := 54) rfl (hb hby at_47) rfl ((if0 _ _).trans (feq hm47_8).2) (by decide) (by decide) ?_
      show Steps p.tables e below (T7.setTop (mkF m 54 #[.val (.int p0), .val (.int p1), .val (.int (p1 &&& (255 : Int32))), .val (.int (m0_0 p0 p1)), .val (.int (m0_1 p0 p1)), .unset] [])) _
      refine XS.iconst X7.here hx rfl (hb hby at_54) ?_
      exact kt
  refine own_back (b := T7.setTop (mkF m 58 #[.val (.int p0), .val (.int p1), .val (.int (p1 &&& (255 : Int32))), .val (.int (m0_0 p0 p1)), .val (.int (m0_1 p0 p1)), .val (.int (m0_2 p0 p1))] [(.int (m0_0 p0 p1))])) (fun t kt => ?_) ?_
  · show Steps p.tables e below (T7.setTop (mkF m 55 #[.val (.int p0), .val (.int p1), .val (.int (p1 &&& (255 : Int32))), .val (.int (m0_0 p0 p1)), .val (.int (m0_1 p0 p1)), .unset] [(.int (m0_2 p0 p1))])) _
    refine XS.istore X7.here hx rfl (hb hby at_55) rfl (l' := #[.val (.int p0), .val (.int p1), .val (.int (p1 &&& (255 : Int32))), .val (.int (m0_0 p0 p1)), .val (.int (m0_1 p0 p1)), .val (.int (m0_2 p0 p1))]) rfl ?_
    show Steps p.tables e below (T7.setTop (mkF m 57 #[.val (.int p0), .val (.int p1), .val (.int (p1 &&& (255 : Int32))), .val (.int (m0_0 p0 p1)), .val (.int (m0_1 p0 p1)), .val (.int (m0_2 p0 p1))] [])) _
    refine XS.iloadN X7.here hx rfl (hb hby at_57) rfl ?_
    exact kt
  by_cases hc58_9 : (m0_0 p0 p1) = (0 : Int32)
  · refine own_back (b := T7.setTop (mkF m 76 #[.val (.int p0), .val (.int p1), .val (.int (p1 &&& (255 : Int32))), .val (.int (m0_0 p0 p1)), .val (.int (m0_1 p0 p1)), .val (.int (m0_2 p0 p1))] [(.int (0 : Int32))])) (fun t kt => ?_) ?_
    · show Steps p.tables e below (T7.setTop (mkF m 58 #[.val (.int p0), .val (.int p1), .val (.int (p1 &&& (255 : Int32))), .val (.int (m0_0 p0 p1)), .val (.int (m0_1 p0 p1)), .val (.int (m0_2 p0 p1))] [(.int (m0_0 p0 p1))])) _
      refine XS.ifYes X7.here hx rfl (pc0 := 58) (pc' := 75) rfl (hb hby at_58) rfl ((if0 _ _).trans (teq hc58_9).1) (by decide) (by decide) ?_
      show Steps p.tables e below (T7.setTop (mkF m 75 #[.val (.int p0), .val (.int p1), .val (.int (p1 &&& (255 : Int32))), .val (.int (m0_0 p0 p1)), .val (.int (m0_1 p0 p1)), .val (.int (m0_2 p0 p1))] [])) _
      refine XS.iconst X7.here hx rfl (hb hby at_75) ?_
      exact kt
    obtain ⟨fs, hr, hrun, hended, hW, hsame⟩ := X7.leave (v := some (.int (0 : Int32))) (fun h => by rw [Bd.returns] at h; cases h)
    refine ⟨_, _, ?_, hrun, hended, _, _, rfl, ?_, ⟨_, rfl⟩, hW, hsame.mono (by decide) (by decide)⟩
    · show Steps p.tables e below (T7.setTop (mkF m 76 #[.val (.int p0), .val (.int p1), .val (.int (p1 &&& (255 : Int32))), .val (.int (m0_0 p0 p1)), .val (.int (m0_1 p0 p1)), .val (.int (m0_2 p0 p1))] [(.int (0 : Int32))])) _
      exact retN X7 hx (t := .boolean) Bd.returns (by simp) (hb hby at_76) hr
    · show Q0 Z p0 p1 h0 n0 _ T7.heap _
      rw [e7]
      exact ⟨by rw [show f0 p0 p1 = (0 : Int32) from by unfold f0; rw [if_pos hc58_9]], N7⟩
  · refine own_back (b := T7.setTop (mkF m 63 #[.val (.int p0), .val (.int p1), .val (.int (p1 &&& (255 : Int32))), .val (.int (m0_0 p0 p1)), .val (.int (m0_1 p0 p1)), .val (.int (m0_2 p0 p1))] [(.int (m0_1 p0 p1))])) (fun t kt => ?_) ?_
    · show Steps p.tables e below (T7.setTop (mkF m 58 #[.val (.int p0), .val (.int p1), .val (.int (p1 &&& (255 : Int32))), .val (.int (m0_0 p0 p1)), .val (.int (m0_1 p0 p1)), .val (.int (m0_2 p0 p1))] [(.int (m0_0 p0 p1))])) _
      refine XS.ifNo X7.here hx rfl (hb hby at_58) rfl ((if0 _ _).trans (feq hc58_9).1) ?_
      show Steps p.tables e below (T7.setTop (mkF m 61 #[.val (.int p0), .val (.int p1), .val (.int (p1 &&& (255 : Int32))), .val (.int (m0_0 p0 p1)), .val (.int (m0_1 p0 p1)), .val (.int (m0_2 p0 p1))] [])) _
      refine XS.iload X7.here hx rfl (hb hby at_61) rfl ?_
      exact kt
    by_cases hc63_10 : (m0_1 p0 p1) = (0 : Int32)
    · refine own_back (b := T7.setTop (mkF m 76 #[.val (.int p0), .val (.int p1), .val (.int (p1 &&& (255 : Int32))), .val (.int (m0_0 p0 p1)), .val (.int (m0_1 p0 p1)), .val (.int (m0_2 p0 p1))] [(.int (0 : Int32))])) (fun t kt => ?_) ?_
      · show Steps p.tables e below (T7.setTop (mkF m 63 #[.val (.int p0), .val (.int p1), .val (.int (p1 &&& (255 : Int32))), .val (.int (m0_0 p0 p1)), .val (.int (m0_1 p0 p1)), .val (.int (m0_2 p0 p1))] [(.int (m0_1 p0 p1))])) _
        refine XS.ifYes X7.here hx rfl (pc0 := 63) (pc' := 75) rfl (hb hby at_63) rfl ((if0 _ _).trans (teq hc63_10).1) (by decide) (by decide) ?_
        show Steps p.tables e below (T7.setTop (mkF m 75 #[.val (.int p0), .val (.int p1), .val (.int (p1 &&& (255 : Int32))), .val (.int (m0_0 p0 p1)), .val (.int (m0_1 p0 p1)), .val (.int (m0_2 p0 p1))] [])) _
        refine XS.iconst X7.here hx rfl (hb hby at_75) ?_
        exact kt
      obtain ⟨fs, hr, hrun, hended, hW, hsame⟩ := X7.leave (v := some (.int (0 : Int32))) (fun h => by rw [Bd.returns] at h; cases h)
      refine ⟨_, _, ?_, hrun, hended, _, _, rfl, ?_, ⟨_, rfl⟩, hW, hsame.mono (by decide) (by decide)⟩
      · show Steps p.tables e below (T7.setTop (mkF m 76 #[.val (.int p0), .val (.int p1), .val (.int (p1 &&& (255 : Int32))), .val (.int (m0_0 p0 p1)), .val (.int (m0_1 p0 p1)), .val (.int (m0_2 p0 p1))] [(.int (0 : Int32))])) _
        exact retN X7 hx (t := .boolean) Bd.returns (by simp) (hb hby at_76) hr
      · show Q0 Z p0 p1 h0 n0 _ T7.heap _
        rw [e7]
        exact ⟨by rw [show f0 p0 p1 = (0 : Int32) from by unfold f0; rw [if_neg hc58_9, if_pos hc63_10]], N7⟩
    · refine own_back (b := T7.setTop (mkF m 68 #[.val (.int p0), .val (.int p1), .val (.int (p1 &&& (255 : Int32))), .val (.int (m0_0 p0 p1)), .val (.int (m0_1 p0 p1)), .val (.int (m0_2 p0 p1))] [(.int (m0_2 p0 p1))])) (fun t kt => ?_) ?_
      · show Steps p.tables e below (T7.setTop (mkF m 63 #[.val (.int p0), .val (.int p1), .val (.int (p1 &&& (255 : Int32))), .val (.int (m0_0 p0 p1)), .val (.int (m0_1 p0 p1)), .val (.int (m0_2 p0 p1))] [(.int (m0_1 p0 p1))])) _
        refine XS.ifNo X7.here hx rfl (hb hby at_63) rfl ((if0 _ _).trans (feq hc63_10).1) ?_
        show Steps p.tables e below (T7.setTop (mkF m 66 #[.val (.int p0), .val (.int p1), .val (.int (p1 &&& (255 : Int32))), .val (.int (m0_0 p0 p1)), .val (.int (m0_1 p0 p1)), .val (.int (m0_2 p0 p1))] [])) _
        refine XS.iload X7.here hx rfl (hb hby at_66) rfl ?_
        exact kt
      by_cases hc68_11 : (m0_2 p0 p1) = (0 : Int32)
      · refine own_back (b := T7.setTop (mkF m 76 #[.val (.int p0), .val (.int p1), .val (.int (p1 &&& (255 : Int32))), .val (.int (m0_0 p0 p1)), .val (.int (m0_1 p0 p1)), .val (.int (m0_2 p0 p1))] [(.int (0 : Int32))])) (fun t kt => ?_) ?_
        · show Steps p.tables e below (T7.setTop (mkF m 68 #[.val (.int p0), .val (.int p1), .val (.int (p1 &&& (255 : Int32))), .val (.int (m0_0 p0 p1)), .val (.int (m0_1 p0 p1)), .val (.int (m0_2 p0 p1))] [(.int (m0_2 p0 p1))])) _
          refine XS.ifYes X7.here hx rfl (pc0 := 68) (pc' := 75) rfl (hb hby at_68) rfl ((if0 _ _).trans (teq hc68_11).1) (by decide) (by decide) ?_
          show Steps p.tables e below (T7.setTop (mkF m 75 #[.val (.int p0), .val (.int p1), .val (.int (p1 &&& (255 : Int32))), .val (.int (m0_0 p0 p1)), .val (.int (m0_1 p0 p1)), .val (.int (m0_2 p0 p1))] [])) _
          refine XS.iconst X7.here hx rfl (hb hby at_75) ?_
          exact kt
        obtain ⟨fs, hr, hrun, hended, hW, hsame⟩ := X7.leave (v := some (.int (0 : Int32))) (fun h => by rw [Bd.returns] at h; cases h)
        refine ⟨_, _, ?_, hrun, hended, _, _, rfl, ?_, ⟨_, rfl⟩, hW, hsame.mono (by decide) (by decide)⟩
        · show Steps p.tables e below (T7.setTop (mkF m 76 #[.val (.int p0), .val (.int p1), .val (.int (p1 &&& (255 : Int32))), .val (.int (m0_0 p0 p1)), .val (.int (m0_1 p0 p1)), .val (.int (m0_2 p0 p1))] [(.int (0 : Int32))])) _
          exact retN X7 hx (t := .boolean) Bd.returns (by simp) (hb hby at_76) hr
        · show Q0 Z p0 p1 h0 n0 _ T7.heap _
          rw [e7]
          exact ⟨by rw [show f0 p0 p1 = (0 : Int32) from by unfold f0; rw [if_neg hc58_9, if_neg hc63_10, if_pos hc68_11]], N7⟩
      · refine own_back (b := T7.setTop (mkF m 76 #[.val (.int p0), .val (.int p1), .val (.int (p1 &&& (255 : Int32))), .val (.int (m0_0 p0 p1)), .val (.int (m0_1 p0 p1)), .val (.int (m0_2 p0 p1))] [(.int (1 : Int32))])) (fun t kt => ?_) ?_
        · show Steps p.tables e below (T7.setTop (mkF m 68 #[.val (.int p0), .val (.int p1), .val (.int (p1 &&& (255 : Int32))), .val (.int (m0_0 p0 p1)), .val (.int (m0_1 p0 p1)), .val (.int (m0_2 p0 p1))] [(.int (m0_2 p0 p1))])) _
          refine XS.ifNo X7.here hx rfl (hb hby at_68) rfl ((if0 _ _).trans (feq hc68_11).1) ?_
          show Steps p.tables e below (T7.setTop (mkF m 71 #[.val (.int p0), .val (.int p1), .val (.int (p1 &&& (255 : Int32))), .val (.int (m0_0 p0 p1)), .val (.int (m0_1 p0 p1)), .val (.int (m0_2 p0 p1))] [])) _
          refine XS.iconst X7.here hx rfl (hb hby at_71) ?_
          show Steps p.tables e below (T7.setTop (mkF m 72 #[.val (.int p0), .val (.int p1), .val (.int (p1 &&& (255 : Int32))), .val (.int (m0_0 p0 p1)), .val (.int (m0_1 p0 p1)), .val (.int (m0_2 p0 p1))] [(.int (1 : Int32))])) _
          refine XS.goto X7.here hx rfl (pc0 := 72) (pc' := 76) rfl (hb hby at_72) (by decide) (by decide) ?_
          exact kt
        obtain ⟨fs, hr, hrun, hended, hW, hsame⟩ := X7.leave (v := some (.int (1 : Int32))) (fun h => by rw [Bd.returns] at h; cases h)
        refine ⟨_, _, ?_, hrun, hended, _, _, rfl, ?_, ⟨_, rfl⟩, hW, hsame.mono (by decide) (by decide)⟩
        · show Steps p.tables e below (T7.setTop (mkF m 76 #[.val (.int p0), .val (.int p1), .val (.int (p1 &&& (255 : Int32))), .val (.int (m0_0 p0 p1)), .val (.int (m0_1 p0 p1)), .val (.int (m0_2 p0 p1))] [(.int (1 : Int32))])) _
          exact retN X7 hx (t := .boolean) Bd.returns (by simp) (hb hby at_76) hr
        · show Q0 Z p0 p1 h0 n0 _ T7.heap _
          rw [e7]
          exact ⟨by rw [show f0 p0 p1 = (1 : Int32) from by unfold f0; rw [if_neg hc58_9, if_neg hc63_10, if_neg hc68_11]], N7⟩
theorem own_sep (c : Int32) : f1 c = f2 c := by
  unfold f1 f2
  have k9 : (9 : Int32).toInt = 9 := rfl
  have k13 : (13 : Int32).toInt = 13 := rfl
  have k10 : (10 : Int32).toInt = 10 := rfl
  have k11 : (11 : Int32).toInt = 11 := rfl
  have k12 : (12 : Int32).toInt = 12 := rfl
  simp only [Int32.lt_iff_toInt_lt, ← Int32.toInt_inj, k9, k10, k11, k12, k13]
  split
  · rfl
  · repeat' split
    all_goals first | rfl | (exfalso; omega)
theorem own_law (x y : Int32) : f0 x y = 1 := by
  have e1 : m0_0 x y = 1 := by unfold m0_0; rw [if_pos (own_sep _)]
  have e2 : m0_1 x y = 1 := by unfold m0_1; rw [if_pos (own_sep _)]
  have e3 : m0_2 x y = 1 := by unfold m0_2; decide
  unfold f0
  rw [e1, e2, e3]
  decide
set_option maxRecDepth 65536 in
set_option maxHeartbeats 40000000 in
theorem comes_1 {Post : Tables → Env → Array Value → State → Outcome → State → Prop} (hpost : ∀ tb e args s v u, (limb_1_1.after args s (.returned v) u = true ∧ limb_1_2.after args s (.returned v) u = true ∧ True) → FrameEnd s (.returned v) u (Jvm.fieldLocs frame_1_writes args s ++ Jvm.arrayLocs frame_1_arrays args s ++ Jvm.staticLocs frame_1_statics s) 0 0 → Post tb e args s (.returned v) u) :
    ArmFor flags0 classFile x code maxLocals ret World_1 tables_1 room_1 Calls_1 rest_1 Pre_1 Post := by
  intro l hfl _ _ p e ha hc hk s m args below hf hA hF happ hP
  obtain ⟨hcalls, hrest, hpre⟩ := hP
  obtain ⟨-, -, -, hnamed, -, -, -, hat⟩ := (Spec.applies_iff hf).mp happ
  obtain ⟨hg, hn⟩ := and_e (Cond.before_iff.mp (show (Jvm.Cond.and given_1 narrow_1).before args s = true from hpre))
  obtain ⟨gc, gr0⟩ := and_e hg
  obtain ⟨ga0, gr1⟩ := and_e gr0
  obtain ⟨w0, w1, rfl⟩ : ∃ w0 w1 : Value, args = #[w0, w1] := by
    have hs : args.size = 2 := by simpa [Cond.value, given_1] using gc
    obtain ⟨L⟩ := args
    match L, hs with
    | [w0, w1], _ => exact ⟨w0, w1, rfl⟩
  have hw := fun d (hd : d ∈ tables_1) => atoms_spec (ws := Jvm.Cond.code x code maxLocals ret :: tables_1) hat d (List.mem_cons_of_mem _ hd)
  have hfit : Fit s := fun {y c} hc i hi => by
    obtain ⟨ha, rfl⟩ := Array.getElem?_eq_some_iff.mp hc
    have q := List.all_eq_true.mp ((Array.all_eq_true_iff_forall_mem.mp hF) _ (Array.getElem_mem ha)) i (List.mem_range.mpr hi)
    simpa [Array.getElem?_eq_getElem hi] using q
  obtain ⟨i0, ei0⟩ := is_v ga0
  obtain rfl : w0 = (.int i0) := Option.some.inj ei0
  obtain ⟨i1, ei1⟩ := is_v gr1
  obtain rfl : w1 = (.int i1) := Option.some.inj ei1
  obtain ⟨n, o, h1, h2, h3, _, L, rfl, ⟨rfl, N⟩, hq⟩ := rm0 l s _ hw tables_1 i0 i1 s.heap s.heap.size (Nat.le_refl _)  p e ha hc hk s m _ below hf ((Spec.applies_iff_loose hf).mp happ).1 ⟨rfl, State.Warmed39.refl s, rfl⟩ trivial
  refine ⟨n, _, h1, h2, h3, hpost _ _ _ _ _ _ ⟨Cond.after_iff.mpr rfl, Cond.after_iff.mpr (eq_i res_at (Term.int_eval (1)) (congrArg Value.int (own_law i0 i1))), trivial⟩ ⟨hq.1, hq.2.1, (hq.2.2.sift fun y hy => Or.inr (N y hy)).mono (by decide) (by decide)⟩⟩
theorem main_1_1 : Claimed_1_1 := comes_1 fun _ _ _ _ _ _ h hF => ⟨h.1, hF⟩
theorem main_1_2 : Claimed_1_2 := comes_1 fun _ _ _ _ _ _ h hF => ⟨h.2.1, hF⟩
end Jvm.Pilot.@@N@@
namespace Jvm.Pilot.@@N@@
open Jvm Jvm.ClassFile Sem Op Lib Jvm.Free Jvm.Stand Jvm.Pilot.@@N@@.Jvm.D
/-! MADE BY PROGRAM (witnessworld.py) out of the Statement's table words and the real class files: 9 classes; the members and pool entries that the words name. The judged class is class 1, her method 2. -/
namespace start1
open Jvm.ClassFile
def u (s : String) : CpInfo := .utf8 (stringToUtf16 s)
/-- a pool by its gaps: so many unusable entries, then the entry; so many at the end -/
def gap : Nat → List CpInfo → List CpInfo
  | 0, r => r
  | n + 1, r => .unusable :: gap n r
def poolList (es : List (Nat × CpInfo)) (last : Nat) : List CpInfo := es.foldr (fun e r => gap e.1 (e.2 :: r)) (gap last [])
def pool (es : List (Nat × CpInfo)) (last : Nat) : Array CpInfo := ⟨poolList es last⟩
def fileOf (pool : Array CpInfo) (this : Nat) (attrs : Array Attribute := #[]) (ms : Array MethodInfo := #[]) (fl : Nat := 33) (sup : Nat := 0) (ifs : Array Nat := #[]) (fds : Array FieldInfo := #[]) : ClassFile where
  minorVersion := 0
  majorVersion := 65
  constantPool := pool
  accessFlags := fl
  thisClass := this
  superClass := sup
  interfaces := ifs
  fields := fds
  methods := ms
  attributes := attrs
def plain (name : String) (sup : Option ClassId) : Class where
  name := name
  kind := .ordinary
  loader := none
  accessFlags := 33
  super := sup
  interfaces := #[]
  cf := none
  fields := #[]
  methods := #[]
  instanceTypes := #[]
  staticTypes := #[]
  resolved := #[]
  callSites := []
  init := .initialized
  statics := none
  mirror := none

def pool0 : Array CpInfo := pool [(5, u "<init>"), (0, u "()V"), (1, .class_ 10), (1, u "java/lang/Object")] 113

def k0m0 : Method := { name := "<init>", desc := "()V", sig := { parameters := [], returnType := none }, accessFlags := 1, code := none }
/-- java/lang/Object -/
def k0 : Class := { plain "java/lang/Object" none with
  accessFlags := 33
  interfaces := #[]
  cf := some (fileOf pool0 8 #[] #[{ accessFlags := 1, nameIndex := 5, descriptorIndex := 6, attributes := #[] }] 33 0 #[] #[])
  fields := #[]
  methods := #[k0m0]
  instanceTypes := #[]
  staticTypes := #[]
  resolved := Array.replicate 124 none
  statics := none }

def pool1 : Array CpInfo := pool [(2, .class_ 4), (1, u "java/lang/Object"), (0, u "<init>"), (0, u "()V"), (0, .methodref 8 9), (0, .class_ 10), (0, .nameAndType 11 12), (0, u "com/example/twinrail/twinrail/Dictionary"), (0, u "isSeparator"), (0, u "(I)Z"), (0, .methodref 14 15), (0, .class_ 16), (0, .nameAndType 17 12), (0, u "com/example/twinrail/twinrail/DictionaryIsSeparatorPinLaw"), (0, u "isAsciiWhitespace"), (3, u "law"), (0, u "(II)Z")] 2

def k1m0 : Method := { name := "<init>", desc := "()V", sig := { parameters := [], returnType := none }, accessFlags := 1, code := none }
def k1c1 : Code := { maxStack := 2, maxLocals := 1, code := method_2_code, exceptionTable := #[], attributes := #[] }
def k1m1 : Method := { name := "isAsciiWhitespace", desc := "(I)Z", sig := { parameters := [.int], returnType := some .boolean }, accessFlags := 10, code := some k1c1 }
def k1c2 : Code := { maxStack := 2, maxLocals := 6, code := code, exceptionTable := #[], attributes := #[] }
def k1m2 : Method := { name := "law", desc := "(II)Z", sig := { parameters := [.int, .int], returnType := some .boolean }, accessFlags := 9, code := some k1c2 }
/-- com/example/twinrail/twinrail/DictionaryIsSeparatorPinLaw -/
def k1 : Class := { plain "com/example/twinrail/twinrail/DictionaryIsSeparatorPinLaw" (some 0) with
  accessFlags := 49
  interfaces := #[]
  cf := some (fileOf pool1 14 #[] #[{ accessFlags := 1, nameIndex := 5, descriptorIndex := 6, attributes := #[] }, { accessFlags := 10, nameIndex := 17, descriptorIndex := 12, attributes := #[] }, { accessFlags := 9, nameIndex := 21, descriptorIndex := 22, attributes := #[] }] 49 2 #[] #[])
  fields := #[]
  methods := #[k1m0, k1m1, k1m2]
  instanceTypes := #[]
  staticTypes := #[]
  resolved := Array.replicate 25 none
  statics := none }

def pool2 : Array CpInfo := pool [(2, .class_ 4), (1, u "java/lang/Object"), (3, .class_ 10), (1, u "com/example/twinrail/twinrail/Dictionary"), (0, u "trie"), (0, u "Lcom/example/twinrail/twinrail/DoubleArray;"), (4, u "alphabet"), (3, u "Lcom/example/twinrail/twinrail/Alphabet;"), (2, u "terminal"), (0, u "[J"), (8, u "links"), (0, u "Lcom/example/twinrail/twinrail/SuffixLinks;"), (2, u "keyRanks"), (0, u "[I"), (12, u "keyCount"), (0, u "I"), (2, u "nodeCount"), (74, u "isSeparator"), (0, u "(I)Z"), (58, u "ROOT"), (2, u "FREE")] 51

def k2c0 : Code := { maxStack := 2, maxLocals := 1, code := prog_8_method_11_code, exceptionTable := #[], attributes := #[] }
def k2m0 : Method := { name := "isSeparator", desc := "(I)Z", sig := { parameters := [.int], returnType := some .boolean }, accessFlags := 8, code := some k2c0 }
/-- com/example/twinrail/twinrail/Dictionary -/
def k2 : Class := { plain "com/example/twinrail/twinrail/Dictionary" (some 0) with
  accessFlags := 49
  interfaces := #[]
  cf := some (fileOf pool2 8 #[] #[{ accessFlags := 8, nameIndex := 131, descriptorIndex := 132, attributes := #[] }] 49 2 #[] #[{ accessFlags := 24, nameIndex := 191, descriptorIndex := 53, attributes := #[] }, { accessFlags := 24, nameIndex := 194, descriptorIndex := 53, attributes := #[] }, { accessFlags := 18, nameIndex := 11, descriptorIndex := 12, attributes := #[] }, { accessFlags := 18, nameIndex := 17, descriptorIndex := 21, attributes := #[] }, { accessFlags := 18, nameIndex := 24, descriptorIndex := 25, attributes := #[] }, { accessFlags := 18, nameIndex := 38, descriptorIndex := 39, attributes := #[] }, { accessFlags := 18, nameIndex := 34, descriptorIndex := 35, attributes := #[] }, { accessFlags := 18, nameIndex := 52, descriptorIndex := 53, attributes := #[] }, { accessFlags := 18, nameIndex := 56, descriptorIndex := 53, attributes := #[] }])
  fields := #[{ name := "ROOT", type := .int, accessFlags := 24, slot := 0, constantValue := 0 }, { name := "FREE", type := .int, accessFlags := 24, slot := 1, constantValue := 0 }, { name := "trie", type := (.object "com/example/twinrail/twinrail/DoubleArray"), accessFlags := 18, slot := 0, constantValue := 0 }, { name := "alphabet", type := (.object "com/example/twinrail/twinrail/Alphabet"), accessFlags := 18, slot := 1, constantValue := 0 }, { name := "terminal", type := (.array .long), accessFlags := 18, slot := 2, constantValue := 0 }, { name := "keyRanks", type := (.array .int), accessFlags := 18, slot := 3, constantValue := 0 }, { name := "links", type := (.object "com/example/twinrail/twinrail/SuffixLinks"), accessFlags := 18, slot := 4, constantValue := 0 }, { name := "keyCount", type := .int, accessFlags := 18, slot := 5, constantValue := 0 }, { name := "nodeCount", type := .int, accessFlags := 18, slot := 6, constantValue := 0 }]
  methods := #[k2m0]
  instanceTypes := #[(.object "com/example/twinrail/twinrail/DoubleArray"), (.object "com/example/twinrail/twinrail/Alphabet"), (.array .long), (.array .int), (.object "com/example/twinrail/twinrail/SuffixLinks"), .int, .int]
  staticTypes := #[.int, .int]
  resolved := Array.replicate 246 none
  statics := none }

def pool3 : Array CpInfo := pool [(1, u "java/lang/Cloneable"), (0, .class_ 1), (0, u "java/lang/Object"), (0, .class_ 3)] 3

/-- java/lang/Cloneable -/
def k3 : Class := { plain "java/lang/Cloneable" (some 0) with
  accessFlags := 1537
  interfaces := #[]
  cf := some (fileOf pool3 2 #[] #[] 1537 4 #[] #[])
  fields := #[]
  methods := #[]
  instanceTypes := #[]
  staticTypes := #[]
  resolved := Array.replicate 8 none
  statics := none }

def pool4 : Array CpInfo := pool [(1, u "java/io/Serializable"), (0, .class_ 1), (0, u "java/lang/Object"), (0, .class_ 3)] 3

/-- java/io/Serializable -/
def k4 : Class := { plain "java/io/Serializable" (some 0) with
  accessFlags := 1537
  interfaces := #[]
  cf := some (fileOf pool4 2 #[] #[] 1537 4 #[] #[])
  fields := #[]
  methods := #[]
  instanceTypes := #[]
  staticTypes := #[]
  resolved := Array.replicate 8 none
  statics := none }

/-- the primitive byte -/
def k5 : Class := { plain "byte" none with kind := .primitive 'B', accessFlags := 0x411 }
/-- [B -/
def k6 : Class := { plain "[B" (some 0) with kind := .array 5 .byte, interfaces := #[3, 4], accessFlags := 1041 }

/-- the primitive int -/
def k7 : Class := { plain "int" none with kind := .primitive 'I', accessFlags := 0x411 }
/-- [I -/
def k8 : Class := { plain "[I" (some 0) with kind := .array 7 .int, interfaces := #[3, 4], accessFlags := 1041 }

def heap : Heap := #[]
def classes : Array Class := #[k0, k1, k2, k3, k4, k5, k6, k7, k8]
def interned : List (Array UInt16 × Addr) := []
def slotsUsed : Nat := 0
def theMethod : MethodId := ⟨1, 2⟩
def args0 : Array Value := #[.int 10, .int 77]
def aboutOver (below : List Frame) : State where
  vm := { classes := classes, interned := interned.toArray }
  heap := heap
  slotsUsed := slotsUsed
  threads := #[{ frames := .invoking theMethod args0 :: below }]
def below0 : List Frame := [.native { method := ⟨0, 0⟩, args := #[] }]
def about1 : State := aboutOver below0
def p0 : Program := .bare "" "" ""
def e0 : Env := launch0.env 0 0 0
theorem w_frames : about1.frames = Frame.invoking theMethod args0 :: below0 := rfl
set_option maxRecDepth 65536 in
theorem w_args : argsFit about1.vm theMethod args0 = true := by decide +kernel
set_option maxRecDepth 65536 in
theorem w_heap : heapFits about1 = true := by decide +kernel
set_option maxRecDepth 65536 in
theorem w_runnable : about1.curStatus? = some .runnable := by decide +kernel
set_option maxRecDepth 65536 in
theorem w_alone : about1.alone = true := by decide +kernel
set_option maxRecDepth 65536 in
theorem w_named : about1.methodNamed? x = some theMethod := by decide +kernel
set_option maxRecDepth 65536 in
theorem w_hears : about1.hears theMethod below0 = true := by decide +kernel
set_option maxRecDepth 65536 in
theorem w_ripe : about1.ripe theMethod args0 below0 = true := by decide +kernel
theorem w_running : about1.status = .running := rfl
set_option maxRecDepth 65536 in
theorem w_room : about1.hasRoom e0.platform room_1 = true :=
  launch0.hasRoom_least _ room_1 (by decide +kernel) (by decide +kernel) (by decide +kernel) (by decide +kernel) (by decide +kernel) (by decide +kernel)
theorem allAtoms_all (ts : List Jvm.Cond) (a : Array Jvm.Value) (st : Jvm.State) : (allAtoms ts).before a st = ts.all (fun c => c.before a st) := by
  induction ts with
  | nil => rfl
  | cons c t ih =>
    show (Jvm.Cond.and c (allAtoms t)).before a st = _
    rw [Jvm.Cond.before_and, ih, List.all_cons]
def words1 : List Jvm.Cond := Jvm.Cond.code x code maxLocals ret :: tables_1
/-- a 'code' word, met by the world's own term for the bytes: nothing is compared byte by byte -/
theorem code_word {y : MethodName} {bytes : ByteArray} {mx : Nat} {rt : Option FieldType} {a : Array Value} {s : State} {m : MethodId} {meth : Method} {c : Code} (h1 : s.methodNamed? y = some m) (h2 : s.vm.method? m = some meth) (h3 : meth.code = some c) (h4 : c.code = bytes)
    (h5 : (c.maxLocals == mx && c.exceptionTable.isEmpty && decide (c.maxStack ≤ mostOperands) && decide (meth.sig.returnType = rt) && !meth.locks && decide (parseMethodDescriptor y.desc = some meth.sig)) = true) : (Jvm.Cond.code y bytes mx rt).before a s = true := by
  simp only [Bool.and_eq_true, beq_iff_eq, Bool.not_eq_true', decide_eq_true_eq] at h5
  obtain ⟨⟨⟨⟨⟨g1, g2⟩, g3⟩, g4⟩, g5⟩, g6⟩ := h5
  simp [Cond.before, Cond.holds, Cond.value, h1, h2, h3, h4, g1, g2, g3, g4, g5, g6]
def isCode : Jvm.Cond → Bool
  | .code _ _ _ _ => true
  | _ => false
theorem all_split {L : List Jvm.Cond} {P : Jvm.Cond → Bool} (h1 : L.all (fun c => isCode c || P c) = true) (h2 : ∀ c ∈ L.filter isCode, P c = true) : L.all P = true := by
  refine List.all_eq_true.mpr fun c hc => ?_
  have h := List.all_eq_true.mp h1 c hc
  rcases Bool.eq_false_or_eq_true (isCode c) with hi | hi
  · exact h2 c (List.mem_filter.mpr ⟨hc, hi⟩)
  · simpa [hi] using h
set_option maxRecDepth 65536 in
theorem w_c0 : (Jvm.Cond.code x code maxLocals ret).before args0 about1 = true := code_word (m := ⟨1, 2⟩) (meth := k1m2) (c := k1c2) (by decide +kernel) rfl rfl rfl (by decide +kernel)
set_option maxRecDepth 65536 in
theorem w_c1 : (Jvm.Cond.code ({ cls := "com/example/twinrail/twinrail/Dictionary", name := "isSeparator", desc := "(I)Z" } : Jvm.MethodName) prog_8_method_11_code (1 : Nat) (Option.some Jvm.ClassFile.FieldType.boolean)).before args0 about1 = true := code_word (m := ⟨2, 0⟩) (meth := k2m0) (c := k2c0) (by decide +kernel) rfl rfl rfl (by decide +kernel)
set_option maxRecDepth 65536 in
theorem w_c2 : (Jvm.Cond.code ({ cls := "com/example/twinrail/twinrail/DictionaryIsSeparatorPinLaw", name := "isAsciiWhitespace", desc := "(I)Z" } : Jvm.MethodName) method_2_code (1 : Nat) (Option.some Jvm.ClassFile.FieldType.boolean)).before args0 about1 = true := code_word (m := ⟨1, 1⟩) (meth := k1m1) (c := k1c1) (by decide +kernel) rfl rfl rfl (by decide +kernel)
def codes1 : List Jvm.Cond := [Jvm.Cond.code x code maxLocals ret, Jvm.Cond.code ({ cls := "com/example/twinrail/twinrail/Dictionary", name := "isSeparator", desc := "(I)Z" } : Jvm.MethodName) prog_8_method_11_code (1 : Nat) (Option.some Jvm.ClassFile.FieldType.boolean), Jvm.Cond.code ({ cls := "com/example/twinrail/twinrail/DictionaryIsSeparatorPinLaw", name := "isAsciiWhitespace", desc := "(I)Z" } : Jvm.MethodName) method_2_code (1 : Nat) (Option.some Jvm.ClassFile.FieldType.boolean)]
set_option maxRecDepth 65536 in
theorem codes_eq : words1.filter isCode = codes1 := rfl
theorem w_codes : ∀ c ∈ words1.filter isCode, c.before args0 about1 = true := by
  rw [codes_eq]
  intro c hc
  simp only [codes1, List.mem_cons, List.not_mem_nil, or_false] at hc
  rcases hc with rfl | rfl | rfl
  · exact w_c0
  · exact w_c1
  · exact w_c2
set_option maxRecDepth 65536 in
theorem w_t1 : words1.all (fun c => isCode c || c.before args0 about1) = true := by decide +kernel
theorem w_tables : (allAtoms (Jvm.Cond.code x code maxLocals ret :: tables_1)).before args0 about1 = true := by
  rw [allAtoms_all]
  show words1.all (fun c => c.before args0 about1) = true
  refine all_split ?_ w_codes
  rw [w_t1]
set_option maxRecDepth 65536 in
theorem w_case : (Jvm.Cond.and given_1 narrow_1).before args0 about1 = true := by decide +kernel
theorem w_applies : (headSpec (Jvm.Cond.code x code maxLocals ret :: tables_1) room_1).applies x e0.platform about1 = true :=
  (Spec.applies_iff w_frames).mpr ⟨w_running, w_runnable, w_alone, w_named, w_hears, w_ripe, w_room, w_tables⟩
theorem atStart : AtStart classFile x code maxLocals ret World_1 tables_1 room_1 Calls_1 rest_1 Pre_1 launch0 p0 e0 about1 theMethod args0 below0 :=
  ⟨lists_1, trivial, launch0.admits_env _ _ _, launch0.least_env, fairChoices_fair.cas, fairChoices_fair.clock, w_frames, w_args, w_heap, w_applies, trivial, trivial, w_case⟩
end start1
theorem witness_1 : WitnessClaimed_1 := ⟨start1.p0, start1.e0, start1.about1, start1.theMethod, start1.args0, start1.below0, start1.atStart⟩
end Jvm.Pilot.@@N@@
