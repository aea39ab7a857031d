import JvmDerived
import JvmDerived.Pilot.@@N@@Statement
import JvmDerived.Pilot.@@N@@Code
set_option linter.unusedVariables false
set_option linter.unusedSimpArgs false

namespace Jvm.RoadKit
open Sem ClassFile Op Lib Jvm.Stand Jvm.Free Jvm.LawKit
section New
variable {p : Program} {l : Launch} {e : Env} {R : Room} {s : State} {m : MethodId} {args : Array Value} {below : List Frame} {meth : Method} {c : Code} {T : State} {locs : List Loc} {cells slots : Nat}
theorem retI (X : Stand p l e R s m args below meth c T locs cells slots) (hx : p.tables.exec = Jvm.exec) {pc : Nat} {Ls : Array Slot} {z : Int32} {rest : List Value} (hret : meth.sig.returnType = some .int) (hd : decode c.code pc = .ok (.ireturn, 1)) {fs : List Frame}
    (hl : ∀ (f : JFrame) (acts : List Action), f.method = m → f.locked = none → f.entered = [] → (doReturn e (T.setTop f) acts (some (.int z))).1 = T.setFrames fs) : Steps p.tables e below (T.setTop (mkF m pc Ls (.int z :: rest))) (T.setFrames fs) :=
  retOut X hx hret rfl (Or.inl ⟨rfl, Or.inl rfl, z, rfl⟩) hd hl
theorem own_retL (X : Stand p l e R s m args below meth c T locs cells slots) (hx : p.tables.exec = Jvm.exec) {pc : Nat} {Ls : Array Slot} {z : Int64} {rest : List Value} (hret : meth.sig.returnType = some .long) (hd : decode c.code pc = .ok (.lreturn, 1)) {fs : List Frame}
    (hl : ∀ (f : JFrame) (acts : List Action), f.method = m → f.locked = none → f.entered = [] → (doReturn e (T.setTop f) acts (some (.long z))).1 = T.setFrames fs) : Steps p.tables e below (T.setTop (mkF m pc Ls (.long z :: rest))) (T.setFrames fs) :=
  retOut X hx hret rfl (Or.inr (Or.inl ⟨rfl, rfl, z, rfl⟩)) hd hl
theorem own_retA (X : Stand p l e R s m args below meth c T locs cells slots) (hx : p.tables.exec = Jvm.exec) {pc : Nat} {Ls : Array Slot} {w : Value} {t : FieldType} {rest : List Value} (hret : meth.sig.returnType = some t) (ht : t.isReference = true) (hw : w.isRef = true) (hd : decode c.code pc = .ok (.areturn, 1)) {fs : List Frame}
    (hl : ∀ (f : JFrame) (acts : List Action), f.method = m → f.locked = none → f.entered = [] → (doReturn e (T.setTop f) acts (some w)).1 = T.setFrames fs) : Steps p.tables e below (T.setTop (mkF m pc Ls (w :: rest))) (T.setFrames fs) :=
  retOut X hx hret (by cases t <;> first | (cases ht; done) | (cases w <;> first | rfl | cases hw)) (Or.inr (Or.inr (Or.inr (Or.inr ⟨rfl, ht, hw⟩)))) hd hl
theorem own_back {tb : Tables} {e : Env} {below : List Frame} {a b : State} {P : State → Outcome → Prop} (h : ∀ t, Steps tb e below b t → Steps tb e below a t) (k : ∃ t o, Steps tb e below b t ∧ P t o) : ∃ t o, Steps tb e below a t ∧ P t o := by
  obtain ⟨t, o, k1, k2⟩ := k
  exact ⟨t, o, h t k1, k2⟩
theorem own_sta_keep {Z : State} {h h' : Heap} {C n d : String} {v : Value} (F : Sta Z h C n d v) (K : Keep h h' []) : Sta Z h' C n d v := by
  obtain ⟨cf, i, k, f, st, cell, h1, h2, h3, h4, h5, r⟩ := F
  exact ⟨cf, i, k, f, st, cell, h1, h2, h3, h4, K.2.1 _ _ h5 nin0, r⟩
def ElA (Z : State) (h : Heap) (a : Addr) (ty : FieldType) (j : Int32) (v : Value) : Prop := ∃ c : Cell, Arr Z h a c ty ∧ ¬ (j < 0 ∨ c.slots.size ≤ j.toNatClampNeg) ∧ c.slots[j.toNatClampNeg]? = some v
theorem ElA.lt {Z : State} {h : Heap} {a : Addr} {ty : FieldType} {j : Int32} {v : Value} (F : ElA Z h a ty j v) : a < h.size := by obtain ⟨c, A, -⟩ := F; exact A.lt
theorem ElA.ext {Z : State} {h h' : Heap} {a : Addr} {ty : FieldType} {j : Int32} {v : Value} (F : ElA Z h a ty j v) (E : Ext h h') : ElA Z h' a ty j v := by obtain ⟨c, A, r⟩ := F; exact ⟨c, A.ext E, r⟩
theorem ElA.other {Z : State} {h h' : Heap} {a b : Addr} {ty : FieldType} {j : Int32} {v w : Value} {sl : Nat} (F : ElA Z h b ty j v) (W : Wr h h' a sl w) (q : b ≠ a) : ElA Z h' b ty j v := by obtain ⟨c, A, r⟩ := F; exact ⟨c, A.other W q, r⟩
theorem ElA.keep {Z : State} {h h' : Heap} {a : Addr} {ty : FieldType} {j : Int32} {v : Value} {ws : List Addr} (F : ElA Z h a ty j v) (K : Keep h h' ws) (q : a ∉ ws) : ElA Z h' a ty j v := by obtain ⟨c, A, r⟩ := F; exact ⟨c, ⟨K.2.1 a c A.1 q, A.2⟩, r⟩
theorem ElA.store {Z : State} {h h' : Heap} {a : Addr} {ty : FieldType} {j : Int32} {v : Value} {c : Cell} (A : Arr Z h a c ty) (hj : ¬ (j < 0 ∨ c.slots.size ≤ j.toNatClampNeg)) (W : Wr h h' a j.toNatClampNeg v) : ElA Z h' a ty j v :=
  ⟨_, A.same W, by rw [sz_set]; exact hj, get_hit hj rfl⟩
theorem own_same {P : Prop} (h : P) : P := h
theorem own_irr (x : Int32) : ¬ x < x := by rw [Int32.lt_iff_toInt_lt]; omega
theorem own_irrL (x : Int64) : ¬ x < x := by rw [Int64.lt_iff_toInt_lt]; omega
end New
end Jvm.RoadKit
namespace Jvm.Pilot.@@N@@
open Jvm Jvm.ClassFile Sem Op Lib Jvm.Free Jvm.Stand Jvm.LawKit Jvm.RoadKit Bundle Jvm.Pilot.@@N@@.Jvm.D

theorem d1_0 : decode method_2_code 0 = .ok (.iload_n 0, 1) := by decide +kernel
theorem d1_1 : decode method_2_code 1 = .ok (.sipush 128, 3) := by decide +kernel
theorem d1_4 : decode method_2_code 4 = .ok (.if_icmp .lt 6, 3) := by decide +kernel
theorem d1_7 : decode method_2_code 7 = .ok (.bipush 7, 2) := by decide +kernel
theorem d1_9 : decode method_2_code 9 = .ok (.ireturn, 1) := by decide +kernel
theorem d1_10 : decode method_2_code 10 = .ok (.iload_n 0, 1) := by decide +kernel
theorem d1_11 : decode method_2_code 11 = .ok (.bipush 64, 2) := by decide +kernel
theorem d1_13 : decode method_2_code 13 = .ok (.if_icmp .lt 6, 3) := by decide +kernel
theorem d1_16 : decode method_2_code 16 = .ok (.bipush 6, 2) := by decide +kernel
theorem d1_18 : decode method_2_code 18 = .ok (.ireturn, 1) := by decide +kernel
theorem d1_19 : decode method_2_code 19 = .ok (.iload_n 0, 1) := by decide +kernel
theorem d1_20 : decode method_2_code 20 = .ok (.bipush 32, 2) := by decide +kernel
theorem d1_22 : decode method_2_code 22 = .ok (.if_icmp .lt 5, 3) := by decide +kernel
theorem d1_25 : decode method_2_code 25 = .ok (.iconst 5, 1) := by decide +kernel
theorem d1_26 : decode method_2_code 26 = .ok (.ireturn, 1) := by decide +kernel
theorem d1_27 : decode method_2_code 27 = .ok (.iload_n 0, 1) := by decide +kernel
theorem d1_28 : decode method_2_code 28 = .ok (.bipush 16, 2) := by decide +kernel
theorem d1_30 : decode method_2_code 30 = .ok (.if_icmp .lt 5, 3) := by decide +kernel
theorem d1_33 : decode method_2_code 33 = .ok (.iconst 4, 1) := by decide +kernel
theorem d1_34 : decode method_2_code 34 = .ok (.ireturn, 1) := by decide +kernel
theorem d1_35 : decode method_2_code 35 = .ok (.iload_n 0, 1) := by decide +kernel
theorem d1_36 : decode method_2_code 36 = .ok (.bipush 8, 2) := by decide +kernel
theorem d1_38 : decode method_2_code 38 = .ok (.if_icmp .lt 5, 3) := by decide +kernel
theorem d1_41 : decode method_2_code 41 = .ok (.iconst 3, 1) := by decide +kernel
theorem d1_42 : decode method_2_code 42 = .ok (.ireturn, 1) := by decide +kernel
theorem d1_43 : decode method_2_code 43 = .ok (.iload_n 0, 1) := by decide +kernel
theorem d1_44 : decode method_2_code 44 = .ok (.iconst 4, 1) := by decide +kernel
theorem d1_45 : decode method_2_code 45 = .ok (.if_icmp .lt 5, 3) := by decide +kernel
theorem d1_48 : decode method_2_code 48 = .ok (.iconst 2, 1) := by decide +kernel
theorem d1_49 : decode method_2_code 49 = .ok (.ireturn, 1) := by decide +kernel
theorem d1_50 : decode method_2_code 50 = .ok (.iload_n 0, 1) := by decide +kernel
theorem d1_51 : decode method_2_code 51 = .ok (.iconst 2, 1) := by decide +kernel
theorem d1_52 : decode method_2_code 52 = .ok (.if_icmp .lt 5, 3) := by decide +kernel
theorem d1_55 : decode method_2_code 55 = .ok (.iconst 1, 1) := by decide +kernel
theorem d1_56 : decode method_2_code 56 = .ok (.ireturn, 1) := by decide +kernel
theorem d1_57 : decode method_2_code 57 = .ok (.iconst 0, 1) := by decide +kernel
theorem d1_58 : decode method_2_code 58 = .ok (.ireturn, 1) := by decide +kernel
theorem pn_1 : plainName "com/example/urial/urial/protocol/BackwardBitReaderFinishedPinLaw" = true := by first | (simp [plainName, overriddenIn]; done) | decide +kernel
theorem ef_1 (m : MethodId) (x0 : Int32) : entryFrame m #[(.int x0)] 1 = mkF m 0 #[.val (.int x0)] [] := by first | (simp [entryFrame, mkF, argsToLocals, Value.category]; done) | rfl
def f1 (p0 : Int32) : Int32 := (if p0 < (128 : Int32) then (if p0 < (64 : Int32) then (if p0 < (32 : Int32) then (if p0 < (16 : Int32) then (if p0 < (8 : Int32) then (if p0 < (4 : Int32) then (if p0 < (2 : Int32) then (0 : Int32) else (1 : Int32)) else (2 : Int32)) else (3 : Int32)) else (4 : Int32)) else (5 : Int32)) else (6 : Int32)) else (7 : Int32))
def Q1 (Z : State) (p0 : Int32) (h0 : Heap) (n0 : Nat) (v : Option Value) (h : Heap) (L : List Loc) : Prop := v = some (.int (f1 p0)) ∧ Fr n0 L ∧ h = h0
set_option maxRecDepth 65536 in
set_option maxHeartbeats 40000000 in
theorem rm1 (l : Launch) (Z : State) (aw : Array Value) (hw : ∀ d ∈ tables_1, d.before aw Z = true) (ws : List Jvm.Cond) (p0 : Int32) (h0 : Heap) (n0 : Nat) (Z0 : n0 ≤ h0.size) :
    MetFree l (⟨"com/example/urial/urial/protocol/BackwardBitReaderFinishedPinLaw", "highBit", "(I)I"⟩ : MethodName) (head1 (Jvm.Cond.code (⟨"com/example/urial/urial/protocol/BackwardBitReaderFinishedPinLaw", "highBit", "(I)I"⟩ : MethodName) method_2_code 1 (some .int) :: ws) ({ frames := 0, cells := 0, slots := 0, locals := 0 } : Room)) (fun a U => a = #[(.int p0)] ∧ Z.Warmed39 U.vm ∧ U.heap = h0) (fun _ _ _ _ _ => True) (fun _ U o U' => ∃ v L, o = .returned v ∧ Q1 Z p0 h0 n0 v U'.heap L ∧ FrameEnd U o U' L ({ frames := 0, cells := 0, slots := 0, locals := 0 } : Room).cells ({ frames := 0, cells := 0, slots := 0, locals := 0 } : Room).slots) := by
  refine MetFree.of_bodySF (plainFor_of_name pn_1) hisR ?_
  intro p e s m args below meth c s₁ Bd hml0 hP hK
  obtain ⟨rfl, hZ, hh⟩ := hP
  have hx := Bd.exec
  have hby := Bd.bytes
  have hml : c.maxLocals = 1 := hml0
  have hown : s.vm.findClass "com/example/urial/urial/protocol/BackwardBitReaderFinishedPinLaw" = some m.cls := findClass_of_methodNamed Bd.named
  have hnm := (name_of_methodNamed Bd.named Bd.method).1
  have X0 : Stand p l e ({ frames := 0, cells := 0, slots := 0, locals := 0 } : Room) s m #[(.int p0)] below meth c s₁ [] 0 0 := Stand.of_body Bd
  have e0 : s₁.heap = h0 := by rw [← hh, Bd.state]; rfl
  have N0 := Fr.nil n0
  refine own_back (b := s₁.setTop (mkF m 0 #[.val (.int p0)] [])) (fun t kt => castTop (ef_1 m p0) kt) ?_
  refine own_back (b := s₁.setTop (mkF m 4 #[.val (.int p0)] [(.int (128 : Int32)), (.int p0)])) (fun t kt => ?_) ?_
  · show Steps p.tables e below (s₁.setTop (mkF m 0 #[.val (.int p0)] [])) _
    refine XS.iloadN X0.here hx rfl (hb hby d1_0) rfl ?_
    show Steps p.tables e below (s₁.setTop (mkF m 1 #[.val (.int p0)] [(.int p0)])) _
    refine XS.sipush X0.here hx rfl (hb hby d1_1) ?_
    exact kt
  by_cases hc4_1 : p0 < (128 : Int32)
  · refine own_back (b := s₁.setTop (mkF m 13 #[.val (.int p0)] [(.int (64 : Int32)), (.int p0)])) (fun t kt => ?_) ?_
    · show Steps p.tables e below (s₁.setTop (mkF m 4 #[.val (.int p0)] [(.int (128 : Int32)), (.int p0)])) _
      refine XS.icmpYes X0.here hx rfl (pc0 := 4) (pc' := 10) rfl (hb hby d1_4) rfl (tlt hc4_1).1 (by decide) (by decide) ?_
      show Steps p.tables e below (s₁.setTop (mkF m 10 #[.val (.int p0)] [])) _
      refine XS.iloadN X0.here hx rfl (hb hby d1_10) rfl ?_
      show Steps p.tables e below (s₁.setTop (mkF m 11 #[.val (.int p0)] [(.int p0)])) _
      refine XS.bipush X0.here hx rfl (hb hby d1_11) ?_
      exact kt
    by_cases hc13_2 : p0 < (64 : Int32)
    · refine own_back (b := s₁.setTop (mkF m 22 #[.val (.int p0)] [(.int (32 : Int32)), (.int p0)])) (fun t kt => ?_) ?_
      · show Steps p.tables e below (s₁.setTop (mkF m 13 #[.val (.int p0)] [(.int (64 : Int32)), (.int p0)])) _
        refine XS.icmpYes X0.here hx rfl (pc0 := 13) (pc' := 19) rfl (hb hby d1_13) rfl (tlt hc13_2).1 (by decide) (by decide) ?_
        show Steps p.tables e below (s₁.setTop (mkF m 19 #[.val (.int p0)] [])) _
        refine XS.iloadN X0.here hx rfl (hb hby d1_19) rfl ?_
        show Steps p.tables e below (s₁.setTop (mkF m 20 #[.val (.int p0)] [(.int p0)])) _
        refine XS.bipush X0.here hx rfl (hb hby d1_20) ?_
        exact kt
      by_cases hc22_3 : p0 < (32 : Int32)
      · refine own_back (b := s₁.setTop (mkF m 30 #[.val (.int p0)] [(.int (16 : Int32)), (.int p0)])) (fun t kt => ?_) ?_
        · show Steps p.tables e below (s₁.setTop (mkF m 22 #[.val (.int p0)] [(.int (32 : Int32)), (.int p0)])) _
          refine XS.icmpYes X0.here hx rfl (pc0 := 22) (pc' := 27) rfl (hb hby d1_22) rfl (tlt hc22_3).1 (by decide) (by decide) ?_
          show Steps p.tables e below (s₁.setTop (mkF m 27 #[.val (.int p0)] [])) _
          refine XS.iloadN X0.here hx rfl (hb hby d1_27) rfl ?_
          show Steps p.tables e below (s₁.setTop (mkF m 28 #[.val (.int p0)] [(.int p0)])) _
          refine XS.bipush X0.here hx rfl (hb hby d1_28) ?_
          exact kt
        by_cases hc30_4 : p0 < (16 : Int32)
        · refine own_back (b := s₁.setTop (mkF m 38 #[.val (.int p0)] [(.int (8 : Int32)), (.int p0)])) (fun t kt => ?_) ?_
          · show Steps p.tables e below (s₁.setTop (mkF m 30 #[.val (.int p0)] [(.int (16 : Int32)), (.int p0)])) _
            refine XS.icmpYes X0.here hx rfl (pc0 := 30) (pc' := 35) rfl (hb hby d1_30) rfl (tlt hc30_4).1 (by decide) (by decide) ?_
            show Steps p.tables e below (s₁.setTop (mkF m 35 #[.val (.int p0)] [])) _
            refine XS.iloadN X0.here hx rfl (hb hby d1_35) rfl ?_
            show Steps p.tables e below (s₁.setTop (mkF m 36 #[.val (.int p0)] [(.int p0)])) _
            refine XS.bipush X0.here hx rfl (hb hby d1_36) ?_
            exact kt
          by_cases hc38_5 : p0 < (8 : Int32)
          · refine own_back (b := s₁.setTop (mkF m 45 #[.val (.int p0)] [(.int (4 : Int32)), (.int p0)])) (fun t kt => ?_) ?_
            · show Steps p.tables e below (s₁.setTop (mkF m 38 #[.val (.int p0)] [(.int (8 : Int32)), (.int p0)])) _
              refine XS.icmpYes X0.here hx rfl (pc0 := 38) (pc' := 43) rfl (hb hby d1_38) rfl (tlt hc38_5).1 (by decide) (by decide) ?_
              show Steps p.tables e below (s₁.setTop (mkF m 43 #[.val (.int p0)] [])) _
              refine XS.iloadN X0.here hx rfl (hb hby d1_43) rfl ?_
              show Steps p.tables e below (s₁.setTop (mkF m 44 #[.val (.int p0)] [(.int p0)])) _
              refine XS.iconst X0.here hx rfl (hb hby d1_44) ?_
              exact kt
            by_cases hc45_6 : p0 < (4 : Int32)
            · refine own_back (b := s₁.setTop (mkF m 52 #[.val (.int p0)] [(.int (2 : Int32)), (.int p0)])) (fun t kt => ?_) ?_
              · show Steps p.tables e below (s₁.setTop (mkF m 45 #[.val (.int p0)] [(.int (4 : Int32)), (.int p0)])) _
                refine XS.icmpYes X0.here hx rfl (pc0 := 45) (pc' := 50) rfl (hb hby d1_45) rfl (tlt hc45_6).1 (by decide) (by decide) ?_
                show Steps p.tables e below (s₁.setTop (mkF m 50 #[.val (.int p0)] [])) _
                refine XS.iloadN X0.here hx rfl (hb hby d1_50) rfl ?_
                show Steps p.tables e below (s₁.setTop (mkF m 51 #[.val (.int p0)] [(.int p0)])) _
                refine XS.iconst X0.here hx rfl (hb hby d1_51) ?_
                exact kt
              by_cases hc52_7 : p0 < (2 : Int32)
              · refine own_back (b := s₁.setTop (mkF m 58 #[.val (.int p0)] [(.int (0 : Int32))])) (fun t kt => ?_) ?_
                · show Steps p.tables e below (s₁.setTop (mkF m 52 #[.val (.int p0)] [(.int (2 : Int32)), (.int p0)])) _
                  refine XS.icmpYes X0.here hx rfl (pc0 := 52) (pc' := 57) rfl (hb hby d1_52) rfl (tlt hc52_7).1 (by decide) (by decide) ?_
                  show Steps p.tables e below (s₁.setTop (mkF m 57 #[.val (.int p0)] [])) _
                  refine XS.iconst X0.here hx rfl (hb hby d1_57) ?_
                  exact kt
                obtain ⟨fs, hr, hrun, hended, hW, hsame⟩ := X0.leave (v := some (.int (0 : Int32))) (fun h => by rw [Bd.returns] at h; cases h) (BodyLoose.notSynchronized Bd)
                refine ⟨_, _, ?_, hrun, hended, _, _, rfl, ?_, ⟨_, rfl⟩, hW, hsame.mono (by decide) (by decide)⟩
                · show Steps p.tables e below (s₁.setTop (mkF m 58 #[.val (.int p0)] [(.int (0 : Int32))])) _
                  exact retI X0 hx Bd.returns (hb hby d1_58) hr
                · show Q1 Z p0 h0 n0 _ s₁.heap _
                  rw [e0]
                  exact ⟨by rw [show f1 p0 = (0 : Int32) from by unfold f1; rw [if_pos hc4_1, if_pos hc13_2, if_pos hc22_3, if_pos hc30_4, if_pos hc38_5, if_pos hc45_6, if_pos hc52_7]], N0, rfl⟩
              · refine own_back (b := s₁.setTop (mkF m 56 #[.val (.int p0)] [(.int (1 : Int32))])) (fun t kt => ?_) ?_
                · show Steps p.tables e below (s₁.setTop (mkF m 52 #[.val (.int p0)] [(.int (2 : Int32)), (.int p0)])) _
                  refine XS.icmpNo X0.here hx rfl (hb hby d1_52) rfl (flt hc52_7).1 ?_
                  show Steps p.tables e below (s₁.setTop (mkF m 55 #[.val (.int p0)] [])) _
                  refine XS.iconst X0.here hx rfl (hb hby d1_55) ?_
                  exact kt
                obtain ⟨fs, hr, hrun, hended, hW, hsame⟩ := X0.leave (v := some (.int (1 : Int32))) (fun h => by rw [Bd.returns] at h; cases h) (BodyLoose.notSynchronized Bd)
                refine ⟨_, _, ?_, hrun, hended, _, _, rfl, ?_, ⟨_, rfl⟩, hW, hsame.mono (by decide) (by decide)⟩
                · show Steps p.tables e below (s₁.setTop (mkF m 56 #[.val (.int p0)] [(.int (1 : Int32))])) _
                  exact retI X0 hx Bd.returns (hb hby d1_56) hr
                · show Q1 Z p0 h0 n0 _ s₁.heap _
                  rw [e0]
                  exact ⟨by rw [show f1 p0 = (1 : Int32) from by unfold f1; rw [if_pos hc4_1, if_pos hc13_2, if_pos hc22_3, if_pos hc30_4, if_pos hc38_5, if_pos hc45_6, if_neg hc52_7]], N0, rfl⟩
            · refine own_back (b := s₁.setTop (mkF m 49 #[.val (.int p0)] [(.int (2 : Int32))])) (fun t kt => ?_) ?_
              · show Steps p.tables e below (s₁.setTop (mkF m 45 #[.val (.int p0)] [(.int (4 : Int32)), (.int p0)])) _
                refine XS.icmpNo X0.here hx rfl (hb hby d1_45) rfl (flt hc45_6).1 ?_
                show Steps p.tables e below (s₁.setTop (mkF m 48 #[.val (.int p0)] [])) _
                refine XS.iconst X0.here hx rfl (hb hby d1_48) ?_
                exact kt
              obtain ⟨fs, hr, hrun, hended, hW, hsame⟩ := X0.leave (v := some (.int (2 : Int32))) (fun h => by rw [Bd.returns] at h; cases h) (BodyLoose.notSynchronized Bd)
              refine ⟨_, _, ?_, hrun, hended, _, _, rfl, ?_, ⟨_, rfl⟩, hW, hsame.mono (by decide) (by decide)⟩
              · show Steps p.tables e below (s₁.setTop (mkF m 49 #[.val (.int p0)] [(.int (2 : Int32))])) _
                exact retI X0 hx Bd.returns (hb hby d1_49) hr
              · show Q1 Z p0 h0 n0 _ s₁.heap _
                rw [e0]
                exact ⟨by rw [show f1 p0 = (2 : Int32) from by unfold f1; rw [if_pos hc4_1, if_pos hc13_2, if_pos hc22_3, if_pos hc30_4, if_pos hc38_5, if_neg hc45_6]], N0, rfl⟩
          · refine own_back (b := s₁.setTop (mkF m 42 #[.val (.int p0)] [(.int (3 : Int32))])) (fun t kt => ?_) ?_
            · show Steps p.tables e below (s₁.setTop (mkF m 38 #[.val (.int p0)] [(.int (8 : Int32)), (.int p0)])) _
              refine XS.icmpNo X0.here hx rfl (hb hby d1_38) rfl (flt hc38_5).1 ?_
              show Steps p.tables e below (s₁.setTop (mkF m 41 #[.val (.int p0)] [])) _
              refine XS.iconst X0.here hx rfl (hb hby d1_41) ?_
              exact kt
            obtain ⟨fs, hr, hrun, hended, hW, hsame⟩ := X0.leave (v := some (.int (3 : Int32))) (fun h => by rw [Bd.returns] at h; cases h) (BodyLoose.notSynchronized Bd)
            refine ⟨_, _, ?_, hrun, hended, _, _, rfl, ?_, ⟨_, rfl⟩, hW, hsame.mono (by decide) (by decide)⟩
            · show Steps p.tables e below (s₁.setTop (mkF m 42 #[.val (.int p0)] [(.int (3 : Int32))])) _
              exact retI X0 hx Bd.returns (hb hby d1_42) hr
            · show Q1 Z p0 h0 n0 _ s₁.heap _
              rw [e0]
              exact ⟨by rw [show f1 p0 = (3 : Int32) from by unfold f1; rw [if_pos hc4_1, if_pos hc13_2, if_pos hc22_3, if_pos hc30_4, if_neg hc38_5]], N0, rfl⟩
        · refine own_back (b := s₁.setTop (mkF m 34 #[.val (.int p0)] [(.int (4 : Int32))])) (fun t kt => ?_) ?_
          · show Steps p.tables e below (s₁.setTop (mkF m 30 #[.val (.int p0)] [(.int (16 : Int32)), (.int p0)])) _
            refine XS.icmpNo X0.here hx rfl (hb hby d1_30) rfl (flt hc30_4).1 ?_
            show Steps p.tables e below (s₁.setTop (mkF m 33 #[.val (.int p0)] [])) _
            refine XS.iconst X0.here hx rfl (hb hby d1_33) ?_
            exact kt
          obtain ⟨fs, hr, hrun, hended, hW, hsame⟩ := X0.leave (v := some (.int (4 : Int32))) (fun h => by rw [Bd.returns] at h; cases h) (BodyLoose.notSynchronized Bd)
          refine ⟨_, _, ?_, hrun, hended, _, _, rfl, ?_, ⟨_, rfl⟩, hW, hsame.mono (by decide) (by decide)⟩
          · show Steps p.tables e below (s₁.setTop (mkF m 34 #[.val (.int p0)] [(.int (4 : Int32))])) _
            exact retI X0 hx Bd.returns (hb hby d1_34) hr
          · show Q1 Z p0 h0 n0 _ s₁.heap _
            rw [e0]
            exact ⟨by rw [show f1 p0 = (4 : Int32) from by unfold f1; rw [if_pos hc4_1, if_pos hc13_2, if_pos hc22_3, if_neg hc30_4]], N0, rfl⟩
      · refine own_back (b := s₁.setTop (mkF m 26 #[.val (.int p0)] [(.int (5 : Int32))])) (fun t kt => ?_) ?_
        · show Steps p.tables e below (s₁.setTop (mkF m 22 #[.val (.int p0)] [(.int (32 : Int32)), (.int p0)])) _
          refine XS.icmpNo X0.here hx rfl (hb hby d1_22) rfl (flt hc22_3).1 ?_
          show Steps p.tables e below (s₁.setTop (mkF m 25 #[.val (.int p0)] [])) _
          refine XS.iconst X0.here hx rfl (hb hby d1_25) ?_
          exact kt
        obtain ⟨fs, hr, hrun, hended, hW, hsame⟩ := X0.leave (v := some (.int (5 : Int32))) (fun h => by rw [Bd.returns] at h; cases h) (BodyLoose.notSynchronized Bd)
        refine ⟨_, _, ?_, hrun, hended, _, _, rfl, ?_, ⟨_, rfl⟩, hW, hsame.mono (by decide) (by decide)⟩
        · show Steps p.tables e below (s₁.setTop (mkF m 26 #[.val (.int p0)] [(.int (5 : Int32))])) _
          exact retI X0 hx Bd.returns (hb hby d1_26) hr
        · show Q1 Z p0 h0 n0 _ s₁.heap _
          rw [e0]
          exact ⟨by rw [show f1 p0 = (5 : Int32) from by unfold f1; rw [if_pos hc4_1, if_pos hc13_2, if_neg hc22_3]], N0, rfl⟩
    · refine own_back (b := s₁.setTop (mkF m 18 #[.val (.int p0)] [(.int (6 : Int32))])) (fun t kt => ?_) ?_
      · show Steps p.tables e below (s₁.setTop (mkF m 13 #[.val (.int p0)] [(.int (64 : Int32)), (.int p0)])) _
        refine XS.icmpNo X0.here hx rfl (hb hby d1_13) rfl (flt hc13_2).1 ?_
        show Steps p.tables e below (s₁.setTop (mkF m 16 #[.val (.int p0)] [])) _
        refine XS.bipush X0.here hx rfl (hb hby d1_16) ?_
        exact kt
      obtain ⟨fs, hr, hrun, hended, hW, hsame⟩ := X0.leave (v := some (.int (6 : Int32))) (fun h => by rw [Bd.returns] at h; cases h) (BodyLoose.notSynchronized Bd)
      refine ⟨_, _, ?_, hrun, hended, _, _, rfl, ?_, ⟨_, rfl⟩, hW, hsame.mono (by decide) (by decide)⟩
      · show Steps p.tables e below (s₁.setTop (mkF m 18 #[.val (.int p0)] [(.int (6 : Int32))])) _
        exact retI X0 hx Bd.returns (hb hby d1_18) hr
      · show Q1 Z p0 h0 n0 _ s₁.heap _
        rw [e0]
        exact ⟨by rw [show f1 p0 = (6 : Int32) from by unfold f1; rw [if_pos hc4_1, if_neg hc13_2]], N0, rfl⟩
  · refine own_back (b := s₁.setTop (mkF m 9 #[.val (.int p0)] [(.int (7 : Int32))])) (fun t kt => ?_) ?_
    · show Steps p.tables e below (s₁.setTop (mkF m 4 #[.val (.int p0)] [(.int (128 : Int32)), (.int p0)])) _
      refine XS.icmpNo X0.here hx rfl (hb hby d1_4) rfl (flt hc4_1).1 ?_
      show Steps p.tables e below (s₁.setTop (mkF m 7 #[.val (.int p0)] [])) _
      refine XS.bipush X0.here hx rfl (hb hby d1_7) ?_
      exact kt
    obtain ⟨fs, hr, hrun, hended, hW, hsame⟩ := X0.leave (v := some (.int (7 : Int32))) (fun h => by rw [Bd.returns] at h; cases h) (BodyLoose.notSynchronized Bd)
    refine ⟨_, _, ?_, hrun, hended, _, _, rfl, ?_, ⟨_, rfl⟩, hW, hsame.mono (by decide) (by decide)⟩
    · show Steps p.tables e below (s₁.setTop (mkF m 9 #[.val (.int p0)] [(.int (7 : Int32))])) _
      exact retI X0 hx Bd.returns (hb hby d1_9) hr
    · show Q1 Z p0 h0 n0 _ s₁.heap _
      rw [e0]
      exact ⟨by rw [show f1 p0 = (7 : Int32) from by unfold f1; rw [if_neg hc4_1]], N0, rfl⟩
theorem d4_0 : decode jdk_33_method_47_code 0 = .ok (.iload_n 0, 1) := by decide +kernel
theorem d4_1 : decode jdk_33_method_47_code 1 = .ok (.ifCond .gt 14, 3) := by decide +kernel
theorem d4_4 : decode jdk_33_method_47_code 4 = .ok (.iload_n 0, 1) := by decide +kernel
theorem d4_5 : decode jdk_33_method_47_code 5 = .ok (.ifCond .ne 8, 3) := by decide +kernel
theorem d4_8 : decode jdk_33_method_47_code 8 = .ok (.bipush 32, 2) := by decide +kernel
theorem d4_10 : decode jdk_33_method_47_code 10 = .ok (.goto 4, 3) := by decide +kernel
theorem d4_13 : decode jdk_33_method_47_code 13 = .ok (.iconst 0, 1) := by decide +kernel
theorem d4_14 : decode jdk_33_method_47_code 14 = .ok (.ireturn, 1) := by decide +kernel
theorem d4_15 : decode jdk_33_method_47_code 15 = .ok (.bipush 31, 2) := by decide +kernel
theorem d4_17 : decode jdk_33_method_47_code 17 = .ok (.istore_n 1, 1) := by decide +kernel
theorem d4_18 : decode jdk_33_method_47_code 18 = .ok (.iload_n 0, 1) := by decide +kernel
theorem d4_19 : decode jdk_33_method_47_code 19 = .ok (.ldc_w 264, 3) := by decide +kernel
theorem d4_22 : decode jdk_33_method_47_code 22 = .ok (.if_icmp .lt 11, 3) := by decide +kernel
theorem d4_25 : decode jdk_33_method_47_code 25 = .ok (.iinc 1 (-16), 3) := by decide +kernel
theorem d4_28 : decode jdk_33_method_47_code 28 = .ok (.iload_n 0, 1) := by decide +kernel
theorem d4_29 : decode jdk_33_method_47_code 29 = .ok (.bipush 16, 2) := by decide +kernel
theorem d4_31 : decode jdk_33_method_47_code 31 = .ok (.iushr, 1) := by decide +kernel
theorem d4_32 : decode jdk_33_method_47_code 32 = .ok (.istore_n 0, 1) := by decide +kernel
theorem d4_33 : decode jdk_33_method_47_code 33 = .ok (.iload_n 0, 1) := by decide +kernel
theorem d4_34 : decode jdk_33_method_47_code 34 = .ok (.sipush 256, 3) := by decide +kernel
theorem d4_37 : decode jdk_33_method_47_code 37 = .ok (.if_icmp .lt 11, 3) := by decide +kernel
theorem d4_40 : decode jdk_33_method_47_code 40 = .ok (.iinc 1 (-8), 3) := by decide +kernel
theorem d4_43 : decode jdk_33_method_47_code 43 = .ok (.iload_n 0, 1) := by decide +kernel
theorem d4_44 : decode jdk_33_method_47_code 44 = .ok (.bipush 8, 2) := by decide +kernel
theorem d4_46 : decode jdk_33_method_47_code 46 = .ok (.iushr, 1) := by decide +kernel
theorem d4_47 : decode jdk_33_method_47_code 47 = .ok (.istore_n 0, 1) := by decide +kernel
theorem d4_48 : decode jdk_33_method_47_code 48 = .ok (.iload_n 0, 1) := by decide +kernel
theorem d4_49 : decode jdk_33_method_47_code 49 = .ok (.bipush 16, 2) := by decide +kernel
theorem d4_51 : decode jdk_33_method_47_code 51 = .ok (.if_icmp .lt 10, 3) := by decide +kernel
theorem d4_54 : decode jdk_33_method_47_code 54 = .ok (.iinc 1 (-4), 3) := by decide +kernel
theorem d4_57 : decode jdk_33_method_47_code 57 = .ok (.iload_n 0, 1) := by decide +kernel
theorem d4_58 : decode jdk_33_method_47_code 58 = .ok (.iconst 4, 1) := by decide +kernel
theorem d4_59 : decode jdk_33_method_47_code 59 = .ok (.iushr, 1) := by decide +kernel
theorem d4_60 : decode jdk_33_method_47_code 60 = .ok (.istore_n 0, 1) := by decide +kernel
theorem d4_61 : decode jdk_33_method_47_code 61 = .ok (.iload_n 0, 1) := by decide +kernel
theorem d4_62 : decode jdk_33_method_47_code 62 = .ok (.iconst 4, 1) := by decide +kernel
theorem d4_63 : decode jdk_33_method_47_code 63 = .ok (.if_icmp .lt 10, 3) := by decide +kernel
theorem d4_66 : decode jdk_33_method_47_code 66 = .ok (.iinc 1 (-2), 3) := by decide +kernel
theorem d4_69 : decode jdk_33_method_47_code 69 = .ok (.iload_n 0, 1) := by decide +kernel
theorem d4_70 : decode jdk_33_method_47_code 70 = .ok (.iconst 2, 1) := by decide +kernel
theorem d4_71 : decode jdk_33_method_47_code 71 = .ok (.iushr, 1) := by decide +kernel
theorem d4_72 : decode jdk_33_method_47_code 72 = .ok (.istore_n 0, 1) := by decide +kernel
theorem d4_73 : decode jdk_33_method_47_code 73 = .ok (.iload_n 1, 1) := by decide +kernel
theorem d4_74 : decode jdk_33_method_47_code 74 = .ok (.iload_n 0, 1) := by decide +kernel
theorem d4_75 : decode jdk_33_method_47_code 75 = .ok (.iconst 1, 1) := by decide +kernel
theorem d4_76 : decode jdk_33_method_47_code 76 = .ok (.iushr, 1) := by decide +kernel
theorem d4_77 : decode jdk_33_method_47_code 77 = .ok (.isub, 1) := by decide +kernel
theorem d4_78 : decode jdk_33_method_47_code 78 = .ok (.ireturn, 1) := by decide +kernel
theorem pn_4 : plainName "java/lang/Integer" = true := by first | (simp [plainName, overriddenIn]; done) | decide +kernel
theorem ef_4 (m : MethodId) (x0 : Int32) : entryFrame m #[(.int x0)] 2 = mkF m 0 #[.val (.int x0), .unset] [] := by first | (simp [entryFrame, mkF, argsToLocals, Value.category]; done) | rfl
def m4_0 (p0 : Int32) : Int32 := (if p0 < (65536 : Int32) then p0 else ((p0.toUInt32 >>> ((16 : Int32) &&& 31).toUInt32).toInt32))
def m4_1 (p0 : Int32) : Int32 := (if p0 < (65536 : Int32) then (31 : Int32) else ((31 : Int32) + (-16 : Int32)))
def m4_2 (p0 : Int32) : Int32 := (if (m4_0 p0) < (256 : Int32) then (m4_0 p0) else (((m4_0 p0).toUInt32 >>> ((8 : Int32) &&& 31).toUInt32).toInt32))
def m4_3 (p0 : Int32) : Int32 := (if (m4_0 p0) < (256 : Int32) then (m4_1 p0) else ((m4_1 p0) + (-8 : Int32)))
def m4_4 (p0 : Int32) : Int32 := (if (m4_2 p0) < (16 : Int32) then (m4_2 p0) else (((m4_2 p0).toUInt32 >>> ((4 : Int32) &&& 31).toUInt32).toInt32))
def m4_5 (p0 : Int32) : Int32 := (if (m4_2 p0) < (16 : Int32) then (m4_3 p0) else ((m4_3 p0) + (-4 : Int32)))
def m4_6 (p0 : Int32) : Int32 := (if (m4_4 p0) < (4 : Int32) then (m4_4 p0) else (((m4_4 p0).toUInt32 >>> ((2 : Int32) &&& 31).toUInt32).toInt32))
def m4_7 (p0 : Int32) : Int32 := (if (m4_4 p0) < (4 : Int32) then (m4_5 p0) else ((m4_5 p0) + (-2 : Int32)))
def f4 (p0 : Int32) : Int32 := (if (0 : Int32) < p0 then ((m4_7 p0) - (((m4_6 p0).toUInt32 >>> ((1 : Int32) &&& 31).toUInt32).toInt32)) else (if p0 = (0 : Int32) then (32 : Int32) else (0 : Int32)))
def Q4 (Z : State) (p0 : Int32) (h0 : Heap) (n0 : Nat) (v : Option Value) (h : Heap) (L : List Loc) : Prop := v = some (.int (f4 p0)) ∧ Fr n0 L ∧ h = h0
set_option maxRecDepth 65536 in
set_option maxHeartbeats 40000000 in
theorem rm4 (l : Launch) (Z : State) (aw : Array Value) (hw : ∀ d ∈ tables_1, d.before aw Z = true) (ws : List Jvm.Cond) (p0 : Int32) (h0 : Heap) (n0 : Nat) (Z0 : n0 ≤ h0.size) :
    MetFree l (⟨"java/lang/Integer", "numberOfLeadingZeros", "(I)I"⟩ : MethodName) (head1 (Jvm.Cond.code (⟨"java/lang/Integer", "numberOfLeadingZeros", "(I)I"⟩ : MethodName) jdk_33_method_47_code 2 (some .int) :: ws) ({ frames := 0, cells := 0, slots := 0, locals := 0 } : Room)) (fun a U => a = #[(.int p0)] ∧ Z.Warmed39 U.vm ∧ U.heap = h0) (fun _ _ _ _ _ => True) (fun _ U o U' => ∃ v L, o = .returned v ∧ Q4 Z p0 h0 n0 v U'.heap L ∧ FrameEnd U o U' L ({ frames := 0, cells := 0, slots := 0, locals := 0 } : Room).cells ({ frames := 0, cells := 0, slots := 0, locals := 0 } : Room).slots) := by
  refine MetFree.of_bodySF (plainFor_of_name pn_4) hisR ?_
  intro p e s m args below meth c s₁ Bd hml0 hP hK
  obtain ⟨rfl, hZ, hh⟩ := hP
  have hx := Bd.exec
  have hby := Bd.bytes
  have hml : c.maxLocals = 2 := hml0
  have hown : s.vm.findClass "java/lang/Integer" = some m.cls := findClass_of_methodNamed Bd.named
  have hnm := (name_of_methodNamed Bd.named Bd.method).1
  have X0 : Stand p l e ({ frames := 0, cells := 0, slots := 0, locals := 0 } : Room) s m #[(.int p0)] below meth c s₁ [] 0 0 := Stand.of_body Bd
  have e0 : s₁.heap = h0 := by rw [← hh, Bd.state]; rfl
  have N0 := Fr.nil n0
  refine own_back (b := s₁.setTop (mkF m 0 #[.val (.int p0), .unset] [])) (fun t kt => castTop (ef_4 m p0) kt) ?_
  refine own_back (b := s₁.setTop (mkF m 1 #[.val (.int p0), .unset] [(.int p0)])) (fun t kt => ?_) ?_
  · show Steps p.tables e below (s₁.setTop (mkF m 0 #[.val (.int p0), .unset] [])) _
    refine XS.iloadN X0.here hx rfl (hb hby d4_0) rfl ?_
    exact kt
  by_cases hc1_1 : (0 : Int32) < p0
  · refine own_back (b := s₁.setTop (mkF m 22 #[.val (.int p0), .val (.int (31 : Int32))] [(.int (65536 : Int32)), (.int p0)])) (fun t kt => ?_) ?_
    · show Steps p.tables e below (s₁.setTop (mkF m 1 #[.val (.int p0), .unset] [(.int p0)])) _
      refine XS.ifYes X0.here hx rfl (pc0 := 1) (pc' := 15) rfl (hb hby d4_1) rfl ((if0 _ _).trans (tlt hc1_1).2.2.1) (by decide) (by decide) ?_
      show Steps p.tables e below (s₁.setTop (mkF m 15 #[.val (.int p0), .unset] [])) _
      refine XS.bipush X0.here hx rfl (hb hby d4_15) ?_
      show Steps p.tables e below (s₁.setTop (mkF m 17 #[.val (.int p0), .unset] [(.int (31 : Int32))])) _
      refine XS.istoreN X0.here hx rfl (hb hby d4_17) rfl (l' := #[.val (.int p0), .val (.int (31 : Int32))]) rfl ?_
      show Steps p.tables e below (s₁.setTop (mkF m 18 #[.val (.int p0), .val (.int (31 : Int32))] [])) _
      refine XS.iloadN X0.here hx rfl (hb hby d4_18) rfl ?_
      show Steps p.tables e below (s₁.setTop (mkF m 19 #[.val (.int p0), .val (.int (31 : Int32))] [(.int p0)])) _
      refine X0.ldcwInt hx hown (mvT hZ (hw _ (List.mem_of_getElem? (i := 26) rfl))) (g := (mkF m 19 #[.val (.int p0), .val (.int (31 : Int32))] [(.int p0)])) rfl (hb hby d4_19) _ ?_
      exact kt
    refine own_back (b := s₁.setTop (mkF m 33 #[.val (.int (m4_0 p0)), .val (.int (m4_1 p0))] [])) (fun t kt => ?_) ?_
    · by_cases hm22_2 : p0 < (65536 : Int32)
      · rw [show (m4_0 p0) = p0 from by unfold m4_0; rw [if_pos hm22_2]] at kt
        rw [show (m4_1 p0) = (31 : Int32) from by unfold m4_1; rw [if_pos hm22_2]] at kt
        show Steps p.tables e below (s₁.setTop (mkF m 22 #[.val (.int p0), .val (.int (31 : Int32))] [(.int (65536 : Int32)), (.int p0)])) _
        refine XS.icmpYes X0.here hx rfl (pc0 := 22) (pc' := 33) rfl (hb hby d4_22) rfl (tlt hm22_2).1 (by decide) (by decide) ?_
        exact kt
      · rw [show (m4_0 p0) = ((p0.toUInt32 >>> ((16 : Int32) &&& 31).toUInt32).toInt32) from by unfold m4_0; rw [if_neg hm22_2]] at kt
        rw [show (m4_1 p0) = ((31 : Int32) + (-16 : Int32)) from by unfold m4_1; rw [if_neg hm22_2]] at kt
        show Steps p.tables e below (s₁.setTop (mkF m 22 #[.val (.int p0), .val (.int (31 : Int32))] [(.int (65536 : Int32)), (.int p0)])) _
        refine XS.icmpNo X0.here hx rfl (hb hby d4_22) rfl (flt hm22_2).1 ?_
        show Steps p.tables e below (s₁.setTop (mkF m 25 #[.val (.int p0), .val (.int (31 : Int32))] [])) _
        refine XS.iinc X0.here hx rfl (hb hby d4_25) rfl (l' := #[.val (.int p0), .val (.int ((31 : Int32) + (-16 : Int32)))]) rfl ?_
        show Steps p.tables e below (s₁.setTop (mkF m 28 #[.val (.int p0), .val (.int ((31 : Int32) + (-16 : Int32)))] [])) _
        refine XS.iloadN X0.here hx rfl (hb hby d4_28) rfl ?_
        show Steps p.tables e below (s₁.setTop (mkF m 29 #[.val (.int p0), .val (.int ((31 : Int32) + (-16 : Int32)))] [(.int p0)])) _
        refine XS.bipush X0.here hx rfl (hb hby d4_29) ?_
        show Steps p.tables e below (s₁.setTop (mkF m 31 #[.val (.int p0), .val (.int ((31 : Int32) + (-16 : Int32)))] [(.int (16 : Int32)), (.int p0)])) _
        refine XS.iushr X0.here hx rfl (hb hby d4_31) rfl ?_
        show Steps p.tables e below (s₁.setTop (mkF m 32 #[.val (.int p0), .val (.int ((31 : Int32) + (-16 : Int32)))] [(.int ((p0.toUInt32 >>> ((16 : Int32) &&& 31).toUInt32).toInt32))])) _
        refine XS.istoreN X0.here hx rfl (hb hby d4_32) rfl (l' := #[.val (.int ((p0.toUInt32 >>> ((16 : Int32) &&& 31).toUInt32).toInt32)), .val (.int ((31 : Int32) + (-16 : Int32)))]) rfl ?_
        exact kt
    refine own_back (b := s₁.setTop (mkF m 37 #[.val (.int (m4_0 p0)), .val (.int (m4_1 p0))] [(.int (256 : Int32)), (.int (m4_0 p0))])) (fun t kt => ?_) ?_
    · show Steps p.tables e below (s₁.setTop (mkF m 33 #[.val (.int (m4_0 p0)), .val (.int (m4_1 p0))] [])) _
      refine XS.iloadN X0.here hx rfl (hb hby d4_33) rfl ?_
      show Steps p.tables e below (s₁.setTop (mkF m 34 #[.val (.int (m4_0 p0)), .val (.int (m4_1 p0))] [(.int (m4_0 p0))])) _
      refine XS.sipush X0.here hx rfl (hb hby d4_34) ?_
      exact kt
    refine own_back (b := s₁.setTop (mkF m 48 #[.val (.int (m4_2 p0)), .val (.int (m4_3 p0))] [])) (fun t kt => ?_) ?_
    · by_cases hm37_3 : (m4_0 p0) < (256 : Int32)
      · rw [show (m4_2 p0) = (m4_0 p0) from by unfold m4_2; rw [if_pos hm37_3]] at kt
        rw [show (m4_3 p0) = (m4_1 p0) from by unfold m4_3; rw [if_pos hm37_3]] at kt
        show Steps p.tables e below (s₁.setTop (mkF m 37 #[.val (.int (m4_0 p0)), .val (.int (m4_1 p0))] [(.int (256 : Int32)), (.int (m4_0 p0))])) _
        refine XS.icmpYes X0.here hx rfl (pc0 := 37) (pc' := 48) rfl (hb hby d4_37) rfl (tlt hm37_3).1 (by decide) (by decide) ?_
        exact kt
      · rw [show (m4_2 p0) = (((m4_0 p0).toUInt32 >>> ((8 : Int32) &&& 31).toUInt32).toInt32) from by unfold m4_2; rw [if_neg hm37_3]] at kt
        rw [show (m4_3 p0) = ((m4_1 p0) + (-8 : Int32)) from by unfold m4_3; rw [if_neg hm37_3]] at kt
        show Steps p.tables e below (s₁.setTop (mkF m 37 #[.val (.int (m4_0 p0)), .val (.int (m4_1 p0))] [(.int (256 : Int32)), (.int (m4_0 p0))])) _
        refine XS.icmpNo X0.here hx rfl (hb hby d4_37) rfl (flt hm37_3).1 ?_
        show Steps p.tables e below (s₁.setTop (mkF m 40 #[.val (.int (m4_0 p0)), .val (.int (m4_1 p0))] [])) _
        refine XS.iinc X0.here hx rfl (hb hby d4_40) rfl (l' := #[.val (.int (m4_0 p0)), .val (.int ((m4_1 p0) + (-8 : Int32)))]) rfl ?_
        show Steps p.tables e below (s₁.setTop (mkF m 43 #[.val (.int (m4_0 p0)), .val (.int ((m4_1 p0) + (-8 : Int32)))] [])) _
        refine XS.iloadN X0.here hx rfl (hb hby d4_43) rfl ?_
        show Steps p.tables e below (s₁.setTop (mkF m 44 #[.val (.int (m4_0 p0)), .val (.int ((m4_1 p0) + (-8 : Int32)))] [(.int (m4_0 p0))])) _
        refine XS.bipush X0.here hx rfl (hb hby d4_44) ?_
        show Steps p.tables e below (s₁.setTop (mkF m 46 #[.val (.int (m4_0 p0)), .val (.int ((m4_1 p0) + (-8 : Int32)))] [(.int (8 : Int32)), (.int (m4_0 p0))])) _
        refine XS.iushr X0.here hx rfl (hb hby d4_46) rfl ?_
        show Steps p.tables e below (s₁.setTop (mkF m 47 #[.val (.int (m4_0 p0)), .val (.int ((m4_1 p0) + (-8 : Int32)))] [(.int (((m4_0 p0).toUInt32 >>> ((8 : Int32) &&& 31).toUInt32).toInt32))])) _
        refine XS.istoreN X0.here hx rfl (hb hby d4_47) rfl (l' := #[.val (.int (((m4_0 p0).toUInt32 >>> ((8 : Int32) &&& 31).toUInt32).toInt32)), .val (.int ((m4_1 p0) + (-8 : Int32)))]) rfl ?_
        exact kt
    refine own_back (b := s₁.setTop (mkF m 51 #[.val (.int (m4_2 p0)), .val (.int (m4_3 p0))] [(.int (16 : Int32)), (.int (m4_2 p0))])) (fun t kt => ?_) ?_
    · show Steps p.tables e below (s₁.setTop (mkF m 48 #[.val (.int (m4_2 p0)), .val (.int (m4_3 p0))] [])) _
      refine XS.iloadN X0.here hx rfl (hb hby d4_48) rfl ?_
      show Steps p.tables e below (s₁.setTop (mkF m 49 #[.val (.int (m4_2 p0)), .val (.int (m4_3 p0))] [(.int (m4_2 p0))])) _
      refine XS.bipush X0.here hx rfl (hb hby d4_49) ?_
      exact kt
    refine own_back (b := s₁.setTop (mkF m 61 #[.val (.int (m4_4 p0)), .val (.int (m4_5 p0))] [])) (fun t kt => ?_) ?_
    · by_cases hm51_4 : (m4_2 p0) < (16 : Int32)
      · rw [show (m4_4 p0) = (m4_2 p0) from by unfold m4_4; rw [if_pos hm51_4]] at kt
        rw [show (m4_5 p0) = (m4_3 p0) from by unfold m4_5; rw [if_pos hm51_4]] at kt
        show Steps p.tables e below (s₁.setTop (mkF m 51 #[.val (.int (m4_2 p0)), .val (.int (m4_3 p0))] [(.int (16 : Int32)), (.int (m4_2 p0))])) _
        refine XS.icmpYes X0.here hx rfl (pc0 := 51) (pc' := 61) rfl (hb hby d4_51) rfl (tlt hm51_4).1 (by decide) (by decide) ?_
        exact kt
      · rw [show (m4_4 p0) = (((m4_2 p0).toUInt32 >>> ((4 : Int32) &&& 31).toUInt32).toInt32) from by unfold m4_4; rw [if_neg hm51_4]] at kt
        rw [show (m4_5 p0) = ((m4_3 p0) + (-4 : Int32)) from by unfold m4_5; rw [if_neg hm51_4]] at kt
        show Steps p.tables e below (s₁.setTop (mkF m 51 #[.val (.int (m4_2 p0)), .val (.int (m4_3 p0))] [(.int (16 : Int32)), (.int (m4_2 p0))])) _
        refine XS.icmpNo X0.here hx rfl (hb hby d4_51) rfl (flt hm51_4).1 ?_
        show Steps p.tables e below (s₁.setTop (mkF m 54 #[.val (.int (m4_2 p0)), .val (.int (m4_3 p0))] [])) _
        refine XS.iinc X0.here hx rfl (hb hby d4_54) rfl (l' := #[.val (.int (m4_2 p0)), .val (.int ((m4_3 p0) + (-4 : Int32)))]) rfl ?_
        show Steps p.tables e below (s₁.setTop (mkF m 57 #[.val (.int (m4_2 p0)), .val (.int ((m4_3 p0) + (-4 : Int32)))] [])) _
        refine XS.iloadN X0.here hx rfl (hb hby d4_57) rfl ?_
        show Steps p.tables e below (s₁.setTop (mkF m 58 #[.val (.int (m4_2 p0)), .val (.int ((m4_3 p0) + (-4 : Int32)))] [(.int (m4_2 p0))])) _
        refine XS.iconst X0.here hx rfl (hb hby d4_58) ?_
        show Steps p.tables e below (s₁.setTop (mkF m 59 #[.val (.int (m4_2 p0)), .val (.int ((m4_3 p0) + (-4 : Int32)))] [(.int (4 : Int32)), (.int (m4_2 p0))])) _
        refine XS.iushr X0.here hx rfl (hb hby d4_59) rfl ?_
        show Steps p.tables e below (s₁.setTop (mkF m 60 #[.val (.int (m4_2 p0)), .val (.int ((m4_3 p0) + (-4 : Int32)))] [(.int (((m4_2 p0).toUInt32 >>> ((4 : Int32) &&& 31).toUInt32).toInt32))])) _
        refine XS.istoreN X0.here hx rfl (hb hby d4_60) rfl (l' := #[.val (.int (((m4_2 p0).toUInt32 >>> ((4 : Int32) &&& 31).toUInt32).toInt32)), .val (.int ((m4_3 p0) + (-4 : Int32)))]) rfl ?_
        exact kt
    refine own_back (b := s₁.setTop (mkF m 63 #[.val (.int (m4_4 p0)), .val (.int (m4_5 p0))] [(.int (4 : Int32)), (.int (m4_4 p0))])) (fun t kt => ?_) ?_
    · show Steps p.tables e below (s₁.setTop (mkF m 61 #[.val (.int (m4_4 p0)), .val (.int (m4_5 p0))] [])) _
      refine XS.iloadN X0.here hx rfl (hb hby d4_61) rfl ?_
      show Steps p.tables e below (s₁.setTop (mkF m 62 #[.val (.int (m4_4 p0)), .val (.int (m4_5 p0))] [(.int (m4_4 p0))])) _
      refine XS.iconst X0.here hx rfl (hb hby d4_62) ?_
      exact kt
    refine own_back (b := s₁.setTop (mkF m 73 #[.val (.int (m4_6 p0)), .val (.int (m4_7 p0))] [])) (fun t kt => ?_) ?_
    · by_cases hm63_5 : (m4_4 p0) < (4 : Int32)
      · rw [show (m4_6 p0) = (m4_4 p0) from by unfold m4_6; rw [if_pos hm63_5]] at kt
        rw [show (m4_7 p0) = (m4_5 p0) from by unfold m4_7; rw [if_pos hm63_5]] at kt
        show Steps p.tables e below (s₁.setTop (mkF m 63 #[.val (.int (m4_4 p0)), .val (.int (m4_5 p0))] [(.int (4 : Int32)), (.int (m4_4 p0))])) _
        refine XS.icmpYes X0.here hx rfl (pc0 := 63) (pc' := 73) rfl (hb hby d4_63) rfl (tlt hm63_5).1 (by decide) (by decide) ?_
        exact kt
      · rw [show (m4_6 p0) = (((m4_4 p0).toUInt32 >>> ((2 : Int32) &&& 31).toUInt32).toInt32) from by unfold m4_6; rw [if_neg hm63_5]] at kt
        rw [show (m4_7 p0) = ((m4_5 p0) + (-2 : Int32)) from by unfold m4_7; rw [if_neg hm63_5]] at kt
        show Steps p.tables e below (s₁.setTop (mkF m 63 #[.val (.int (m4_4 p0)), .val (.int (m4_5 p0))] [(.int (4 : Int32)), (.int (m4_4 p0))])) _
        refine XS.icmpNo X0.here hx rfl (hb hby d4_63) rfl (flt hm63_5).1 ?_
        show Steps p.tables e below (s₁.setTop (mkF m 66 #[.val (.int (m4_4 p0)), .val (.int (m4_5 p0))] [])) _
        refine XS.iinc X0.here hx rfl (hb hby d4_66) rfl (l' := #[.val (.int (m4_4 p0)), .val (.int ((m4_5 p0) + (-2 : Int32)))]) rfl ?_
        show Steps p.tables e below (s₁.setTop (mkF m 69 #[.val (.int (m4_4 p0)), .val (.int ((m4_5 p0) + (-2 : Int32)))] [])) _
        refine XS.iloadN X0.here hx rfl (hb hby d4_69) rfl ?_
        show Steps p.tables e below (s₁.setTop (mkF m 70 #[.val (.int (m4_4 p0)), .val (.int ((m4_5 p0) + (-2 : Int32)))] [(.int (m4_4 p0))])) _
        refine XS.iconst X0.here hx rfl (hb hby d4_70) ?_
        show Steps p.tables e below (s₁.setTop (mkF m 71 #[.val (.int (m4_4 p0)), .val (.int ((m4_5 p0) + (-2 : Int32)))] [(.int (2 : Int32)), (.int (m4_4 p0))])) _
        refine XS.iushr X0.here hx rfl (hb hby d4_71) rfl ?_
        show Steps p.tables e below (s₁.setTop (mkF m 72 #[.val (.int (m4_4 p0)), .val (.int ((m4_5 p0) + (-2 : Int32)))] [(.int (((m4_4 p0).toUInt32 >>> ((2 : Int32) &&& 31).toUInt32).toInt32))])) _
        refine XS.istoreN X0.here hx rfl (hb hby d4_72) rfl (l' := #[.val (.int (((m4_4 p0).toUInt32 >>> ((2 : Int32) &&& 31).toUInt32).toInt32)), .val (.int ((m4_5 p0) + (-2 : Int32)))]) rfl ?_
        exact kt
    refine own_back (b := s₁.setTop (mkF m 78 #[.val (.int (m4_6 p0)), .val (.int (m4_7 p0))] [(.int ((m4_7 p0) - (((m4_6 p0).toUInt32 >>> ((1 : Int32) &&& 31).toUInt32).toInt32)))])) (fun t kt => ?_) ?_
    · show Steps p.tables e below (s₁.setTop (mkF m 73 #[.val (.int (m4_6 p0)), .val (.int (m4_7 p0))] [])) _
      refine XS.iloadN X0.here hx rfl (hb hby d4_73) rfl ?_
      show Steps p.tables e below (s₁.setTop (mkF m 74 #[.val (.int (m4_6 p0)), .val (.int (m4_7 p0))] [(.int (m4_7 p0))])) _
      refine XS.iloadN X0.here hx rfl (hb hby d4_74) rfl ?_
      show Steps p.tables e below (s₁.setTop (mkF m 75 #[.val (.int (m4_6 p0)), .val (.int (m4_7 p0))] [(.int (m4_6 p0)), (.int (m4_7 p0))])) _
      refine XS.iconst X0.here hx rfl (hb hby d4_75) ?_
      show Steps p.tables e below (s₁.setTop (mkF m 76 #[.val (.int (m4_6 p0)), .val (.int (m4_7 p0))] [(.int (1 : Int32)), (.int (m4_6 p0)), (.int (m4_7 p0))])) _
      refine XS.iushr X0.here hx rfl (hb hby d4_76) rfl ?_
      show Steps p.tables e below (s₁.setTop (mkF m 77 #[.val (.int (m4_6 p0)), .val (.int (m4_7 p0))] [(.int (((m4_6 p0).toUInt32 >>> ((1 : Int32) &&& 31).toUInt32).toInt32)), (.int (m4_7 p0))])) _
      refine XS.isub X0.here hx rfl (hb hby d4_77) rfl ?_
      exact kt
    obtain ⟨fs, hr, hrun, hended, hW, hsame⟩ := X0.leave (v := some (.int ((m4_7 p0) - (((m4_6 p0).toUInt32 >>> ((1 : Int32) &&& 31).toUInt32).toInt32)))) (fun h => by rw [Bd.returns] at h; cases h) (BodyLoose.notSynchronized Bd)
    refine ⟨_, _, ?_, hrun, hended, _, _, rfl, ?_, ⟨_, rfl⟩, hW, hsame.mono (by decide) (by decide)⟩
    · show Steps p.tables e below (s₁.setTop (mkF m 78 #[.val (.int (m4_6 p0)), .val (.int (m4_7 p0))] [(.int ((m4_7 p0) - (((m4_6 p0).toUInt32 >>> ((1 : Int32) &&& 31).toUInt32).toInt32)))])) _
      exact retI X0 hx Bd.returns (hb hby d4_78) hr
    · show Q4 Z p0 h0 n0 _ s₁.heap _
      rw [e0]
      exact ⟨by rw [show f4 p0 = ((m4_7 p0) - (((m4_6 p0).toUInt32 >>> ((1 : Int32) &&& 31).toUInt32).toInt32)) from by unfold f4; rw [if_pos hc1_1]], N0, rfl⟩
  · refine own_back (b := s₁.setTop (mkF m 5 #[.val (.int p0), .unset] [(.int p0)])) (fun t kt => ?_) ?_
    · show Steps p.tables e below (s₁.setTop (mkF m 1 #[.val (.int p0), .unset] [(.int p0)])) _
      refine XS.ifNo X0.here hx rfl (hb hby d4_1) rfl ((if0 _ _).trans (flt hc1_1).2.2.1) ?_
      show Steps p.tables e below (s₁.setTop (mkF m 4 #[.val (.int p0), .unset] [])) _
      refine XS.iloadN X0.here hx rfl (hb hby d4_4) rfl ?_
      exact kt
    by_cases hc5_6 : p0 = (0 : Int32)
    · refine own_back (b := s₁.setTop (mkF m 14 #[.val (.int p0), .unset] [(.int (32 : Int32))])) (fun t kt => ?_) ?_
      · show Steps p.tables e below (s₁.setTop (mkF m 5 #[.val (.int p0), .unset] [(.int p0)])) _
        refine XS.ifNo X0.here hx rfl (hb hby d4_5) rfl ((if0 _ _).trans (teq hc5_6).2) ?_
        show Steps p.tables e below (s₁.setTop (mkF m 8 #[.val (.int p0), .unset] [])) _
        refine XS.bipush X0.here hx rfl (hb hby d4_8) ?_
        show Steps p.tables e below (s₁.setTop (mkF m 10 #[.val (.int p0), .unset] [(.int (32 : Int32))])) _
        refine XS.goto X0.here hx rfl (pc0 := 10) (pc' := 14) rfl (hb hby d4_10) (by decide) (by decide) ?_
        exact kt
      obtain ⟨fs, hr, hrun, hended, hW, hsame⟩ := X0.leave (v := some (.int (32 : Int32))) (fun h => by rw [Bd.returns] at h; cases h) (BodyLoose.notSynchronized Bd)
      refine ⟨_, _, ?_, hrun, hended, _, _, rfl, ?_, ⟨_, rfl⟩, hW, hsame.mono (by decide) (by decide)⟩
      · show Steps p.tables e below (s₁.setTop (mkF m 14 #[.val (.int p0), .unset] [(.int (32 : Int32))])) _
        exact retI X0 hx Bd.returns (hb hby d4_14) hr
      · show Q4 Z p0 h0 n0 _ s₁.heap _
        rw [e0]
        exact ⟨by rw [show f4 p0 = (32 : Int32) from by unfold f4; rw [if_neg hc1_1, if_pos hc5_6]], N0, rfl⟩
    · refine own_back (b := s₁.setTop (mkF m 14 #[.val (.int p0), .unset] [(.int (0 : Int32))])) (fun t kt => ?_) ?_
      · show Steps p.tables e below (s₁.setTop (mkF m 5 #[.val (.int p0), .unset] [(.int p0)])) _
        refine XS.ifYes X0.here hx rfl (pc0 := 5) (pc' := 13) rfl (hb hby d4_5) rfl ((if0 _ _).trans (feq hc5_6).2) (by decide) (by decide) ?_
        show Steps p.tables e below (s₁.setTop (mkF m 13 #[.val (.int p0), .unset] [])) _
        refine XS.iconst X0.here hx rfl (hb hby d4_13) ?_
        exact kt
      obtain ⟨fs, hr, hrun, hended, hW, hsame⟩ := X0.leave (v := some (.int (0 : Int32))) (fun h => by rw [Bd.returns] at h; cases h) (BodyLoose.notSynchronized Bd)
      refine ⟨_, _, ?_, hrun, hended, _, _, rfl, ?_, ⟨_, rfl⟩, hW, hsame.mono (by decide) (by decide)⟩
      · show Steps p.tables e below (s₁.setTop (mkF m 14 #[.val (.int p0), .unset] [(.int (0 : Int32))])) _
        exact retI X0 hx Bd.returns (hb hby d4_14) hr
      · show Q4 Z p0 h0 n0 _ s₁.heap _
        rw [e0]
        exact ⟨by rw [show f4 p0 = (0 : Int32) from by unfold f4; rw [if_neg hc1_1, if_neg hc5_6]], N0, rfl⟩
theorem d2_0 : decode prog_51_method_1_code 0 = .ok (.aload_n 0, 1) := by decide +kernel
theorem d2_1 : decode prog_51_method_1_code 1 = .ok (.invokespecial 1, 3) := by decide +kernel
theorem d2_4 : decode prog_51_method_1_code 4 = .ok (.iload_n 3, 1) := by decide +kernel
theorem d2_5 : decode prog_51_method_1_code 5 = .ok (.iload_n 2, 1) := by decide +kernel
theorem d2_6 : decode prog_51_method_1_code 6 = .ok (.if_icmp .le 11, 3) := by decide +kernel
theorem d2_9 : decode prog_51_method_1_code 9 = .ok (.aload_n 1, 1) := by decide +kernel
theorem d2_10 : decode prog_51_method_1_code 10 = .ok (.iload_n 3, 1) := by decide +kernel
theorem d2_11 : decode prog_51_method_1_code 11 = .ok (.iconst 1, 1) := by decide +kernel
theorem d2_12 : decode prog_51_method_1_code 12 = .ok (.isub, 1) := by decide +kernel
theorem d2_13 : decode prog_51_method_1_code 13 = .ok (.baload, 1) := by decide +kernel
theorem d2_14 : decode prog_51_method_1_code 14 = .ok (.ifCond .ne 13, 3) := by decide +kernel
theorem d2_27 : decode prog_51_method_1_code 27 = .ok (.aload_n 0, 1) := by decide +kernel
theorem d2_28 : decode prog_51_method_1_code 28 = .ok (.aload_n 1, 1) := by decide +kernel
theorem d2_29 : decode prog_51_method_1_code 29 = .ok (.putfield 14, 3) := by decide +kernel
theorem d2_32 : decode prog_51_method_1_code 32 = .ok (.aload_n 0, 1) := by decide +kernel
theorem d2_33 : decode prog_51_method_1_code 33 = .ok (.iload_n 2, 1) := by decide +kernel
theorem d2_34 : decode prog_51_method_1_code 34 = .ok (.putfield 20, 3) := by decide +kernel
theorem d2_37 : decode prog_51_method_1_code 37 = .ok (.aload_n 0, 1) := by decide +kernel
theorem d2_38 : decode prog_51_method_1_code 38 = .ok (.iload_n 3, 1) := by decide +kernel
theorem d2_39 : decode prog_51_method_1_code 39 = .ok (.putfield 24, 3) := by decide +kernel
theorem d2_42 : decode prog_51_method_1_code 42 = .ok (.aload_n 0, 1) := by decide +kernel
theorem d2_43 : decode prog_51_method_1_code 43 = .ok (.iload_n 3, 1) := by decide +kernel
theorem d2_44 : decode prog_51_method_1_code 44 = .ok (.iload_n 2, 1) := by decide +kernel
theorem d2_45 : decode prog_51_method_1_code 45 = .ok (.isub, 1) := by decide +kernel
theorem d2_46 : decode prog_51_method_1_code 46 = .ok (.i2l, 1) := by decide +kernel
theorem d2_47 : decode prog_51_method_1_code 47 = .ok (.ldc2_w 27, 3) := by decide +kernel
theorem d2_50 : decode prog_51_method_1_code 50 = .ok (.lmul, 1) := by decide +kernel
theorem d2_51 : decode prog_51_method_1_code 51 = .ok (.aload_n 1, 1) := by decide +kernel
theorem d2_52 : decode prog_51_method_1_code 52 = .ok (.iload_n 3, 1) := by decide +kernel
theorem d2_53 : decode prog_51_method_1_code 53 = .ok (.iconst 1, 1) := by decide +kernel
theorem d2_54 : decode prog_51_method_1_code 54 = .ok (.isub, 1) := by decide +kernel
theorem d2_55 : decode prog_51_method_1_code 55 = .ok (.baload, 1) := by decide +kernel
theorem d2_56 : decode prog_51_method_1_code 56 = .ok (.sipush 255, 3) := by decide +kernel
theorem d2_59 : decode prog_51_method_1_code 59 = .ok (.iand, 1) := by decide +kernel
theorem d2_60 : decode prog_51_method_1_code 60 = .ok (.invokestatic 29, 3) := by decide +kernel
theorem d2_63 : decode prog_51_method_1_code 63 = .ok (.i2l, 1) := by decide +kernel
theorem d2_64 : decode prog_51_method_1_code 64 = .ok (.lsub, 1) := by decide +kernel
theorem d2_65 : decode prog_51_method_1_code 65 = .ok (.ldc2_w 35, 3) := by decide +kernel
theorem d2_68 : decode prog_51_method_1_code 68 = .ok (.ladd, 1) := by decide +kernel
theorem d2_69 : decode prog_51_method_1_code 69 = .ok (.lconst 1, 1) := by decide +kernel
theorem d2_70 : decode prog_51_method_1_code 70 = .ok (.lsub, 1) := by decide +kernel
theorem d2_71 : decode prog_51_method_1_code 71 = .ok (.putfield 37, 3) := by decide +kernel
theorem d2_74 : decode prog_51_method_1_code 74 = .ok (.return_, 1) := by decide +kernel
theorem pn_2 : plainName "com/example/urial/urial/protocol/BackwardBitReader" = true := by first | (simp [plainName, overriddenIn]; done) | decide +kernel
theorem pd_2_0 : parseMethodDescriptor "(I)I" = some ⟨[.int], some .int⟩ := by decide +kernel
theorem ef_2 (m : MethodId) (x0 : Addr) (x1 : Addr) (x2 : Int32) (x3 : Int32) : entryFrame m #[(.ref x0), (.ref x1), (.int x2), (.int x3)] 4 = mkF m 0 #[.val (.ref x0), .val (.ref x1), .val (.int x2), .val (.int x3)] [] := by first | (simp [entryFrame, mkF, argsToLocals, Value.category]; done) | rfl
def Q2 (Z : State) (a0 : Addr) (a1 : Addr) (p2 : Int32) (p3 : Int32) (wb : Int32) (h0 : Heap) (n0 : Nat) (v : Option Value) (h : Heap) (L : List Loc) : Prop := v = none ∧ Fr n0 L ∧ Keep h0 h [a0] ∧ Exa Z h a0 "com/example/urial/urial/protocol/BackwardBitReader" ∧ Fld Z h a0 "com/example/urial/urial/protocol/BackwardBitReader" "left" "J" (.long ((((((p3 - p2).toInt64) * (8 : Int64)) - ((f4 (wb &&& (255 : Int32))).toInt64)) + (24 : Int64)) - (1 : Int64)))
set_option maxRecDepth 65536 in
set_option maxHeartbeats 40000000 in
theorem rm2 (l : Launch) (Z : State) (aw : Array Value) (hw : ∀ d ∈ tables_1, d.before aw Z = true) (ws : List Jvm.Cond) (a0 : Addr) (a1 : Addr) (p2 : Int32) (p3 : Int32) (wb : Int32) (h0 : Heap) (n0 : Nat) (Z0 : n0 ≤ h0.size) (F_bytes_a0 : Fld Z h0 a0 "com/example/urial/urial/protocol/BackwardBitReader" "bytes" "[B" .null) (F_start_a0 : Fld Z h0 a0 "com/example/urial/urial/protocol/BackwardBitReader" "start" "I" (.int (0 : Int32))) (F_end_a0 : Fld Z h0 a0 "com/example/urial/urial/protocol/BackwardBitReader" "end" "I" (.int (0 : Int32))) (F_left_a0 : Fld Z h0 a0 "com/example/urial/urial/protocol/BackwardBitReader" "left" "J" (.long (0 : Int64))) (E_a0 : Exa Z h0 a0 "com/example/urial/urial/protocol/BackwardBitReader") (g_a0 : n0 ≤ a0) (L_a1 : ElA Z h0 a1 .byte (p3 - (1 : Int32)) (.int wb)) (ne_a1_a0 : a1 ≠ a0) (hlt : p2 < p3) (hwb : ¬ (wb = (0 : Int32))) :
    MetFree l (⟨"com/example/urial/urial/protocol/BackwardBitReader", "<init>", "([BII)V"⟩ : MethodName) (head1 (Jvm.Cond.code (⟨"com/example/urial/urial/protocol/BackwardBitReader", "<init>", "([BII)V"⟩ : MethodName) prog_51_method_1_code 4 none :: ws) ({ frames := 1, cells := 0, slots := 0, locals := 16 } : Room)) (fun a U => a = #[(.ref a0), (.ref a1), (.int p2), (.int p3)] ∧ Z.Warmed39 U.vm ∧ U.heap = h0) (fun _ _ _ _ _ => True) (fun _ U o U' => ∃ v L, o = .returned v ∧ Q2 Z a0 a1 p2 p3 wb h0 n0 v U'.heap L ∧ FrameEnd U o U' L ({ frames := 1, cells := 0, slots := 0, locals := 16 } : Room).cells ({ frames := 1, cells := 0, slots := 0, locals := 16 } : Room).slots) := by
  refine MetFree.of_bodySF (plainFor_of_name pn_2) hisR ?_
  intro p e s m args below meth c s₁ Bd hml0 hP hK
  obtain ⟨rfl, hZ, hh⟩ := hP
  have hx := Bd.exec
  have hby := Bd.bytes
  have hml : c.maxLocals = 4 := hml0
  have hown : s.vm.findClass "com/example/urial/urial/protocol/BackwardBitReader" = some m.cls := findClass_of_methodNamed Bd.named
  have hnm := (name_of_methodNamed Bd.named Bd.method).1
  have X0 : Stand p l e ({ frames := 1, cells := 0, slots := 0, locals := 16 } : Room) s m #[(.ref a0), (.ref a1), (.int p2), (.int p3)] below meth c s₁ [] 0 0 := Stand.of_body Bd
  have e0 : s₁.heap = h0 := by rw [← hh, Bd.state]; rfl
  have N0 := Fr.nil n0
  refine own_back (b := s₁.setTop (mkF m 0 #[.val (.ref a0), .val (.ref a1), .val (.int p2), .val (.int p3)] [])) (fun t kt => castTop (ef_2 m a0 a1 p2 p3) kt) ?_
  obtain ⟨T1, X1, e1, st1⟩ := initO X0 hx hZ hown (hw _ (List.mem_of_getElem? (i := 12) rfl)) (hw _ (List.mem_of_getElem? (i := 13) rfl)) (hw _ (List.mem_of_getElem? (i := 14) rfl)) e0 (g := (mkF m 1 #[.val (.ref a0), .val (.ref a1), .val (.int p2), .val (.int p3)] [(.ref a0)])) rfl (by rw [hml]; rfl) rfl (hb hby d2_1) (by decide) (W := 0) (by show 2 * 0 + _ ≤ _; exact Nat.le_of_eq rfl) (by decide)
  obtain ⟨cl2, Ar2, hin2, hat2⟩ := own_same L_a1
  obtain ⟨T3, h3, X3, e3, W3, st3⟩ := putF X1 hx hZ hown (host := "") (Or.inl (hw _ (List.mem_of_getElem? (i := 15) rfl))) Via.refl e1 F_bytes_a0 E_a0 (Or.inr ⟨(hw _ (List.mem_of_getElem? (i := 16) rfl)), rfl, hnm⟩) (hw _ (List.mem_of_getElem? (i := 7) rfl)) (ty := (.array .byte)) (by decide) rfl rfl (g := (mkF m 29 #[.val (.ref a0), .val (.ref a1), .val (.int p2), .val (.int p3)] [(.ref a1), (.ref a0)])) rfl rfl (hb hby d2_29)
  have Fw3 := F_bytes_a0.same W3
  have f3_0 := F_start_a0.other W3 (Or.inr (slot_ne (Or.inr (hw _ (List.mem_of_getElem? (i := 18) rfl))) (Or.inr (hw _ (List.mem_of_getElem? (i := 16) rfl))) (by decide) (t := .int) (t' := (.array .byte)) (by decide) (by decide)))
  have f3_1 := F_end_a0.other W3 (Or.inr (slot_ne (Or.inr (hw _ (List.mem_of_getElem? (i := 20) rfl))) (Or.inr (hw _ (List.mem_of_getElem? (i := 16) rfl))) (by decide) (t := .int) (t' := (.array .byte)) (by decide) (by decide)))
  have f3_2 := F_left_a0.other W3 (Or.inr (slot_ne (Or.inl (hw _ (List.mem_of_getElem? (i := 29) rfl))) (Or.inr (hw _ (List.mem_of_getElem? (i := 16) rfl))) (by decide) (t := .long) (t' := (.array .byte)) (by decide) (by decide)))
  have f3_3 := E_a0.wr W3
  have f3_4 := L_a1.other W3 ne_a1_a0
  have K3 : Keep h0 h3 [a0] := (Keep.refl h0 _).wr W3 (Or.inl (List.mem_of_getElem? (i := 0) rfl))
  have Z3 : n0 ≤ h3.size := Nat.le_trans Z0 (Keep.of_wr W3).1
  have N3 := Fr.snoc X3 N0 g_a0
  obtain ⟨T4, h4, X4, e4, W4, st4⟩ := putF X3 hx hZ hown (host := "") (Or.inl (hw _ (List.mem_of_getElem? (i := 17) rfl))) Via.refl e3 f3_0 f3_3 (Or.inr ⟨(hw _ (List.mem_of_getElem? (i := 18) rfl)), rfl, hnm⟩) (hw _ (List.mem_of_getElem? (i := 7) rfl)) (ty := .int) (by decide) rfl rfl (g := (mkF m 34 #[.val (.ref a0), .val (.ref a1), .val (.int p2), .val (.int p3)] [(.int p2), (.ref a0)])) rfl rfl (hb hby d2_34)
  have Fw4 := f3_0.same W4
  have f4_0 := f3_1.other W4 (Or.inr (slot_ne (Or.inr (hw _ (List.mem_of_getElem? (i := 20) rfl))) (Or.inr (hw _ (List.mem_of_getElem? (i := 18) rfl))) (by decide) (t := .int) (t' := .int) (by decide) (by decide)))
  have f4_1 := f3_2.other W4 (Or.inr (slot_ne (Or.inl (hw _ (List.mem_of_getElem? (i := 29) rfl))) (Or.inr (hw _ (List.mem_of_getElem? (i := 18) rfl))) (by decide) (t := .long) (t' := .int) (by decide) (by decide)))
  have f4_2 := f3_3.wr W4
  have f4_3 := f3_4.other W4 ne_a1_a0
  have f4_4 := Fw3.other W4 (Or.inr (slot_ne (Or.inr (hw _ (List.mem_of_getElem? (i := 16) rfl))) (Or.inr (hw _ (List.mem_of_getElem? (i := 18) rfl))) (by decide) (t := (.array .byte)) (t' := .int) (by decide) (by decide)))
  have K4 : Keep h0 h4 [a0] := K3.wr W4 (Or.inl (List.mem_of_getElem? (i := 0) rfl))
  have Z4 : n0 ≤ h4.size := Nat.le_trans Z3 (Keep.of_wr W4).1
  have N4 := Fr.snoc X4 N3 g_a0
  obtain ⟨T5, h5, X5, e5, W5, st5⟩ := putF X4 hx hZ hown (host := "") (Or.inl (hw _ (List.mem_of_getElem? (i := 19) rfl))) Via.refl e4 f4_0 f4_2 (Or.inr ⟨(hw _ (List.mem_of_getElem? (i := 20) rfl)), rfl, hnm⟩) (hw _ (List.mem_of_getElem? (i := 7) rfl)) (ty := .int) (by decide) rfl rfl (g := (mkF m 39 #[.val (.ref a0), .val (.ref a1), .val (.int p2), .val (.int p3)] [(.int p3), (.ref a0)])) rfl rfl (hb hby d2_39)
  have Fw5 := f4_0.same W5
  have f5_0 := f4_1.other W5 (Or.inr (slot_ne (Or.inl (hw _ (List.mem_of_getElem? (i := 29) rfl))) (Or.inr (hw _ (List.mem_of_getElem? (i := 20) rfl))) (by decide) (t := .long) (t' := .int) (by decide) (by decide)))
  have f5_1 := f4_2.wr W5
  have f5_2 := f4_3.other W5 ne_a1_a0
  have f5_3 := f4_4.other W5 (Or.inr (slot_ne (Or.inr (hw _ (List.mem_of_getElem? (i := 16) rfl))) (Or.inr (hw _ (List.mem_of_getElem? (i := 20) rfl))) (by decide) (t := (.array .byte)) (t' := .int) (by decide) (by decide)))
  have f5_4 := Fw4.other W5 (Or.inr (slot_ne (Or.inr (hw _ (List.mem_of_getElem? (i := 18) rfl))) (Or.inr (hw _ (List.mem_of_getElem? (i := 20) rfl))) (by decide) (t := .int) (t' := .int) (by decide) (by decide)))
  have K5 : Keep h0 h5 [a0] := K4.wr W5 (Or.inl (List.mem_of_getElem? (i := 0) rfl))
  have Z5 : n0 ≤ h5.size := Nat.le_trans Z4 (Keep.of_wr W5).1
  have N5 := Fr.snoc X5 N4 g_a0
  obtain ⟨cl6, Ar6, hin6, hat6⟩ := own_same f5_2
  obtain ⟨_, _, ⟨T7, L7, k7, n7⟩, -, X7, ⟨Lc7, hQ7, l7, y7, z7⟩, st7⟩ := Jvm.LawKit.callS X5 hx (y := (⟨"java/lang/Integer", "numberOfLeadingZeros", "(I)I"⟩ : MethodName)) hown (mvT hZ (hw _ (List.mem_of_getElem? (i := 22) rfl))) (mvT hZ (hw _ (List.mem_of_getElem? (i := 23) rfl))) (mvT hZ (hw _ (List.mem_of_getElem? (i := 24) rfl))) (mvT hZ (hw _ (List.mem_of_getElem? (i := 25) rfl))) (by decide) (backOf (W := 3) (rm4 l Z aw hw [] (wb &&& (255 : Int32)) h5 n0 Z5 ) hZ (hw _ (List.mem_of_getElem? (i := 25) rfl)) (hw _ (List.mem_of_getElem? (i := 24) rfl)) (by decide) (by decide)) (g := (mkF m 60 #[.val (.ref a0), .val (.ref a1), .val (.int p2), .val (.int p3)] [(.int (wb &&& (255 : Int32))), (.long (((p3 - p2).toInt64) * (8 : Int64))), (.ref a0)])) rfl (by rw [hml]; rfl) (argsL := [(.int (wb &&& (255 : Int32)))]) (rest := [(.long (((p3 - p2).toInt64) * (8 : Int64))), (.ref a0)]) (lenOf pd_2_0 rfl) rfl (by show 2 * 0 + _ ≤ _; exact Nat.le_of_eq rfl) (hb hby d2_60) (fun _ _ => ⟨rfl, e5, (by decide : 0 + 0 ≤ _), (by decide : 0 + 0 ≤ _)⟩)
  dsimp only [Pt.U, Pt.locs, Pt.cells, Pt.slots] at X7 l7 y7 z7 st7 hQ7
  subst l7 y7 z7
  obtain ⟨rfl, Nq7, e7⟩ := hQ7
  have N7 := Fr.app N5 Nq7
  obtain ⟨T8, h8, X8, e8, W8, st8⟩ := putF X7 hx hZ hown (host := "") (Or.inl (hw _ (List.mem_of_getElem? (i := 28) rfl))) Via.refl e7 f5_0 f5_1 (Or.inl (hw _ (List.mem_of_getElem? (i := 29) rfl))) (hw _ (List.mem_of_getElem? (i := 7) rfl)) (ty := .long) (by decide) rfl rfl (g := (mkF m 71 #[.val (.ref a0), .val (.ref a1), .val (.int p2), .val (.int p3)] [(.long ((((((p3 - p2).toInt64) * (8 : Int64)) - ((f4 (wb &&& (255 : Int32))).toInt64)) + (24 : Int64)) - (1 : Int64))), (.ref a0)])) rfl rfl (hb hby d2_71)
  have Fw8 := f5_0.same W8
  have f8_0 := f5_1.wr W8
  have f8_1 := f5_2.other W8 ne_a1_a0
  have f8_2 := f5_3.other W8 (Or.inr (slot_ne (Or.inr (hw _ (List.mem_of_getElem? (i := 16) rfl))) (Or.inl (hw _ (List.mem_of_getElem? (i := 29) rfl))) (by decide) (t := (.array .byte)) (t' := .long) (by decide) (by decide)))
  have f8_3 := f5_4.other W8 (Or.inr (slot_ne (Or.inr (hw _ (List.mem_of_getElem? (i := 18) rfl))) (Or.inl (hw _ (List.mem_of_getElem? (i := 29) rfl))) (by decide) (t := .int) (t' := .long) (by decide) (by decide)))
  have f8_4 := Fw5.other W8 (Or.inr (slot_ne (Or.inr (hw _ (List.mem_of_getElem? (i := 20) rfl))) (Or.inl (hw _ (List.mem_of_getElem? (i := 29) rfl))) (by decide) (t := .int) (t' := .long) (by decide) (by decide)))
  have K8 : Keep h0 h8 [a0] := K5.wr W8 (Or.inl (List.mem_of_getElem? (i := 0) rfl))
  have Z8 : n0 ≤ h8.size := Nat.le_trans Z5 (Keep.of_wr W8).1
  have N8 := Fr.snoc X8 N7 g_a0
  refine own_back (b := T8.setTop (mkF m 74 #[.val (.ref a0), .val (.ref a1), .val (.int p2), .val (.int p3)] [])) (fun t kt => ?_) ?_
  · show Steps p.tables e below (s₁.setTop (mkF m 0 #[.val (.ref a0), .val (.ref a1), .val (.int p2), .val (.int p3)] [])) _
    refine XS.aloadN X0.here hx rfl (hb hby d2_0) rfl rfl ?_
    show Steps p.tables e below (s₁.setTop (mkF m 1 #[.val (.ref a0), .val (.ref a1), .val (.int p2), .val (.int p3)] [(.ref a0)])) _
    refine st1 _ ?_
    show Steps p.tables e below (T1.setTop (mkF m 4 #[.val (.ref a0), .val (.ref a1), .val (.int p2), .val (.int p3)] [])) _
    refine XS.iloadN X1.here hx rfl (hb hby d2_4) rfl ?_
    show Steps p.tables e below (T1.setTop (mkF m 5 #[.val (.ref a0), .val (.ref a1), .val (.int p2), .val (.int p3)] [(.int p3)])) _
    refine XS.iloadN X1.here hx rfl (hb hby d2_5) rfl ?_
    show Steps p.tables e below (T1.setTop (mkF m 6 #[.val (.ref a0), .val (.ref a1), .val (.int p2), .val (.int p3)] [(.int p2), (.int p3)])) _
    refine XS.icmpNo X1.here hx rfl (hb hby d2_6) rfl (tlt hlt).2.2.2 ?_
    show Steps p.tables e below (T1.setTop (mkF m 9 #[.val (.ref a0), .val (.ref a1), .val (.int p2), .val (.int p3)] [])) _
    refine XS.aloadN X1.here hx rfl (hb hby d2_9) rfl rfl ?_
    show Steps p.tables e below (T1.setTop (mkF m 10 #[.val (.ref a0), .val (.ref a1), .val (.int p2), .val (.int p3)] [(.ref a1)])) _
    refine XS.iloadN X1.here hx rfl (hb hby d2_10) rfl ?_
    show Steps p.tables e below (T1.setTop (mkF m 11 #[.val (.ref a0), .val (.ref a1), .val (.int p2), .val (.int p3)] [(.int p3), (.ref a1)])) _
    refine XS.iconst X1.here hx rfl (hb hby d2_11) ?_
    show Steps p.tables e below (T1.setTop (mkF m 12 #[.val (.ref a0), .val (.ref a1), .val (.int p2), .val (.int p3)] [(.int (1 : Int32)), (.int p3), (.ref a1)])) _
    refine XS.isub X1.here hx rfl (hb hby d2_12) rfl ?_
    show Steps p.tables e below (T1.setTop (mkF m 13 #[.val (.ref a0), .val (.ref a1), .val (.int p2), .val (.int p3)] [(.int (p3 - (1 : Int32))), (.ref a1)])) _
    refine X1.baloadBytes hx (j := (p3 - (1 : Int32))) (v := (.int wb)) (by rw [e1]; exact Ar2.1) (State.isArrayOf_alike hZ.alike Ar2.2.1) Ar2.2.2 hin2 hat2 (g := (mkF m 13 #[.val (.ref a0), .val (.ref a1), .val (.int p2), .val (.int p3)] [(.int (p3 - (1 : Int32))), (.ref a1)])) rfl rfl (hb hby d2_13) _ ?_
    show Steps p.tables e below (T1.setTop (mkF m 14 #[.val (.ref a0), .val (.ref a1), .val (.int p2), .val (.int p3)] [(.int wb)])) _
    refine XS.ifYes X1.here hx rfl (pc0 := 14) (pc' := 27) rfl (hb hby d2_14) rfl ((if0 _ _).trans (feq hwb).2) (by decide) (by decide) ?_
    show Steps p.tables e below (T1.setTop (mkF m 27 #[.val (.ref a0), .val (.ref a1), .val (.int p2), .val (.int p3)] [])) _
    refine XS.aloadN X1.here hx rfl (hb hby d2_27) rfl rfl ?_
    show Steps p.tables e below (T1.setTop (mkF m 28 #[.val (.ref a0), .val (.ref a1), .val (.int p2), .val (.int p3)] [(.ref a0)])) _
    refine XS.aloadN X1.here hx rfl (hb hby d2_28) rfl rfl ?_
    show Steps p.tables e below (T1.setTop (mkF m 29 #[.val (.ref a0), .val (.ref a1), .val (.int p2), .val (.int p3)] [(.ref a1), (.ref a0)])) _
    refine st3 _ ?_
    show Steps p.tables e below (T3.setTop (mkF m 32 #[.val (.ref a0), .val (.ref a1), .val (.int p2), .val (.int p3)] [])) _
    refine XS.aloadN X3.here hx rfl (hb hby d2_32) rfl rfl ?_
    show Steps p.tables e below (T3.setTop (mkF m 33 #[.val (.ref a0), .val (.ref a1), .val (.int p2), .val (.int p3)] [(.ref a0)])) _
    refine XS.iloadN X3.here hx rfl (hb hby d2_33) rfl ?_
    show Steps p.tables e below (T3.setTop (mkF m 34 #[.val (.ref a0), .val (.ref a1), .val (.int p2), .val (.int p3)] [(.int p2), (.ref a0)])) _
    refine st4 _ ?_
    show Steps p.tables e below (T4.setTop (mkF m 37 #[.val (.ref a0), .val (.ref a1), .val (.int p2), .val (.int p3)] [])) _
    refine XS.aloadN X4.here hx rfl (hb hby d2_37) rfl rfl ?_
    show Steps p.tables e below (T4.setTop (mkF m 38 #[.val (.ref a0), .val (.ref a1), .val (.int p2), .val (.int p3)] [(.ref a0)])) _
    refine XS.iloadN X4.here hx rfl (hb hby d2_38) rfl ?_
    show Steps p.tables e below (T4.setTop (mkF m 39 #[.val (.ref a0), .val (.ref a1), .val (.int p2), .val (.int p3)] [(.int p3), (.ref a0)])) _
    refine st5 _ ?_
    show Steps p.tables e below (T5.setTop (mkF m 42 #[.val (.ref a0), .val (.ref a1), .val (.int p2), .val (.int p3)] [])) _
    refine XS.aloadN X5.here hx rfl (hb hby d2_42) rfl rfl ?_
    show Steps p.tables e below (T5.setTop (mkF m 43 #[.val (.ref a0), .val (.ref a1), .val (.int p2), .val (.int p3)] [(.ref a0)])) _
    refine XS.iloadN X5.here hx rfl (hb hby d2_43) rfl ?_
    show Steps p.tables e below (T5.setTop (mkF m 44 #[.val (.ref a0), .val (.ref a1), .val (.int p2), .val (.int p3)] [(.int p3), (.ref a0)])) _
    refine XS.iloadN X5.here hx rfl (hb hby d2_44) rfl ?_
    show Steps p.tables e below (T5.setTop (mkF m 45 #[.val (.ref a0), .val (.ref a1), .val (.int p2), .val (.int p3)] [(.int p2), (.int p3), (.ref a0)])) _
    refine XS.isub X5.here hx rfl (hb hby d2_45) rfl ?_
    show Steps p.tables e below (T5.setTop (mkF m 46 #[.val (.ref a0), .val (.ref a1), .val (.int p2), .val (.int p3)] [(.int (p3 - p2)), (.ref a0)])) _
    refine XS.i2l X5.here hx rfl (hb hby d2_46) rfl ?_
    show Steps p.tables e below (T5.setTop (mkF m 47 #[.val (.ref a0), .val (.ref a1), .val (.int p2), .val (.int p3)] [(.long ((p3 - p2).toInt64)), (.ref a0)])) _
    refine X5.ldc2Long hx hown (mvT hZ (hw _ (List.mem_of_getElem? (i := 21) rfl))) (g := (mkF m 47 #[.val (.ref a0), .val (.ref a1), .val (.int p2), .val (.int p3)] [(.long ((p3 - p2).toInt64)), (.ref a0)])) rfl (hb hby d2_47) _ ?_
    show Steps p.tables e below (T5.setTop (mkF m 50 #[.val (.ref a0), .val (.ref a1), .val (.int p2), .val (.int p3)] [(.long (8 : Int64)), (.long ((p3 - p2).toInt64)), (.ref a0)])) _
    refine XS.lmul X5.here hx rfl (hb hby d2_50) rfl ?_
    show Steps p.tables e below (T5.setTop (mkF m 51 #[.val (.ref a0), .val (.ref a1), .val (.int p2), .val (.int p3)] [(.long (((p3 - p2).toInt64) * (8 : Int64))), (.ref a0)])) _
    refine XS.aloadN X5.here hx rfl (hb hby d2_51) rfl rfl ?_
    show Steps p.tables e below (T5.setTop (mkF m 52 #[.val (.ref a0), .val (.ref a1), .val (.int p2), .val (.int p3)] [(.ref a1), (.long (((p3 - p2).toInt64) * (8 : Int64))), (.ref a0)])) _
    refine XS.iloadN X5.here hx rfl (hb hby d2_52) rfl ?_
    show Steps p.tables e below (T5.setTop (mkF m 53 #[.val (.ref a0), .val (.ref a1), .val (.int p2), .val (.int p3)] [(.int p3), (.ref a1), (.long (((p3 - p2).toInt64) * (8 : Int64))), (.ref a0)])) _
    refine XS.iconst X5.here hx rfl (hb hby d2_53) ?_
    show Steps p.tables e below (T5.setTop (mkF m 54 #[.val (.ref a0), .val (.ref a1), .val (.int p2), .val (.int p3)] [(.int (1 : Int32)), (.int p3), (.ref a1), (.long (((p3 - p2).toInt64) * (8 : Int64))), (.ref a0)])) _
    refine XS.isub X5.here hx rfl (hb hby d2_54) rfl ?_
    show Steps p.tables e below (T5.setTop (mkF m 55 #[.val (.ref a0), .val (.ref a1), .val (.int p2), .val (.int p3)] [(.int (p3 - (1 : Int32))), (.ref a1), (.long (((p3 - p2).toInt64) * (8 : Int64))), (.ref a0)])) _
    refine X5.baloadBytes hx (j := (p3 - (1 : Int32))) (v := (.int wb)) (by rw [e5]; exact Ar6.1) (State.isArrayOf_alike hZ.alike Ar6.2.1) Ar6.2.2 hin6 hat6 (g := (mkF m 55 #[.val (.ref a0), .val (.ref a1), .val (.int p2), .val (.int p3)] [(.int (p3 - (1 : Int32))), (.ref a1), (.long (((p3 - p2).toInt64) * (8 : Int64))), (.ref a0)])) rfl rfl (hb hby d2_55) _ ?_
    show Steps p.tables e below (T5.setTop (mkF m 56 #[.val (.ref a0), .val (.ref a1), .val (.int p2), .val (.int p3)] [(.int wb), (.long (((p3 - p2).toInt64) * (8 : Int64))), (.ref a0)])) _
    refine XS.sipush X5.here hx rfl (hb hby d2_56) ?_
    show Steps p.tables e below (T5.setTop (mkF m 59 #[.val (.ref a0), .val (.ref a1), .val (.int p2), .val (.int p3)] [(.int (255 : Int32)), (.int wb), (.long (((p3 - p2).toInt64) * (8 : Int64))), (.ref a0)])) _
    refine XS.iand X5.here hx rfl (hb hby d2_59) rfl ?_
    show Steps p.tables e below (T5.setTop (mkF m 60 #[.val (.ref a0), .val (.ref a1), .val (.int p2), .val (.int p3)] [(.int (wb &&& (255 : Int32))), (.long (((p3 - p2).toInt64) * (8 : Int64))), (.ref a0)])) _
    refine st7 _ ?_
    show Steps p.tables e below (T7.setTop (mkF m 63 #[.val (.ref a0), .val (.ref a1), .val (.int p2), .val (.int p3)] [(.int (f4 (wb &&& (255 : Int32)))), (.long (((p3 - p2).toInt64) * (8 : Int64))), (.ref a0)])) _
    refine XS.i2l X7.here hx rfl (hb hby d2_63) rfl ?_
    show Steps p.tables e below (T7.setTop (mkF m 64 #[.val (.ref a0), .val (.ref a1), .val (.int p2), .val (.int p3)] [(.long ((f4 (wb &&& (255 : Int32))).toInt64)), (.long (((p3 - p2).toInt64) * (8 : Int64))), (.ref a0)])) _
    refine XS.lsub X7.here hx rfl (hb hby d2_64) rfl ?_
    show Steps p.tables e below (T7.setTop (mkF m 65 #[.val (.ref a0), .val (.ref a1), .val (.int p2), .val (.int p3)] [(.long ((((p3 - p2).toInt64) * (8 : Int64)) - ((f4 (wb &&& (255 : Int32))).toInt64))), (.ref a0)])) _
    refine X7.ldc2Long hx hown (mvT hZ (hw _ (List.mem_of_getElem? (i := 27) rfl))) (g := (mkF m 65 #[.val (.ref a0), .val (.ref a1), .val (.int p2), .val (.int p3)] [(.long ((((p3 - p2).toInt64) * (8 : Int64)) - ((f4 (wb &&& (255 : Int32))).toInt64))), (.ref a0)])) rfl (hb hby d2_65) _ ?_
    show Steps p.tables e below (T7.setTop (mkF m 68 #[.val (.ref a0), .val (.ref a1), .val (.int p2), .val (.int p3)] [(.long (24 : Int64)), (.long ((((p3 - p2).toInt64) * (8 : Int64)) - ((f4 (wb &&& (255 : Int32))).toInt64))), (.ref a0)])) _
    refine XS.ladd X7.here hx rfl (hb hby d2_68) rfl ?_
    show Steps p.tables e below (T7.setTop (mkF m 69 #[.val (.ref a0), .val (.ref a1), .val (.int p2), .val (.int p3)] [(.long (((((p3 - p2).toInt64) * (8 : Int64)) - ((f4 (wb &&& (255 : Int32))).toInt64)) + (24 : Int64))), (.ref a0)])) _
    refine XS.lconst X7.here hx rfl (hb hby d2_69) ?_
    show Steps p.tables e below (T7.setTop (mkF m 70 #[.val (.ref a0), .val (.ref a1), .val (.int p2), .val (.int p3)] [(.long (1 : Int64)), (.long (((((p3 - p2).toInt64) * (8 : Int64)) - ((f4 (wb &&& (255 : Int32))).toInt64)) + (24 : Int64))), (.ref a0)])) _
    refine XS.lsub X7.here hx rfl (hb hby d2_70) rfl ?_
    show Steps p.tables e below (T7.setTop (mkF m 71 #[.val (.ref a0), .val (.ref a1), .val (.int p2), .val (.int p3)] [(.long ((((((p3 - p2).toInt64) * (8 : Int64)) - ((f4 (wb &&& (255 : Int32))).toInt64)) + (24 : Int64)) - (1 : Int64))), (.ref a0)])) _
    refine st8 _ ?_
    exact kt
  obtain ⟨fs, hr, hrun, hended, hW, hsame⟩ := X8.leave (v := none) (fun _ => rfl) (BodyLoose.notSynchronized Bd)
  refine ⟨_, _, ?_, hrun, hended, _, _, rfl, ?_, ⟨_, rfl⟩, hW, hsame.mono (by decide) (by decide)⟩
  · show Steps p.tables e below (T8.setTop (mkF m 74 #[.val (.ref a0), .val (.ref a1), .val (.int p2), .val (.int p3)] [])) _
    exact X8.returnOut hx Bd.returns (hb hby d2_74) hr
  · show Q2 Z a0 a1 p2 p3 wb h0 n0 _ T8.heap _
    rw [e8]
    exact ⟨rfl, N8, K8, f8_0, Fw8⟩
theorem d5_0 : decode prog_51_method_6_code 0 = .ok (.aload_n 0, 1) := by decide +kernel
theorem d5_1 : decode prog_51_method_6_code 1 = .ok (.getfield 37, 3) := by decide +kernel
theorem d5_4 : decode prog_51_method_6_code 4 = .ok (.lconst 0, 1) := by decide +kernel
theorem d5_5 : decode prog_51_method_6_code 5 = .ok (.lcmp, 1) := by decide +kernel
theorem d5_6 : decode prog_51_method_6_code 6 = .ok (.ifCond .ne 7, 3) := by decide +kernel
theorem d5_9 : decode prog_51_method_6_code 9 = .ok (.iconst 1, 1) := by decide +kernel
theorem d5_10 : decode prog_51_method_6_code 10 = .ok (.goto 4, 3) := by decide +kernel
theorem d5_13 : decode prog_51_method_6_code 13 = .ok (.iconst 0, 1) := by decide +kernel
theorem d5_14 : decode prog_51_method_6_code 14 = .ok (.ireturn, 1) := by decide +kernel
theorem pn_5 : plainName "com/example/urial/urial/protocol/BackwardBitReader" = true := by first | (simp [plainName, overriddenIn]; done) | decide +kernel
theorem ef_5 (m : MethodId) (x0 : Addr) : entryFrame m #[(.ref x0)] 1 = mkF m 0 #[.val (.ref x0)] [] := by first | (simp [entryFrame, mkF, argsToLocals, Value.category]; done) | rfl
def f5 (w : Int64) : Int32 := (if w = (0 : Int64) then (1 : Int32) else (0 : Int32))
def Q5 (Z : State) (a0 : Addr) (w : Int64) (h0 : Heap) (n0 : Nat) (v : Option Value) (h : Heap) (L : List Loc) : Prop := v = some (.int (f5 w)) ∧ Fr n0 L ∧ h = h0
set_option maxRecDepth 65536 in
set_option maxHeartbeats 40000000 in
theorem rm5 (l : Launch) (Z : State) (aw : Array Value) (hw : ∀ d ∈ tables_1, d.before aw Z = true) (ws : List Jvm.Cond) (a0 : Addr) (w : Int64) (h0 : Heap) (n0 : Nat) (Z0 : n0 ≤ h0.size) (F_left_a0 : Fld Z h0 a0 "com/example/urial/urial/protocol/BackwardBitReader" "left" "J" (.long w)) :
    MetFree l (⟨"com/example/urial/urial/protocol/BackwardBitReader", "finished", "()Z"⟩ : MethodName) (head1 (Jvm.Cond.code (⟨"com/example/urial/urial/protocol/BackwardBitReader", "finished", "()Z"⟩ : MethodName) prog_51_method_6_code 1 (some .boolean) :: ws) ({ frames := 0, cells := 0, slots := 0, locals := 0 } : Room)) (fun a U => a = #[(.ref a0)] ∧ Z.Warmed39 U.vm ∧ U.heap = h0) (fun _ _ _ _ _ => True) (fun _ U o U' => ∃ v L, o = .returned v ∧ Q5 Z a0 w h0 n0 v U'.heap L ∧ FrameEnd U o U' L ({ frames := 0, cells := 0, slots := 0, locals := 0 } : Room).cells ({ frames := 0, cells := 0, slots := 0, locals := 0 } : Room).slots) := by
  refine MetFree.of_bodySF (plainFor_of_name pn_5) hisR ?_
  intro p e s m args below meth c s₁ Bd hml0 hP hK
  obtain ⟨rfl, hZ, hh⟩ := hP
  have hx := Bd.exec
  have hby := Bd.bytes
  have hml : c.maxLocals = 1 := hml0
  have hown : s.vm.findClass "com/example/urial/urial/protocol/BackwardBitReader" = some m.cls := findClass_of_methodNamed Bd.named
  have hnm := (name_of_methodNamed Bd.named Bd.method).1
  have X0 : Stand p l e ({ frames := 0, cells := 0, slots := 0, locals := 0 } : Room) s m #[(.ref a0)] below meth c s₁ [] 0 0 := Stand.of_body Bd
  have e0 : s₁.heap = h0 := by rw [← hh, Bd.state]; rfl
  have N0 := Fr.nil n0
  refine own_back (b := s₁.setTop (mkF m 0 #[.val (.ref a0)] [])) (fun t kt => castTop (ef_5 m a0) kt) ?_
  obtain ⟨T1, X1, e1, st1⟩ := getF X0 hx hZ hown (host := "") (Or.inl (hw _ (List.mem_of_getElem? (i := 28) rfl))) Via.refl e0 F_left_a0 (g := (mkF m 1 #[.val (.ref a0)] [(.ref a0)])) rfl rfl (hb hby d5_1)
  refine own_back (b := T1.setTop (mkF m 6 #[.val (.ref a0)] [(.int (lcmpW w (0 : Int64)))])) (fun t kt => ?_) ?_
  · show Steps p.tables e below (s₁.setTop (mkF m 0 #[.val (.ref a0)] [])) _
    refine XS.aloadN X0.here hx rfl (hb hby d5_0) rfl rfl ?_
    show Steps p.tables e below (s₁.setTop (mkF m 1 #[.val (.ref a0)] [(.ref a0)])) _
    refine st1 _ ?_
    show Steps p.tables e below (T1.setTop (mkF m 4 #[.val (.ref a0)] [(.long w)])) _
    refine XS.lconst X1.here hx rfl (hb hby d5_4) ?_
    show Steps p.tables e below (T1.setTop (mkF m 5 #[.val (.ref a0)] [(.long (0 : Int64)), (.long w)])) _
    refine XS.lcmp X1.here hx rfl (hb hby d5_5) rfl ?_
    exact kt
  by_cases hc6_2 : w = (0 : Int64)
  · refine own_back (b := T1.setTop (mkF m 14 #[.val (.ref a0)] [(.int (1 : Int32))])) (fun t kt => ?_) ?_
    · show Steps p.tables e below (T1.setTop (mkF m 6 #[.val (.ref a0)] [(.int (lcmpW w (0 : Int64)))])) _
      refine XS.ifNo X1.here hx rfl (hb hby d5_6) rfl ((if0 _ _).trans (teq ((lw_eq _ _).mpr hc6_2)).2) ?_
      show Steps p.tables e below (T1.setTop (mkF m 9 #[.val (.ref a0)] [])) _
      refine XS.iconst X1.here hx rfl (hb hby d5_9) ?_
      show Steps p.tables e below (T1.setTop (mkF m 10 #[.val (.ref a0)] [(.int (1 : Int32))])) _
      refine XS.goto X1.here hx rfl (pc0 := 10) (pc' := 14) rfl (hb hby d5_10) (by decide) (by decide) ?_
      exact kt
    obtain ⟨fs, hr, hrun, hended, hW, hsame⟩ := X1.leave (v := some (.int (1 : Int32))) (fun h => by rw [Bd.returns] at h; cases h) (BodyLoose.notSynchronized Bd)
    refine ⟨_, _, ?_, hrun, hended, _, _, rfl, ?_, ⟨_, rfl⟩, hW, hsame.mono (by decide) (by decide)⟩
    · show Steps p.tables e below (T1.setTop (mkF m 14 #[.val (.ref a0)] [(.int (1 : Int32))])) _
      exact retN X1 hx (t := .boolean) Bd.returns (by simp) (hb hby d5_14) hr
    · show Q5 Z a0 w h0 n0 _ T1.heap _
      rw [e1]
      exact ⟨by rw [show f5 w = (1 : Int32) from by unfold f5; rw [if_pos hc6_2]], N0, rfl⟩
  · refine own_back (b := T1.setTop (mkF m 14 #[.val (.ref a0)] [(.int (0 : Int32))])) (fun t kt => ?_) ?_
    · show Steps p.tables e below (T1.setTop (mkF m 6 #[.val (.ref a0)] [(.int (lcmpW w (0 : Int64)))])) _
      refine XS.ifYes X1.here hx rfl (pc0 := 6) (pc' := 13) rfl (hb hby d5_6) rfl ((if0 _ _).trans (feq (fun q => hc6_2 ((lw_eq _ _).mp q))).2) (by decide) (by decide) ?_
      show Steps p.tables e below (T1.setTop (mkF m 13 #[.val (.ref a0)] [])) _
      refine XS.iconst X1.here hx rfl (hb hby d5_13) ?_
      exact kt
    obtain ⟨fs, hr, hrun, hended, hW, hsame⟩ := X1.leave (v := some (.int (0 : Int32))) (fun h => by rw [Bd.returns] at h; cases h) (BodyLoose.notSynchronized Bd)
    refine ⟨_, _, ?_, hrun, hended, _, _, rfl, ?_, ⟨_, rfl⟩, hW, hsame.mono (by decide) (by decide)⟩
    · show Steps p.tables e below (T1.setTop (mkF m 14 #[.val (.ref a0)] [(.int (0 : Int32))])) _
      exact retN X1 hx (t := .boolean) Bd.returns (by simp) (hb hby d5_14) hr
    · show Q5 Z a0 w h0 n0 _ T1.heap _
      rw [e1]
      exact ⟨by rw [show f5 w = (0 : Int32) from by unfold f5; rw [if_neg hc6_2]], N0, rfl⟩
theorem d6_0 : decode prog_51_method_4_code 0 = .ok (.aload_n 0, 1) := by decide +kernel
theorem d6_1 : decode prog_51_method_4_code 1 = .ok (.dup, 1) := by decide +kernel
theorem d6_2 : decode prog_51_method_4_code 2 = .ok (.getfield 37, 3) := by decide +kernel
theorem d6_5 : decode prog_51_method_4_code 5 = .ok (.iload_n 1, 1) := by decide +kernel
theorem d6_6 : decode prog_51_method_4_code 6 = .ok (.i2l, 1) := by decide +kernel
theorem d6_7 : decode prog_51_method_4_code 7 = .ok (.lsub, 1) := by decide +kernel
theorem d6_8 : decode prog_51_method_4_code 8 = .ok (.putfield 37, 3) := by decide +kernel
theorem d6_11 : decode prog_51_method_4_code 11 = .ok (.return_, 1) := by decide +kernel
theorem pn_6 : plainName "com/example/urial/urial/protocol/BackwardBitReader" = true := by first | (simp [plainName, overriddenIn]; done) | decide +kernel
theorem ef_6 (m : MethodId) (x0 : Addr) (x1 : Int32) : entryFrame m #[(.ref x0), (.int x1)] 2 = mkF m 0 #[.val (.ref x0), .val (.int x1)] [] := by first | (simp [entryFrame, mkF, argsToLocals, Value.category]; done) | rfl
def Q6 (Z : State) (a0 : Addr) (p1 : Int32) (w : Int64) (h0 : Heap) (n0 : Nat) (v : Option Value) (h : Heap) (L : List Loc) : Prop := v = none ∧ Fr n0 L ∧ Keep h0 h [a0] ∧ Exa Z h a0 "com/example/urial/urial/protocol/BackwardBitReader" ∧ Fld Z h a0 "com/example/urial/urial/protocol/BackwardBitReader" "left" "J" (.long (w - (p1.toInt64)))
set_option maxRecDepth 65536 in
set_option maxHeartbeats 40000000 in
theorem rm6 (l : Launch) (Z : State) (aw : Array Value) (hw : ∀ d ∈ tables_1, d.before aw Z = true) (ws : List Jvm.Cond) (a0 : Addr) (p1 : Int32) (w : Int64) (h0 : Heap) (n0 : Nat) (Z0 : n0 ≤ h0.size) (F_left_a0 : Fld Z h0 a0 "com/example/urial/urial/protocol/BackwardBitReader" "left" "J" (.long w)) (E_a0 : Exa Z h0 a0 "com/example/urial/urial/protocol/BackwardBitReader") (g_a0 : n0 ≤ a0) :
    MetFree l (⟨"com/example/urial/urial/protocol/BackwardBitReader", "skip", "(I)V"⟩ : MethodName) (head1 (Jvm.Cond.code (⟨"com/example/urial/urial/protocol/BackwardBitReader", "skip", "(I)V"⟩ : MethodName) prog_51_method_4_code 2 none :: ws) ({ frames := 0, cells := 0, slots := 0, locals := 0 } : Room)) (fun a U => a = #[(.ref a0), (.int p1)] ∧ Z.Warmed39 U.vm ∧ U.heap = h0) (fun _ _ _ _ _ => True) (fun _ U o U' => ∃ v L, o = .returned v ∧ Q6 Z a0 p1 w h0 n0 v U'.heap L ∧ FrameEnd U o U' L ({ frames := 0, cells := 0, slots := 0, locals := 0 } : Room).cells ({ frames := 0, cells := 0, slots := 0, locals := 0 } : Room).slots) := by
  refine MetFree.of_bodySF (plainFor_of_name pn_6) hisR ?_
  intro p e s m args below meth c s₁ Bd hml0 hP hK
  obtain ⟨rfl, hZ, hh⟩ := hP
  have hx := Bd.exec
  have hby := Bd.bytes
  have hml : c.maxLocals = 2 := hml0
  have hown : s.vm.findClass "com/example/urial/urial/protocol/BackwardBitReader" = some m.cls := findClass_of_methodNamed Bd.named
  have hnm := (name_of_methodNamed Bd.named Bd.method).1
  have X0 : Stand p l e ({ frames := 0, cells := 0, slots := 0, locals := 0 } : Room) s m #[(.ref a0), (.int p1)] below meth c s₁ [] 0 0 := Stand.of_body Bd
  have e0 : s₁.heap = h0 := by rw [← hh, Bd.state]; rfl
  have N0 := Fr.nil n0
  refine own_back (b := s₁.setTop (mkF m 0 #[.val (.ref a0), .val (.int p1)] [])) (fun t kt => castTop (ef_6 m a0 p1) kt) ?_
  obtain ⟨T1, X1, e1, st1⟩ := getF X0 hx hZ hown (host := "") (Or.inl (hw _ (List.mem_of_getElem? (i := 28) rfl))) Via.refl e0 F_left_a0 (g := (mkF m 2 #[.val (.ref a0), .val (.int p1)] [(.ref a0), (.ref a0)])) rfl rfl (hb hby d6_2)
  obtain ⟨T2, h2, X2, e2, W2, st2⟩ := putF X1 hx hZ hown (host := "") (Or.inl (hw _ (List.mem_of_getElem? (i := 28) rfl))) Via.refl e1 F_left_a0 E_a0 (Or.inl (hw _ (List.mem_of_getElem? (i := 29) rfl))) (hw _ (List.mem_of_getElem? (i := 7) rfl)) (ty := .long) (by decide) rfl rfl (g := (mkF m 8 #[.val (.ref a0), .val (.int p1)] [(.long (w - (p1.toInt64))), (.ref a0)])) rfl rfl (hb hby d6_8)
  have Fw2 := F_left_a0.same W2
  have f2_0 := E_a0.wr W2
  have K2 : Keep h0 h2 [a0] := (Keep.refl h0 _).wr W2 (Or.inl (List.mem_of_getElem? (i := 0) rfl))
  have Z2 : n0 ≤ h2.size := Nat.le_trans Z0 (Keep.of_wr W2).1
  have N2 := Fr.snoc X2 N0 g_a0
  refine own_back (b := T2.setTop (mkF m 11 #[.val (.ref a0), .val (.int p1)] [])) (fun t kt => ?_) ?_
  · show Steps p.tables e below (s₁.setTop (mkF m 0 #[.val (.ref a0), .val (.int p1)] [])) _
    refine XS.aloadN X0.here hx rfl (hb hby d6_0) rfl rfl ?_
    show Steps p.tables e below (s₁.setTop (mkF m 1 #[.val (.ref a0), .val (.int p1)] [(.ref a0)])) _
    refine XS.dup X0.here hx rfl (hb hby d6_1) rfl rfl ?_
    show Steps p.tables e below (s₁.setTop (mkF m 2 #[.val (.ref a0), .val (.int p1)] [(.ref a0), (.ref a0)])) _
    refine st1 _ ?_
    show Steps p.tables e below (T1.setTop (mkF m 5 #[.val (.ref a0), .val (.int p1)] [(.long w), (.ref a0)])) _
    refine XS.iloadN X1.here hx rfl (hb hby d6_5) rfl ?_
    show Steps p.tables e below (T1.setTop (mkF m 6 #[.val (.ref a0), .val (.int p1)] [(.int p1), (.long w), (.ref a0)])) _
    refine XS.i2l X1.here hx rfl (hb hby d6_6) rfl ?_
    show Steps p.tables e below (T1.setTop (mkF m 7 #[.val (.ref a0), .val (.int p1)] [(.long (p1.toInt64)), (.long w), (.ref a0)])) _
    refine XS.lsub X1.here hx rfl (hb hby d6_7) rfl ?_
    show Steps p.tables e below (T1.setTop (mkF m 8 #[.val (.ref a0), .val (.int p1)] [(.long (w - (p1.toInt64))), (.ref a0)])) _
    refine st2 _ ?_
    exact kt
  obtain ⟨fs, hr, hrun, hended, hW, hsame⟩ := X2.leave (v := none) (fun _ => rfl) (BodyLoose.notSynchronized Bd)
  refine ⟨_, _, ?_, hrun, hended, _, _, rfl, ?_, ⟨_, rfl⟩, hW, hsame.mono (by decide) (by decide)⟩
  · show Steps p.tables e below (T2.setTop (mkF m 11 #[.val (.ref a0), .val (.int p1)] [])) _
    exact X2.returnOut hx Bd.returns (hb hby d6_11) hr
  · show Q6 Z a0 p1 w h0 n0 _ T2.heap _
    rw [e2]
    exact ⟨rfl, N2, K2, f2_0, Fw2⟩
theorem pn_0 : plainName "com/example/urial/urial/protocol/BackwardBitReaderFinishedPinLaw" = true := by first | (simp [plainName, overriddenIn]; done) | decide +kernel
theorem pd_0_0 : parseMethodDescriptor "(I)I" = some ⟨[.int], some .int⟩ := by decide +kernel
theorem pd_0_1 : parseMethodDescriptor "([BII)V" = some ⟨[(.array .byte), .int, .int], none⟩ := by decide +kernel
theorem pd_0_2 : parseMethodDescriptor "()Z" = some ⟨[], some .boolean⟩ := by decide +kernel
theorem pd_0_3 : parseMethodDescriptor "(I)V" = some ⟨[.int], none⟩ := by decide +kernel
theorem ef_0 (m : MethodId) (x0 : Int32) (x1 : Int32) (x2 : Int32) (x3 : Int32) (x4 : Int32) : entryFrame m #[(.int x0), (.int x1), (.int x2), (.int x3), (.int x4)] maxLocals = mkF m 0 #[.val (.int x0), .val (.int x1), .val (.int x2), .val (.int x3), .val (.int x4), .unset, .unset, .unset, .unset, .unset, .unset, .unset, .unset, .unset, .unset, .unset, .unset] [] := by first | (simp [entryFrame, mkF, argsToLocals, Value.category, maxLocals]; done) | rfl
def m0_0 (p0 : Int32) (p1 : Int32) (p2 : Int32) (p3 : Int32) (p4 : Int32) : Int32 := ((1 : Int32) + ((((p0.toUInt32 >>> ((1 : Int32) &&& 31).toUInt32).toInt32) &&& (3 : Int32)) % (3 : Int32)))
def m0_1 (p0 : Int32) (p1 : Int32) (p2 : Int32) (p3 : Int32) (p4 : Int32) : Int32 := ((p0 &&& (1 : Int32)) + (m0_0 p0 p1 p2 p3 p4))
def m0_2 (p0 : Int32) (p1 : Int32) (p2 : Int32) (p3 : Int32) (p4 : Int32) : Int32 := ((1 : Int32) + ((p1 &&& (2147483647 : Int32)) % (255 : Int32)))
def m0_3 (p0 : Int32) (p1 : Int32) (p2 : Int32) (p3 : Int32) (p4 : Int32) : Int32 := (((8 : Int32) * ((m0_0 p0 p1 p2 p3 p4) - (1 : Int32))) + (f1 (m0_2 p0 p1 p2 p3 p4)))
def m0_4 (p0 : Int32) (p1 : Int32) (p2 : Int32) (p3 : Int32) (p4 : Int32) : Int32 := (if (m0_3 p0 p1 p2 p3 p4) = (0 : Int32) then (1 : Int32) else (0 : Int32))
def m0_5 (p0 : Int32) (p1 : Int32) (p2 : Int32) (p3 : Int32) (p4 : Int32) : Int32 := (if (f5 (((((((m0_1 p0 p1 p2 p3 p4) - (p0 &&& (1 : Int32))).toInt64) * (8 : Int64)) - ((f4 ((((m0_2 p0 p1 p2 p3 p4).toInt8.toInt32).toInt8.toInt32) &&& (255 : Int32))).toInt64)) + (24 : Int64)) - (1 : Int64))) = (m0_4 p0 p1 p2 p3 p4) then (1 : Int32) else (0 : Int32))
def m0_6 (p0 : Int32) (p1 : Int32) (p2 : Int32) (p3 : Int32) (p4 : Int32) : Int32 := (if (p3 &&& (31 : Int32)) = (m0_3 p0 p1 p2 p3 p4) then (1 : Int32) else (0 : Int32))
def m0_7 (p0 : Int32) (p1 : Int32) (p2 : Int32) (p3 : Int32) (p4 : Int32) : Int32 := (if (f5 ((((((((m0_1 p0 p1 p2 p3 p4) - (p0 &&& (1 : Int32))).toInt64) * (8 : Int64)) - ((f4 ((((m0_2 p0 p1 p2 p3 p4).toInt8.toInt32).toInt8.toInt32) &&& (255 : Int32))).toInt64)) + (24 : Int64)) - (1 : Int64)) - ((p3 &&& (31 : Int32)).toInt64))) = (m0_6 p0 p1 p2 p3 p4) then (1 : Int32) else (0 : Int32))
def m0_8 (p0 : Int32) (p1 : Int32) (p2 : Int32) (p3 : Int32) (p4 : Int32) : Int32 := (if ((p3 &&& (31 : Int32)) + (p4 &&& (31 : Int32))) = (m0_3 p0 p1 p2 p3 p4) then (1 : Int32) else (0 : Int32))
def m0_9 (p0 : Int32) (p1 : Int32) (p2 : Int32) (p3 : Int32) (p4 : Int32) : Int32 := (if (f5 (((((((((m0_1 p0 p1 p2 p3 p4) - (p0 &&& (1 : Int32))).toInt64) * (8 : Int64)) - ((f4 ((((m0_2 p0 p1 p2 p3 p4).toInt8.toInt32).toInt8.toInt32) &&& (255 : Int32))).toInt64)) + (24 : Int64)) - (1 : Int64)) - ((p3 &&& (31 : Int32)).toInt64)) - ((p4 &&& (31 : Int32)).toInt64))) = (m0_8 p0 p1 p2 p3 p4) then (1 : Int32) else (0 : Int32))
theorem own_n (p0 p1 p2 p3 p4 : Int32) : 1 ≤ (m0_0 p0 p1 p2 p3 p4).toInt ∧ (m0_0 p0 p1 p2 p3 p4).toInt ≤ 3 := by
  unfold m0_0
  generalize ((p0.toUInt32 >>> ((1 : Int32) &&& 31).toUInt32).toInt32) = z
  have h := c_mask z 3 2 (by decide) (by decide)
  have h2 := (c_irem (z &&& 3) 3 3 rfl).1
  have h3 := c_iadd 1 ((z &&& 3) % 3)
  have r := rng32 ((1 : Int32) + (z &&& 3) % 3)
  have k1 : (1 : Int32).toInt = 1 := rfl
  have : (2 ^ 2 : Nat) = 4 := by decide
  omega
theorem own_s (p0 : Int32) : 0 ≤ (p0 &&& (1 : Int32)).toInt ∧ (p0 &&& (1 : Int32)).toInt ≤ 1 := by
  have h := c_mask p0 1 1 (by decide) (by decide)
  have : (2 ^ 1 : Nat) = 2 := by decide
  omega
theorem own_e (p0 p1 p2 p3 p4 : Int32) : (m0_1 p0 p1 p2 p3 p4).toInt = (p0 &&& (1 : Int32)).toInt + (m0_0 p0 p1 p2 p3 p4).toInt := by
  unfold m0_1
  have h1 := own_n p0 p1 p2 p3 p4
  have h2 := own_s p0
  have h3 := c_iadd (p0 &&& (1 : Int32)) (m0_0 p0 p1 p2 p3 p4)
  have r := rng32 ((p0 &&& (1 : Int32)) + (m0_0 p0 p1 p2 p3 p4))
  omega
theorem own_in (p0 p1 p2 p3 p4 : Int32) : ¬ ((m0_1 p0 p1 p2 p3 p4) - (1 : Int32)) < 0 ∧ ((m0_1 p0 p1 p2 p3 p4) - (1 : Int32)) < (4 : Int32) := by
  have h0 := own_e p0 p1 p2 p3 p4
  have h1 := own_n p0 p1 p2 p3 p4
  have h2 := own_s p0
  have h3 := c_isub (m0_1 p0 p1 p2 p3 p4) 1
  have r := rng32 ((m0_1 p0 p1 p2 p3 p4) - (1 : Int32))
  have k1 : (1 : Int32).toInt = 1 := rfl
  have k0 : (0 : Int32).toInt = 0 := rfl
  have k4 : (4 : Int32).toInt = 4 := rfl
  rw [Int32.lt_iff_toInt_lt, Int32.lt_iff_toInt_lt, k0, k4]
  omega
theorem own_lt (p0 p1 p2 p3 p4 : Int32) : (p0 &&& (1 : Int32)) < (m0_1 p0 p1 p2 p3 p4) := by
  have h0 := own_e p0 p1 p2 p3 p4
  have h1 := own_n p0 p1 p2 p3 p4
  rw [Int32.lt_iff_toInt_lt]
  omega
theorem own_v (p0 p1 p2 p3 p4 : Int32) : 1 ≤ (m0_2 p0 p1 p2 p3 p4).toInt ∧ (m0_2 p0 p1 p2 p3 p4).toInt ≤ 255 := by
  unfold m0_2
  have h := c_mask p1 2147483647 31 (by decide) (by decide)
  have h2 := (c_irem (p1 &&& 2147483647) 255 255 rfl).1
  have h3 := c_iadd 1 ((p1 &&& 2147483647) % 255)
  have r := rng32 ((1 : Int32) + (p1 &&& 2147483647) % 255)
  have k1 : (1 : Int32).toInt = 1 := rfl
  have : (2 ^ 31 : Nat) = 2147483648 := by decide
  omega
theorem own_255 (P : Int32 → Prop) (k : Int32) (h : 1 ≤ k.toInt ∧ k.toInt ≤ 255) (hP : ∀ n : Fin 255, P (Int32.ofNat (n.val + 1))) : P k := by
  have e : k = Int32.ofNat ((k.toInt - 1).toNat + 1) := by
    apply Int32.toInt_inj.mp
    rw [Int32.toInt_ofNat_of_lt (by omega)]; omega
  rw [e]
  exact hP ⟨(k.toInt - 1).toNat, by omega⟩
theorem own_wb (k : Int32) (h : 1 ≤ k.toInt ∧ k.toInt ≤ 255) : ¬ ((k.toInt8.toInt32).toInt8.toInt32) = (0 : Int32) := own_255 (fun k => ¬ ((k.toInt8.toInt32).toInt8.toInt32) = (0 : Int32)) k h (by decide +kernel)
theorem own_nlz (k : Int32) (h : 1 ≤ k.toInt ∧ k.toInt ≤ 255) : f4 (((k.toInt8.toInt32).toInt8.toInt32) &&& (255 : Int32)) = 31 - f1 k ∧ 0 ≤ (f1 k).toInt ∧ (f1 k).toInt ≤ 7 := own_255 (fun k => f4 (((k.toInt8.toInt32).toInt8.toInt32) &&& (255 : Int32)) = 31 - f1 k ∧ 0 ≤ (f1 k).toInt ∧ (f1 k).toInt ≤ 7) k h (by decide +kernel)
def f0 (p0 : Int32) (p1 : Int32) (p2 : Int32) (p3 : Int32) (p4 : Int32) : Int32 := (if (m0_5 p0 p1 p2 p3 p4) = (0 : Int32) then (0 : Int32) else (if (m0_7 p0 p1 p2 p3 p4) = (0 : Int32) then (0 : Int32) else (if (m0_9 p0 p1 p2 p3 p4) = (0 : Int32) then (0 : Int32) else (1 : Int32))))
def Q0 (Z : State) (p0 : Int32) (p1 : Int32) (p2 : Int32) (p3 : Int32) (p4 : Int32) (h0 : Heap) (n0 : Nat) (v : Option Value) (h : Heap) (L : List Loc) : Prop := v = some (.int (f0 p0 p1 p2 p3 p4)) ∧ Fr n0 L
set_option maxRecDepth 65536 in
set_option maxHeartbeats 40000000 in
theorem rm0 (l : Launch) (Z : State) (aw : Array Value) (hw : ∀ d ∈ tables_1, d.before aw Z = true) (ws : List Jvm.Cond) (p0 : Int32) (p1 : Int32) (p2 : Int32) (p3 : Int32) (p4 : Int32) (h0 : Heap) (n0 : Nat) (Z0 : n0 ≤ h0.size) :
    MetFree l x (head1 (Jvm.Cond.code x code maxLocals ret :: ws) room_1) (fun a U => a = #[(.int p0), (.int p1), (.int p2), (.int p3), (.int p4)] ∧ Z.Warmed39 U.vm ∧ U.heap = h0) (fun _ _ _ _ _ => True) (fun _ U o U' => ∃ v L, o = .returned v ∧ Q0 Z p0 p1 p2 p3 p4 h0 n0 v U'.heap L ∧ FrameEnd U o U' L room_1.cells room_1.slots) := by
  refine MetFree.of_bodySF (plainFor_of_name pn_0) hisR ?_
  intro p e s m args below meth c s₁ Bd hml0 hP hK
  obtain ⟨rfl, hZ, hh⟩ := hP
  have hx := Bd.exec
  have hby := Bd.bytes
  have hml : c.maxLocals = 17 := hml0
  have hown : s.vm.findClass "com/example/urial/urial/protocol/BackwardBitReaderFinishedPinLaw" = some m.cls := findClass_of_methodNamed Bd.named
  have hnm := (name_of_methodNamed Bd.named Bd.method).1
  have X0 : Stand p l e room_1 s m #[(.int p0), (.int p1), (.int p2), (.int p3), (.int p4)] below meth c s₁ [] 0 0 := Stand.of_body Bd
  have e0 : s₁.heap = h0 := by rw [← hh, Bd.state]; rfl
  have N0 := Fr.nil n0
  refine own_back (b := s₁.setTop (mkF m 0 #[.val (.int p0), .val (.int p1), .val (.int p2), .val (.int p3), .val (.int p4), .unset, .unset, .unset, .unset, .unset, .unset, .unset, .unset, .unset, .unset, .unset, .unset] [])) (fun t kt => castTop (ef_0 m p0 p1 p2 p3 p4) kt) ?_
  obtain ⟨T1, h1, k1, X1, e1, E1, A1, st1⟩ := newP X0 hx hZ (hw _ (List.mem_of_getElem? (i := 0) rfl)) e0 (g := (mkF m 24 #[.val (.int p0), .val (.int p1), .val (.int p2), .val (.int p3), .val (.int p4), .val (.int (p0 &&& (1 : Int32))), .val (.int (m0_0 p0 p1 p2 p3 p4)), .val (.int (m0_1 p0 p1 p2 p3 p4)), .unset, .unset, .unset, .unset, .unset, .unset, .unset, .unset, .unset] [(.int (4 : Int32))])) rfl (hb hby at_24) rfl (by decide) (cap := 4) (by decide) (by decide) (by decide) (by decide)
  obtain ⟨b1, g1⟩ : ∃ z, z = h0.size := ⟨_, rfl⟩
  rw [← g1] at A1 st1
  have lo1 : n0 ≤ b1 := Nat.le_trans Z0 (Nat.le_of_eq g1.symm)
  have sz1 : h0.size ≤ b1 := Nat.le_trans (Nat.le_refl _) (Nat.le_of_eq g1.symm)
  have K1 : Keep h0 h1 [] := (Keep.refl h0 _).ext E1
  have Z1 : n0 ≤ h1.size := Nat.le_trans Z0 E1.1
  have V1 : Arv Z h1 b1 k1 .byte (4 : Int32) [(.int (0 : Int32)), (.int (0 : Int32)), (.int (0 : Int32)), (.int (0 : Int32))] (.int (0 : Int32)) := (Arv.new A1 (by decide)).pad (pad_rep [] (.int (0 : Int32)) 4)
  obtain ⟨cl2, Ar2, qk2, S2, N2', Hh2, G2⟩ := own_same V1
  have hin2 : ¬ ((0 : Int32) < 0 ∨ cl2.slots.size ≤ ((0 : Int32)).toNatClampNeg) := inb_of S2 ⟨by decide, by decide⟩
  obtain ⟨T3, h3, X3, e3, W3, st3⟩ := stB X1 hx hZ e1 Ar2 (j := (0 : Int32)) hin2 (g := (mkF m 33 #[.val (.int p0), .val (.int p1), .val (.int p2), .val (.int p3), .val (.int p4), .val (.int (p0 &&& (1 : Int32))), .val (.int (m0_0 p0 p1 p2 p3 p4)), .val (.int (m0_1 p0 p1 p2 p3 p4)), .val (.ref b1), .unset, .unset, .unset, .unset, .unset, .unset, .unset, .unset] [(.int (p2.toInt8.toInt32)), (.int (0 : Int32)), (.ref b1)])) rfl rfl (hb hby at_33)
  have V3 : Arv Z h3 b1 k1 .byte (4 : Int32) [(.int ((p2.toInt8.toInt32).toInt8.toInt32)), (.int (0 : Int32)), (.int (0 : Int32)), (.int (0 : Int32))] (.int (0 : Int32)) := Arv.set Ar2 qk2 S2 N2' Hh2 G2 (fits_nar_byte _) W3 0 rfl (Nat.le_of_ble_eq_true rfl)
  have K3 : Keep h0 h3 [] := K1.wr W3 (Or.inr sz1)
  have Z3 : n0 ≤ h3.size := Nat.le_trans Z1 (Keep.of_wr W3).1
  have N3 := Fr.snoc X3 N0 lo1
  obtain ⟨cl4, Ar4, qk4, S4, N4', Hh4, G4⟩ := own_same V3
  have hin4 : ¬ ((1 : Int32) < 0 ∨ cl4.slots.size ≤ ((1 : Int32)).toNatClampNeg) := inb_of S4 ⟨by decide, by decide⟩
  obtain ⟨T5, h5, X5, e5, W5, st5⟩ := stB X3 hx hZ e3 Ar4 (j := (1 : Int32)) hin4 (g := (mkF m 42 #[.val (.int p0), .val (.int p1), .val (.int p2), .val (.int p3), .val (.int p4), .val (.int (p0 &&& (1 : Int32))), .val (.int (m0_0 p0 p1 p2 p3 p4)), .val (.int (m0_1 p0 p1 p2 p3 p4)), .val (.ref b1), .unset, .unset, .unset, .unset, .unset, .unset, .unset, .unset] [(.int (((p2.toUInt32 >>> ((8 : Int32) &&& 31).toUInt32).toInt32).toInt8.toInt32)), (.int (1 : Int32)), (.ref b1)])) rfl rfl (hb hby at_42)
  have V5 : Arv Z h5 b1 k1 .byte (4 : Int32) [(.int ((p2.toInt8.toInt32).toInt8.toInt32)), (.int ((((p2.toUInt32 >>> ((8 : Int32) &&& 31).toUInt32).toInt32).toInt8.toInt32).toInt8.toInt32)), (.int (0 : Int32)), (.int (0 : Int32))] (.int (0 : Int32)) := Arv.set Ar4 qk4 S4 N4' Hh4 G4 (fits_nar_byte _) W5 1 rfl (Nat.le_of_ble_eq_true rfl)
  have K5 : Keep h0 h5 [] := K3.wr W5 (Or.inr sz1)
  have Z5 : n0 ≤ h5.size := Nat.le_trans Z3 (Keep.of_wr W5).1
  have N5 := Fr.snoc X5 N3 lo1
  obtain ⟨cl6, Ar6, qk6, S6, N6', Hh6, G6⟩ := own_same V5
  have hin6 : ¬ ((2 : Int32) < 0 ∨ cl6.slots.size ≤ ((2 : Int32)).toNatClampNeg) := inb_of S6 ⟨by decide, by decide⟩
  obtain ⟨T7, h7, X7, e7, W7, st7⟩ := stB X5 hx hZ e5 Ar6 (j := (2 : Int32)) hin6 (g := (mkF m 51 #[.val (.int p0), .val (.int p1), .val (.int p2), .val (.int p3), .val (.int p4), .val (.int (p0 &&& (1 : Int32))), .val (.int (m0_0 p0 p1 p2 p3 p4)), .val (.int (m0_1 p0 p1 p2 p3 p4)), .val (.ref b1), .unset, .unset, .unset, .unset, .unset, .unset, .unset, .unset] [(.int (((p2.toUInt32 >>> ((16 : Int32) &&& 31).toUInt32).toInt32).toInt8.toInt32)), (.int (2 : Int32)), (.ref b1)])) rfl rfl (hb hby at_51)
  have V7 : Arv Z h7 b1 k1 .byte (4 : Int32) [(.int ((p2.toInt8.toInt32).toInt8.toInt32)), (.int ((((p2.toUInt32 >>> ((8 : Int32) &&& 31).toUInt32).toInt32).toInt8.toInt32).toInt8.toInt32)), (.int ((((p2.toUInt32 >>> ((16 : Int32) &&& 31).toUInt32).toInt32).toInt8.toInt32).toInt8.toInt32)), (.int (0 : Int32))] (.int (0 : Int32)) := Arv.set Ar6 qk6 S6 N6' Hh6 G6 (fits_nar_byte _) W7 2 rfl (Nat.le_of_ble_eq_true rfl)
  have K7 : Keep h0 h7 [] := K5.wr W7 (Or.inr sz1)
  have Z7 : n0 ≤ h7.size := Nat.le_trans Z5 (Keep.of_wr W7).1
  have N7 := Fr.snoc X7 N5 lo1
  obtain ⟨cl8, Ar8, qk8, S8, N8', Hh8, G8⟩ := own_same V7
  have hin8 : ¬ ((3 : Int32) < 0 ∨ cl8.slots.size ≤ ((3 : Int32)).toNatClampNeg) := inb_of S8 ⟨by decide, by decide⟩
  obtain ⟨T9, h9, X9, e9, W9, st9⟩ := stB X7 hx hZ e7 Ar8 (j := (3 : Int32)) hin8 (g := (mkF m 60 #[.val (.int p0), .val (.int p1), .val (.int p2), .val (.int p3), .val (.int p4), .val (.int (p0 &&& (1 : Int32))), .val (.int (m0_0 p0 p1 p2 p3 p4)), .val (.int (m0_1 p0 p1 p2 p3 p4)), .val (.ref b1), .unset, .unset, .unset, .unset, .unset, .unset, .unset, .unset] [(.int (((p2.toUInt32 >>> ((24 : Int32) &&& 31).toUInt32).toInt32).toInt8.toInt32)), (.int (3 : Int32)), (.ref b1)])) rfl rfl (hb hby at_60)
  have V9 : Arv Z h9 b1 k1 .byte (4 : Int32) [(.int ((p2.toInt8.toInt32).toInt8.toInt32)), (.int ((((p2.toUInt32 >>> ((8 : Int32) &&& 31).toUInt32).toInt32).toInt8.toInt32).toInt8.toInt32)), (.int ((((p2.toUInt32 >>> ((16 : Int32) &&& 31).toUInt32).toInt32).toInt8.toInt32).toInt8.toInt32)), (.int ((((p2.toUInt32 >>> ((24 : Int32) &&& 31).toUInt32).toInt32).toInt8.toInt32).toInt8.toInt32))] (.int (0 : Int32)) := Arv.set Ar8 qk8 S8 N8' Hh8 G8 (fits_nar_byte _) W9 3 rfl (Nat.le_of_ble_eq_true rfl)
  have K9 : Keep h0 h9 [] := K7.wr W9 (Or.inr sz1)
  have Z9 : n0 ≤ h9.size := Nat.le_trans Z7 (Keep.of_wr W9).1
  have N9 := Fr.snoc X9 N7 lo1
  obtain ⟨cl10, Ar10, qk10, S10, N10', Hh10, G10⟩ := own_same V9
  have hin10 : ¬ (((m0_1 p0 p1 p2 p3 p4) - (1 : Int32)) < 0 ∨ cl10.slots.size ≤ (((m0_1 p0 p1 p2 p3 p4) - (1 : Int32))).toNatClampNeg) := inb_of S10 (own_in p0 p1 p2 p3 p4)
  obtain ⟨T11, h11, X11, e11, W11, st11⟩ := stB X9 hx hZ e9 Ar10 (j := ((m0_1 p0 p1 p2 p3 p4) - (1 : Int32))) hin10 (g := (mkF m 82 #[.val (.int p0), .val (.int p1), .val (.int p2), .val (.int p3), .val (.int p4), .val (.int (p0 &&& (1 : Int32))), .val (.int (m0_0 p0 p1 p2 p3 p4)), .val (.int (m0_1 p0 p1 p2 p3 p4)), .val (.ref b1), .val (.int (m0_2 p0 p1 p2 p3 p4)), .unset, .unset, .unset, .unset, .unset, .unset, .unset] [(.int ((m0_2 p0 p1 p2 p3 p4).toInt8.toInt32)), (.int ((m0_1 p0 p1 p2 p3 p4) - (1 : Int32))), (.ref b1)])) rfl rfl (hb hby at_82)
  have L11 : ElA Z h11 b1 .byte ((m0_1 p0 p1 p2 p3 p4) - (1 : Int32)) (.int (((m0_2 p0 p1 p2 p3 p4).toInt8.toInt32).toInt8.toInt32)) := ElA.store Ar10 hin10 W11
  have K11 : Keep h0 h11 [] := K9.wr W11 (Or.inr sz1)
  have Z11 : n0 ≤ h11.size := Nat.le_trans Z9 (Keep.of_wr W11).1
  have N11 := Fr.snoc X11 N9 lo1
  obtain ⟨_, _, ⟨T12, L12, k12, n12⟩, -, X12, ⟨Lc12, hQ12, l12, y12, z12⟩, st12⟩ := Jvm.LawKit.callS X11 hx (y := (⟨"com/example/urial/urial/protocol/BackwardBitReaderFinishedPinLaw", "highBit", "(I)I"⟩ : MethodName)) hown (mvT hZ (hw _ (List.mem_of_getElem? (i := 2) rfl))) (mvT hZ (hw _ (List.mem_of_getElem? (i := 3) rfl))) (mvT hZ (hw _ (List.mem_of_getElem? (i := 4) rfl))) (mvT hZ (hw _ (List.mem_of_getElem? (i := 5) rfl))) (by decide) (backOf (W := 1) (rm1 l Z aw hw [] (m0_2 p0 p1 p2 p3 p4) h11 n0 Z11 ) hZ (hw _ (List.mem_of_getElem? (i := 5) rfl)) (hw _ (List.mem_of_getElem? (i := 4) rfl)) (by decide) (by decide)) (g := (mkF m 92 #[.val (.int p0), .val (.int p1), .val (.int p2), .val (.int p3), .val (.int p4), .val (.int (p0 &&& (1 : Int32))), .val (.int (m0_0 p0 p1 p2 p3 p4)), .val (.int (m0_1 p0 p1 p2 p3 p4)), .val (.ref b1), .val (.int (m0_2 p0 p1 p2 p3 p4)), .unset, .unset, .unset, .unset, .unset, .unset, .unset] [(.int (m0_2 p0 p1 p2 p3 p4)), (.int ((8 : Int32) * ((m0_0 p0 p1 p2 p3 p4) - (1 : Int32))))])) rfl (by rw [hml]; rfl) (argsL := [(.int (m0_2 p0 p1 p2 p3 p4))]) (rest := [(.int ((8 : Int32) * ((m0_0 p0 p1 p2 p3 p4) - (1 : Int32))))]) (lenOf pd_0_0 rfl) rfl (by show 2 * 0 + _ ≤ _; exact Nat.le_of_eq rfl) (hb hby at_92) (fun _ _ => ⟨rfl, e11, (by decide : 1 + 0 ≤ _), (by decide : 4 + 0 ≤ _)⟩)
  dsimp only [Pt.U, Pt.locs, Pt.cells, Pt.slots] at X12 l12 y12 z12 st12 hQ12
  subst l12 y12 z12
  obtain ⟨rfl, Nq12, e12⟩ := hQ12
  have N12 := Fr.app N11 Nq12
  obtain ⟨T13, h13, X13, e13, E13, A13, D13, -, st13⟩ := newO X12 hx hZ hown (hw _ (List.mem_of_getElem? (i := 6) rfl)) (hw _ (List.mem_of_getElem? (i := 7) rfl)) (hw _ (List.mem_of_getElem? (i := 8) rfl)) e12 (g := (mkF m 111 #[.val (.int p0), .val (.int p1), .val (.int p2), .val (.int p3), .val (.int p4), .val (.int (p0 &&& (1 : Int32))), .val (.int (m0_0 p0 p1 p2 p3 p4)), .val (.int (m0_1 p0 p1 p2 p3 p4)), .val (.ref b1), .val (.int (m0_2 p0 p1 p2 p3 p4)), .val (.int (m0_3 p0 p1 p2 p3 p4)), .val (.int (p3 &&& (31 : Int32))), .val (.int (p4 &&& (31 : Int32))), .unset, .unset, .unset, .unset] [])) rfl (hb hby at_111) (by decide) (by decide)
  obtain ⟨b13, g13⟩ : ∃ z, z = h11.size := ⟨_, rfl⟩
  rw [← g13] at A13 D13 st13
  have ne13_b1 : b1 ≠ b13 := Nat.ne_of_lt (Nat.lt_of_lt_of_le L11.lt (Nat.le_of_eq g13.symm))
  have lo13 : n0 ≤ b13 := Nat.le_trans Z11 (Nat.le_of_eq g13.symm)
  have sz13 : h0.size ≤ b13 := Nat.le_trans K11.1 (Nat.le_of_eq g13.symm)
  have f13_0 := L11.ext E13
  have K13 := K11.ext E13
  have Z13 : n0 ≤ h13.size := Nat.le_trans Z11 E13.1
  have F13_bytes : Fld Z h13 b13 "com/example/urial/urial/protocol/BackwardBitReader" "bytes" "[B" .null := D13 (Or.inr (hw _ (List.mem_of_getElem? (i := 16) rfl))) (ty := (.array .byte)) (by decide)
  have F13_start : Fld Z h13 b13 "com/example/urial/urial/protocol/BackwardBitReader" "start" "I" (.int (0 : Int32)) := D13 (Or.inr (hw _ (List.mem_of_getElem? (i := 18) rfl))) (ty := .int) (by decide)
  have F13_end : Fld Z h13 b13 "com/example/urial/urial/protocol/BackwardBitReader" "end" "I" (.int (0 : Int32)) := D13 (Or.inr (hw _ (List.mem_of_getElem? (i := 20) rfl))) (ty := .int) (by decide)
  have F13_left : Fld Z h13 b13 "com/example/urial/urial/protocol/BackwardBitReader" "left" "J" (.long (0 : Int64)) := D13 (Or.inl (hw _ (List.mem_of_getElem? (i := 29) rfl))) (ty := .long) (by decide)
  obtain ⟨_, _, ⟨T14, L14, k14, n14⟩, -, X14, ⟨Lc14, hQ14, l14, y14, z14⟩, st14⟩ := X13.specialBack hx (y := (⟨"com/example/urial/urial/protocol/BackwardBitReader", "<init>", "([BII)V"⟩ : MethodName)) rfl hown (mvT hZ (hw _ (List.mem_of_getElem? (i := 9) rfl))) (mvT hZ (hw _ (List.mem_of_getElem? (i := 10) rfl))) (mvT hZ (hw _ (List.mem_of_getElem? (i := 11) rfl))) (by decide) (backOf (W := 1) (rm2 l Z aw hw [] b13 b1 (p0 &&& (1 : Int32)) (m0_1 p0 p1 p2 p3 p4) (((m0_2 p0 p1 p2 p3 p4).toInt8.toInt32).toInt8.toInt32) h13 n0 Z13 F13_bytes F13_start F13_end F13_left A13 lo13 f13_0 ne13_b1 (own_lt p0 p1 p2 p3 p4) (own_wb _ (own_v p0 p1 p2 p3 p4))) hZ (hw _ (List.mem_of_getElem? (i := 11) rfl)) (hw _ (List.mem_of_getElem? (i := 8) rfl)) (by decide) (by decide)) (g := (mkF m 121 #[.val (.int p0), .val (.int p1), .val (.int p2), .val (.int p3), .val (.int p4), .val (.int (p0 &&& (1 : Int32))), .val (.int (m0_0 p0 p1 p2 p3 p4)), .val (.int (m0_1 p0 p1 p2 p3 p4)), .val (.ref b1), .val (.int (m0_2 p0 p1 p2 p3 p4)), .val (.int (m0_3 p0 p1 p2 p3 p4)), .val (.int (p3 &&& (31 : Int32))), .val (.int (p4 &&& (31 : Int32))), .unset, .unset, .unset, .unset] [(.int (m0_1 p0 p1 p2 p3 p4)), (.int (p0 &&& (1 : Int32))), (.ref b1), (.ref b13), (.ref b13)])) rfl (by rw [hml]; rfl) (Steps.refl _) (a := b13) (argsL := [(.ref b1), (.int (p0 &&& (1 : Int32))), (.int (m0_1 p0 p1 p2 p3 p4))]) (rest := [(.ref b13)]) (lenOf pd_0_1 rfl) rfl (by show 2 * 0 + _ ≤ _; exact Nat.le_of_eq rfl) (hb hby at_121) (fun _ _ => ⟨rfl, e13, (by decide : 2 + 0 ≤ _), (by decide : 8 + 0 ≤ _)⟩)
  dsimp only [Pt.U, Pt.locs, Pt.cells, Pt.slots] at X14 l14 y14 z14 st14 hQ14
  subst l14 y14 z14
  obtain ⟨rfl, Nq14, Kq14, P14_0, P14_1⟩ := hQ14
  have N14 := Fr.app N12 Nq14
  have f14_0 := f13_0.keep Kq14 (ninS ne13_b1 nin0)
  have K14 : Keep h0 T14.heap [] := K13.trans Kq14 (allS (Or.inr sz13) all0)
  have Z14 : n0 ≤ T14.heap.size := Nat.le_trans Z13 Kq14.1
  obtain ⟨cq15, kq15, q15a, q15b, q15c⟩ := isOf hZ rfl P14_0
  obtain ⟨_, _, ⟨T15, L15, k15, n15⟩, -, X15, ⟨Lc15, hQ15, l15, y15, z15⟩, st15⟩ := X14.virtualBack hx (y := (⟨"com/example/urial/urial/protocol/BackwardBitReader", "finished", "()Z"⟩ : MethodName)) (z := (⟨"com/example/urial/urial/protocol/BackwardBitReader", "finished", "()Z"⟩ : MethodName)) hown (mvT hZ (hw _ (List.mem_of_getElem? (i := 30) rfl))) (mvT hZ (hw _ (List.mem_of_getElem? (i := 31) rfl))) (notFace_of_selects (args := #[]) (mvT hZ (hw _ (List.mem_of_getElem? (i := 33) rfl)))) (mvT hZ (hw _ (List.mem_of_getElem? (i := 33) rfl))) (mvT hZ (hw _ (List.mem_of_getElem? (i := 32) rfl))) (by decide) (backOf (W := 0) (rm5 l Z aw hw [] b13 (((((((m0_1 p0 p1 p2 p3 p4) - (p0 &&& (1 : Int32))).toInt64) * (8 : Int64)) - ((f4 ((((m0_2 p0 p1 p2 p3 p4).toInt8.toInt32).toInt8.toInt32) &&& (255 : Int32))).toInt64)) + (24 : Int64)) - (1 : Int64)) T14.heap n0 Z14 P14_1) hZ (hw _ (List.mem_of_getElem? (i := 34) rfl)) (hw _ (List.mem_of_getElem? (i := 8) rfl)) (by decide) (by decide)) q15a q15c (g := (mkF m 128 #[.val (.int p0), .val (.int p1), .val (.int p2), .val (.int p3), .val (.int p4), .val (.int (p0 &&& (1 : Int32))), .val (.int (m0_0 p0 p1 p2 p3 p4)), .val (.int (m0_1 p0 p1 p2 p3 p4)), .val (.ref b1), .val (.int (m0_2 p0 p1 p2 p3 p4)), .val (.int (m0_3 p0 p1 p2 p3 p4)), .val (.int (p3 &&& (31 : Int32))), .val (.int (p4 &&& (31 : Int32))), .val (.ref b13), .unset, .unset, .unset] [(.ref b13)])) rfl (by rw [hml]; rfl) (Steps.refl _) (argsL := []) (rest := []) (lenOf pd_0_2 rfl) rfl (by show 2 * 0 + _ ≤ _; exact Nat.le_of_eq rfl) (hb hby at_128) (fun _ _ => ⟨rfl, rfl, (by decide : 2 + 0 ≤ _), (by decide : 8 + 0 ≤ _)⟩)
  dsimp only [Pt.U, Pt.locs, Pt.cells, Pt.slots] at X15 l15 y15 z15 st15 hQ15
  subst l15 y15 z15
  obtain ⟨rfl, Nq15, e15⟩ := hQ15
  have N15 := Fr.app N14 Nq15
  refine own_back (b := T15.setTop (mkF m 133 #[.val (.int p0), .val (.int p1), .val (.int p2), .val (.int p3), .val (.int p4), .val (.int (p0 &&& (1 : Int32))), .val (.int (m0_0 p0 p1 p2 p3 p4)), .val (.int (m0_1 p0 p1 p2 p3 p4)), .val (.ref b1), .val (.int (m0_2 p0 p1 p2 p3 p4)), .val (.int (m0_3 p0 p1 p2 p3 p4)), .val (.int (p3 &&& (31 : Int32))), .val (.int (p4 &&& (31 : Int32))), .val (.ref b13), .unset, .unset, .unset] [(.int (m0_3 p0 p1 p2 p3 p4)), (.int (f5 (((((((m0_1 p0 p1 p2 p3 p4) - (p0 &&& (1 : Int32))).toInt64) * (8 : Int64)) - ((f4 ((((m0_2 p0 p1 p2 p3 p4).toInt8.toInt32).toInt8.toInt32) &&& (255 : Int32))).toInt64)) + (24 : Int64)) - (1 : Int64))))])) (fun t kt => ?_) ?_
  · show Steps p.tables e below (s₁.setTop (mkF m 0 #[.val (.int p0), .val (.int p1), .val (.int p2), .val (.int p3), .val (.int p4), .unset, .unset, .unset, .unset, .unset, .unset, .unset, .unset, .unset, .unset, .unset, .unset] [])) _
    refine XS.iloadN X0.here hx rfl (hb hby at_0) rfl ?_
    show Steps p.tables e below (s₁.setTop (mkF m 1 #[.val (.int p0), .val (.int p1), .val (.int p2), .val (.int p3), .val (.int p4), .unset, .unset, .unset, .unset, .unset, .unset, .unset, .unset, .unset, .unset, .unset, .unset] [(.int p0)])) _
    refine XS.iconst X0.here hx rfl (hb hby at_1) ?_
    show Steps p.tables e below (s₁.setTop (mkF m 2 #[.val (.int p0), .val (.int p1), .val (.int p2), .val (.int p3), .val (.int p4), .unset, .unset, .unset, .unset, .unset, .unset, .unset, .unset, .unset, .unset, .unset, .unset] [(.int (1 : Int32)), (.int p0)])) _
    refine XS.iand X0.here hx rfl (hb hby at_2) rfl ?_
    show Steps p.tables e below (s₁.setTop (mkF m 3 #[.val (.int p0), .val (.int p1), .val (.int p2), .val (.int p3), .val (.int p4), .unset, .unset, .unset, .unset, .unset, .unset, .unset, .unset, .unset, .unset, .unset, .unset] [(.int (p0 &&& (1 : Int32)))])) _
    refine XS.istore X0.here hx rfl (hb hby at_3) rfl (l' := #[.val (.int p0), .val (.int p1), .val (.int p2), .val (.int p3), .val (.int p4), .val (.int (p0 &&& (1 : Int32))), .unset, .unset, .unset, .unset, .unset, .unset, .unset, .unset, .unset, .unset, .unset]) rfl ?_
    show Steps p.tables e below (s₁.setTop (mkF m 5 #[.val (.int p0), .val (.int p1), .val (.int p2), .val (.int p3), .val (.int p4), .val (.int (p0 &&& (1 : Int32))), .unset, .unset, .unset, .unset, .unset, .unset, .unset, .unset, .unset, .unset, .unset] [])) _
    refine XS.iconst X0.here hx rfl (hb hby at_5) ?_
    show Steps p.tables e below (s₁.setTop (mkF m 6 #[.val (.int p0), .val (.int p1), .val (.int p2), .val (.int p3), .val (.int p4), .val (.int (p0 &&& (1 : Int32))), .unset, .unset, .unset, .unset, .unset, .unset, .unset, .unset, .unset, .unset, .unset] [(.int (1 : Int32))])) _
    refine XS.iloadN X0.here hx rfl (hb hby at_6) rfl ?_
    show Steps p.tables e below (s₁.setTop (mkF m 7 #[.val (.int p0), .val (.int p1), .val (.int p2), .val (.int p3), .val (.int p4), .val (.int (p0 &&& (1 : Int32))), .unset, .unset, .unset, .unset, .unset, .unset, .unset, .unset, .unset, .unset, .unset] [(.int p0), (.int (1 : Int32))])) _
    refine XS.iconst X0.here hx rfl (hb hby at_7) ?_
    show Steps p.tables e below (s₁.setTop (mkF m 8 #[.val (.int p0), .val (.int p1), .val (.int p2), .val (.int p3), .val (.int p4), .val (.int (p0 &&& (1 : Int32))), .unset, .unset, .unset, .unset, .unset, .unset, .unset, .unset, .unset, .unset, .unset] [(.int (1 : Int32)), (.int p0), (.int (1 : Int32))])) _
    refine XS.iushr X0.here hx rfl (hb hby at_8) rfl ?_
    show Steps p.tables e below (s₁.setTop (mkF m 9 #[.val (.int p0), .val (.int p1), .val (.int p2), .val (.int p3), .val (.int p4), .val (.int (p0 &&& (1 : Int32))), .unset, .unset, .unset, .unset, .unset, .unset, .unset, .unset, .unset, .unset, .unset] [(.int ((p0.toUInt32 >>> ((1 : Int32) &&& 31).toUInt32).toInt32)), (.int (1 : Int32))])) _
    refine XS.iconst X0.here hx rfl (hb hby at_9) ?_
    show Steps p.tables e below (s₁.setTop (mkF m 10 #[.val (.int p0), .val (.int p1), .val (.int p2), .val (.int p3), .val (.int p4), .val (.int (p0 &&& (1 : Int32))), .unset, .unset, .unset, .unset, .unset, .unset, .unset, .unset, .unset, .unset, .unset] [(.int (3 : Int32)), (.int ((p0.toUInt32 >>> ((1 : Int32) &&& 31).toUInt32).toInt32)), (.int (1 : Int32))])) _
    refine XS.iand X0.here hx rfl (hb hby at_10) rfl ?_
    show Steps p.tables e below (s₁.setTop (mkF m 11 #[.val (.int p0), .val (.int p1), .val (.int p2), .val (.int p3), .val (.int p4), .val (.int (p0 &&& (1 : Int32))), .unset, .unset, .unset, .unset, .unset, .unset, .unset, .unset, .unset, .unset, .unset] [(.int (((p0.toUInt32 >>> ((1 : Int32) &&& 31).toUInt32).toInt32) &&& (3 : Int32))), (.int (1 : Int32))])) _
    refine XS.iconst X0.here hx rfl (hb hby at_11) ?_
    show Steps p.tables e below (s₁.setTop (mkF m 12 #[.val (.int p0), .val (.int p1), .val (.int p2), .val (.int p3), .val (.int p4), .val (.int (p0 &&& (1 : Int32))), .unset, .unset, .unset, .unset, .unset, .unset, .unset, .unset, .unset, .unset, .unset] [(.int (3 : Int32)), (.int (((p0.toUInt32 >>> ((1 : Int32) &&& 31).toUInt32).toInt32) &&& (3 : Int32))), (.int (1 : Int32))])) _
    refine iremM X0 hx rfl (hb hby at_12) rfl (by decide) ?_
    show Steps p.tables e below (s₁.setTop (mkF m 13 #[.val (.int p0), .val (.int p1), .val (.int p2), .val (.int p3), .val (.int p4), .val (.int (p0 &&& (1 : Int32))), .unset, .unset, .unset, .unset, .unset, .unset, .unset, .unset, .unset, .unset, .unset] [(.int ((((p0.toUInt32 >>> ((1 : Int32) &&& 31).toUInt32).toInt32) &&& (3 : Int32)) % (3 : Int32))), (.int (1 : Int32))])) _
    refine XS.iadd X0.here hx rfl (hb hby at_13) rfl ?_
    show Steps p.tables e below (s₁.setTop (mkF m 14 #[.val (.int p0), .val (.int p1), .val (.int p2), .val (.int p3), .val (.int p4), .val (.int (p0 &&& (1 : Int32))), .unset, .unset, .unset, .unset, .unset, .unset, .unset, .unset, .unset, .unset, .unset] [(.int ((1 : Int32) + ((((p0.toUInt32 >>> ((1 : Int32) &&& 31).toUInt32).toInt32) &&& (3 : Int32)) % (3 : Int32))))])) _
    refine XS.istore X0.here hx rfl (hb hby at_14) rfl (l' := #[.val (.int p0), .val (.int p1), .val (.int p2), .val (.int p3), .val (.int p4), .val (.int (p0 &&& (1 : Int32))), .val (.int (m0_0 p0 p1 p2 p3 p4)), .unset, .unset, .unset, .unset, .unset, .unset, .unset, .unset, .unset, .unset]) rfl ?_
    show Steps p.tables e below (s₁.setTop (mkF m 16 #[.val (.int p0), .val (.int p1), .val (.int p2), .val (.int p3), .val (.int p4), .val (.int (p0 &&& (1 : Int32))), .val (.int (m0_0 p0 p1 p2 p3 p4)), .unset, .unset, .unset, .unset, .unset, .unset, .unset, .unset, .unset, .unset] [])) _
    refine XS.iload X0.here hx rfl (hb hby at_16) rfl ?_
    show Steps p.tables e below (s₁.setTop (mkF m 18 #[.val (.int p0), .val (.int p1), .val (.int p2), .val (.int p3), .val (.int p4), .val (.int (p0 &&& (1 : Int32))), .val (.int (m0_0 p0 p1 p2 p3 p4)), .unset, .unset, .unset, .unset, .unset, .unset, .unset, .unset, .unset, .unset] [(.int (p0 &&& (1 : Int32)))])) _
    refine XS.iload X0.here hx rfl (hb hby at_18) rfl ?_
    show Steps p.tables e below (s₁.setTop (mkF m 20 #[.val (.int p0), .val (.int p1), .val (.int p2), .val (.int p3), .val (.int p4), .val (.int (p0 &&& (1 : Int32))), .val (.int (m0_0 p0 p1 p2 p3 p4)), .unset, .unset, .unset, .unset, .unset, .unset, .unset, .unset, .unset, .unset] [(.int (m0_0 p0 p1 p2 p3 p4)), (.int (p0 &&& (1 : Int32)))])) _
    refine XS.iadd X0.here hx rfl (hb hby at_20) rfl ?_
    show Steps p.tables e below (s₁.setTop (mkF m 21 #[.val (.int p0), .val (.int p1), .val (.int p2), .val (.int p3), .val (.int p4), .val (.int (p0 &&& (1 : Int32))), .val (.int (m0_0 p0 p1 p2 p3 p4)), .unset, .unset, .unset, .unset, .unset, .unset, .unset, .unset, .unset, .unset] [(.int ((p0 &&& (1 : Int32)) + (m0_0 p0 p1 p2 p3 p4)))])) _
    refine XS.istore X0.here hx rfl (hb hby at_21) rfl (l' := #[.val (.int p0), .val (.int p1), .val (.int p2), .val (.int p3), .val (.int p4), .val (.int (p0 &&& (1 : Int32))), .val (.int (m0_0 p0 p1 p2 p3 p4)), .val (.int (m0_1 p0 p1 p2 p3 p4)), .unset, .unset, .unset, .unset, .unset, .unset, .unset, .unset, .unset]) rfl ?_
    show Steps p.tables e below (s₁.setTop (mkF m 23 #[.val (.int p0), .val (.int p1), .val (.int p2), .val (.int p3), .val (.int p4), .val (.int (p0 &&& (1 : Int32))), .val (.int (m0_0 p0 p1 p2 p3 p4)), .val (.int (m0_1 p0 p1 p2 p3 p4)), .unset, .unset, .unset, .unset, .unset, .unset, .unset, .unset, .unset] [])) _
    refine XS.iconst X0.here hx rfl (hb hby at_23) ?_
    show Steps p.tables e below (s₁.setTop (mkF m 24 #[.val (.int p0), .val (.int p1), .val (.int p2), .val (.int p3), .val (.int p4), .val (.int (p0 &&& (1 : Int32))), .val (.int (m0_0 p0 p1 p2 p3 p4)), .val (.int (m0_1 p0 p1 p2 p3 p4)), .unset, .unset, .unset, .unset, .unset, .unset, .unset, .unset, .unset] [(.int (4 : Int32))])) _
    refine st1 _ ?_
    show Steps p.tables e below (T1.setTop (mkF m 26 #[.val (.int p0), .val (.int p1), .val (.int p2), .val (.int p3), .val (.int p4), .val (.int (p0 &&& (1 : Int32))), .val (.int (m0_0 p0 p1 p2 p3 p4)), .val (.int (m0_1 p0 p1 p2 p3 p4)), .unset, .unset, .unset, .unset, .unset, .unset, .unset, .unset, .unset] [(.ref b1)])) _
    refine XS.astore X1.here hx rfl (hb hby at_26) rfl rfl (l' := #[.val (.int p0), .val (.int p1), .val (.int p2), .val (.int p3), .val (.int p4), .val (.int (p0 &&& (1 : Int32))), .val (.int (m0_0 p0 p1 p2 p3 p4)), .val (.int (m0_1 p0 p1 p2 p3 p4)), .val (.ref b1), .unset, .unset, .unset, .unset, .unset, .unset, .unset, .unset]) rfl ?_
    show Steps p.tables e below (T1.setTop (mkF m 28 #[.val (.int p0), .val (.int p1), .val (.int p2), .val (.int p3), .val (.int p4), .val (.int (p0 &&& (1 : Int32))), .val (.int (m0_0 p0 p1 p2 p3 p4)), .val (.int (m0_1 p0 p1 p2 p3 p4)), .val (.ref b1), .unset, .unset, .unset, .unset, .unset, .unset, .unset, .unset] [])) _
    refine XS.aload X1.here hx rfl (hb hby at_28) rfl rfl ?_
    show Steps p.tables e below (T1.setTop (mkF m 30 #[.val (.int p0), .val (.int p1), .val (.int p2), .val (.int p3), .val (.int p4), .val (.int (p0 &&& (1 : Int32))), .val (.int (m0_0 p0 p1 p2 p3 p4)), .val (.int (m0_1 p0 p1 p2 p3 p4)), .val (.ref b1), .unset, .unset, .unset, .unset, .unset, .unset, .unset, .unset] [(.ref b1)])) _
    refine XS.iconst X1.here hx rfl (hb hby at_30) ?_
    show Steps p.tables e below (T1.setTop (mkF m 31 #[.val (.int p0), .val (.int p1), .val (.int p2), .val (.int p3), .val (.int p4), .val (.int (p0 &&& (1 : Int32))), .val (.int (m0_0 p0 p1 p2 p3 p4)), .val (.int (m0_1 p0 p1 p2 p3 p4)), .val (.ref b1), .unset, .unset, .unset, .unset, .unset, .unset, .unset, .unset] [(.int (0 : Int32)), (.ref b1)])) _
    refine XS.iloadN X1.here hx rfl (hb hby at_31) rfl ?_
    show Steps p.tables e below (T1.setTop (mkF m 32 #[.val (.int p0), .val (.int p1), .val (.int p2), .val (.int p3), .val (.int p4), .val (.int (p0 &&& (1 : Int32))), .val (.int (m0_0 p0 p1 p2 p3 p4)), .val (.int (m0_1 p0 p1 p2 p3 p4)), .val (.ref b1), .unset, .unset, .unset, .unset, .unset, .unset, .unset, .unset] [(.int p2), (.int (0 : Int32)), (.ref b1)])) _
    refine XS.i2b X1.here hx rfl (hb hby at_32) rfl ?_
    show Steps p.tables e below (T1.setTop (mkF m 33 #[.val (.int p0), .val (.int p1), .val (.int p2), .val (.int p3), .val (.int p4), .val (.int (p0 &&& (1 : Int32))), .val (.int (m0_0 p0 p1 p2 p3 p4)), .val (.int (m0_1 p0 p1 p2 p3 p4)), .val (.ref b1), .unset, .unset, .unset, .unset, .unset, .unset, .unset, .unset] [(.int (p2.toInt8.toInt32)), (.int (0 : Int32)), (.ref b1)])) _
    refine st3 _ ?_
    show Steps p.tables e below (T3.setTop (mkF m 34 #[.val (.int p0), .val (.int p1), .val (.int p2), .val (.int p3), .val (.int p4), .val (.int (p0 &&& (1 : Int32))), .val (.int (m0_0 p0 p1 p2 p3 p4)), .val (.int (m0_1 p0 p1 p2 p3 p4)), .val (.ref b1), .unset, .unset, .unset, .unset, .unset, .unset, .unset, .unset] [])) _
    refine XS.aload X3.here hx rfl (hb hby at_34) rfl rfl ?_
    show Steps p.tables e below (T3.setTop (mkF m 36 #[.val (.int p0), .val (.int p1), .val (.int p2), .val (.int p3), .val (.int p4), .val (.int (p0 &&& (1 : Int32))), .val (.int (m0_0 p0 p1 p2 p3 p4)), .val (.int (m0_1 p0 p1 p2 p3 p4)), .val (.ref b1), .unset, .unset, .unset, .unset, .unset, .unset, .unset, .unset] [(.ref b1)])) _
    refine XS.iconst X3.here hx rfl (hb hby at_36) ?_
    show Steps p.tables e below (T3.setTop (mkF m 37 #[.val (.int p0), .val (.int p1), .val (.int p2), .val (.int p3), .val (.int p4), .val (.int (p0 &&& (1 : Int32))), .val (.int (m0_0 p0 p1 p2 p3 p4)), .val (.int (m0_1 p0 p1 p2 p3 p4)), .val (.ref b1), .unset, .unset, .unset, .unset, .unset, .unset, .unset, .unset] [(.int (1 : Int32)), (.ref b1)])) _
    refine XS.iloadN X3.here hx rfl (hb hby at_37) rfl ?_
    show Steps p.tables e below (T3.setTop (mkF m 38 #[.val (.int p0), .val (.int p1), .val (.int p2), .val (.int p3), .val (.int p4), .val (.int (p0 &&& (1 : Int32))), .val (.int (m0_0 p0 p1 p2 p3 p4)), .val (.int (m0_1 p0 p1 p2 p3 p4)), .val (.ref b1), .unset, .unset, .unset, .unset, .unset, .unset, .unset, .unset] [(.int p2), (.int (1 : Int32)), (.ref b1)])) _
    refine XS.bipush X3.here hx rfl (hb hby at_38) ?_
    show Steps p.tables e below (T3.setTop (mkF m 40 #[.val (.int p0), .val (.int p1), .val (.int p2), .val (.int p3), .val (.int p4), .val (.int (p0 &&& (1 : Int32))), .val (.int (m0_0 p0 p1 p2 p3 p4)), .val (.int (m0_1 p0 p1 p2 p3 p4)), .val (.ref b1), .unset, .unset, .unset, .unset, .unset, .unset, .unset, .unset] [(.int (8 : Int32)), (.int p2), (.int (1 : Int32)), (.ref b1)])) _
    refine XS.iushr X3.here hx rfl (hb hby at_40) rfl ?_
    show Steps p.tables e below (T3.setTop (mkF m 41 #[.val (.int p0), .val (.int p1), .val (.int p2), .val (.int p3), .val (.int p4), .val (.int (p0 &&& (1 : Int32))), .val (.int (m0_0 p0 p1 p2 p3 p4)), .val (.int (m0_1 p0 p1 p2 p3 p4)), .val (.ref b1), .unset, .unset, .unset, .unset, .unset, .unset, .unset, .unset] [(.int ((p2.toUInt32 >>> ((8 : Int32) &&& 31).toUInt32).toInt32)), (.int (1 : Int32)), (.ref b1)])) _
    refine XS.i2b X3.here hx rfl (hb hby at_41) rfl ?_
    show Steps p.tables e below (T3.setTop (mkF m 42 #[.val (.int p0), .val (.int p1), .val (.int p2), .val (.int p3), .val (.int p4), .val (.int (p0 &&& (1 : Int32))), .val (.int (m0_0 p0 p1 p2 p3 p4)), .val (.int (m0_1 p0 p1 p2 p3 p4)), .val (.ref b1), .unset, .unset, .unset, .unset, .unset, .unset, .unset, .unset] [(.int (((p2.toUInt32 >>> ((8 : Int32) &&& 31).toUInt32).toInt32).toInt8.toInt32)), (.int (1 : Int32)), (.ref b1)])) _
    refine st5 _ ?_
    show Steps p.tables e below (T5.setTop (mkF m 43 #[.val (.int p0), .val (.int p1), .val (.int p2), .val (.int p3), .val (.int p4), .val (.int (p0 &&& (1 : Int32))), .val (.int (m0_0 p0 p1 p2 p3 p4)), .val (.int (m0_1 p0 p1 p2 p3 p4)), .val (.ref b1), .unset, .unset, .unset, .unset, .unset, .unset, .unset, .unset] [])) _
    refine XS.aload X5.here hx rfl (hb hby at_43) rfl rfl ?_
    show Steps p.tables e below (T5.setTop (mkF m 45 #[.val (.int p0), .val (.int p1), .val (.int p2), .val (.int p3), .val (.int p4), .val (.int (p0 &&& (1 : Int32))), .val (.int (m0_0 p0 p1 p2 p3 p4)), .val (.int (m0_1 p0 p1 p2 p3 p4)), .val (.ref b1), .unset, .unset, .unset, .unset, .unset, .unset, .unset, .unset] [(.ref b1)])) _
    refine XS.iconst X5.here hx rfl (hb hby at_45) ?_
    show Steps p.tables e below (T5.setTop (mkF m 46 #[.val (.int p0), .val (.int p1), .val (.int p2), .val (.int p3), .val (.int p4), .val (.int (p0 &&& (1 : Int32))), .val (.int (m0_0 p0 p1 p2 p3 p4)), .val (.int (m0_1 p0 p1 p2 p3 p4)), .val (.ref b1), .unset, .unset, .unset, .unset, .unset, .unset, .unset, .unset] [(.int (2 : Int32)), (.ref b1)])) _
    refine XS.iloadN X5.here hx rfl (hb hby at_46) rfl ?_
    show Steps p.tables e below (T5.setTop (mkF m 47 #[.val (.int p0), .val (.int p1), .val (.int p2), .val (.int p3), .val (.int p4), .val (.int (p0 &&& (1 : Int32))), .val (.int (m0_0 p0 p1 p2 p3 p4)), .val (.int (m0_1 p0 p1 p2 p3 p4)), .val (.ref b1), .unset, .unset, .unset, .unset, .unset, .unset, .unset, .unset] [(.int p2), (.int (2 : Int32)), (.ref b1)])) _
    refine XS.bipush X5.here hx rfl (hb hby at_47) ?_
    show Steps p.tables e below (T5.setTop (mkF m 49 #[.val (.int p0), .val (.int p1), .val (.int p2), .val (.int p3), .val (.int p4), .val (.int (p0 &&& (1 : Int32))), .val (.int (m0_0 p0 p1 p2 p3 p4)), .val (.int (m0_1 p0 p1 p2 p3 p4)), .val (.ref b1), .unset, .unset, .unset, .unset, .unset, .unset, .unset, .unset] [(.int (16 : Int32)), (.int p2), (.int (2 : Int32)), (.ref b1)])) _
    refine XS.iushr X5.here hx rfl (hb hby at_49) rfl ?_
    show Steps p.tables e below (T5.setTop (mkF m 50 #[.val (.int p0), .val (.int p1), .val (.int p2), .val (.int p3), .val (.int p4), .val (.int (p0 &&& (1 : Int32))), .val (.int (m0_0 p0 p1 p2 p3 p4)), .val (.int (m0_1 p0 p1 p2 p3 p4)), .val (.ref b1), .unset, .unset, .unset, .unset, .unset, .unset, .unset, .unset] [(.int ((p2.toUInt32 >>> ((16 : Int32) &&& 31).toUInt32).toInt32)), (.int (2 : Int32)), (.ref b1)])) _
    refine XS.i2b X5.here hx rfl (hb hby at_50) rfl ?_
    show Steps p.tables e below (T5.setTop (mkF m 51 #[.val (.int p0), .val (.int p1), .val (.int p2), .val (.int p3), .val (.int p4), .val (.int (p0 &&& (1 : Int32))), .val (.int (m0_0 p0 p1 p2 p3 p4)), .val (.int (m0_1 p0 p1 p2 p3 p4)), .val (.ref b1), .unset, .unset, .unset, .unset, .unset, .unset, .unset, .unset] [(.int (((p2.toUInt32 >>> ((16 : Int32) &&& 31).toUInt32).toInt32).toInt8.toInt32)), (.int (2 : Int32)), (.ref b1)])) _
    refine st7 _ ?_
    show Steps p.tables e below (T7.setTop (mkF m 52 #[.val (.int p0), .val (.int p1), .val (.int p2), .val (.int p3), .val (.int p4), .val (.int (p0 &&& (1 : Int32))), .val (.int (m0_0 p0 p1 p2 p3 p4)), .val (.int (m0_1 p0 p1 p2 p3 p4)), .val (.ref b1), .unset, .unset, .unset, .unset, .unset, .unset, .unset, .unset] [])) _
    refine XS.aload X7.here hx rfl (hb hby at_52) rfl rfl ?_
    show Steps p.tables e below (T7.setTop (mkF m 54 #[.val (.int p0), .val (.int p1), .val (.int p2), .val (.int p3), .val (.int p4), .val (.int (p0 &&& (1 : Int32))), .val (.int (m0_0 p0 p1 p2 p3 p4)), .val (.int (m0_1 p0 p1 p2 p3 p4)), .val (.ref b1), .unset, .unset, .unset, .unset, .unset, .unset, .unset, .unset] [(.ref b1)])) _
    refine XS.iconst X7.here hx rfl (hb hby at_54) ?_
    show Steps p.tables e below (T7.setTop (mkF m 55 #[.val (.int p0), .val (.int p1), .val (.int p2), .val (.int p3), .val (.int p4), .val (.int (p0 &&& (1 : Int32))), .val (.int (m0_0 p0 p1 p2 p3 p4)), .val (.int (m0_1 p0 p1 p2 p3 p4)), .val (.ref b1), .unset, .unset, .unset, .unset, .unset, .unset, .unset, .unset] [(.int (3 : Int32)), (.ref b1)])) _
    refine XS.iloadN X7.here hx rfl (hb hby at_55) rfl ?_
    show Steps p.tables e below (T7.setTop (mkF m 56 #[.val (.int p0), .val (.int p1), .val (.int p2), .val (.int p3), .val (.int p4), .val (.int (p0 &&& (1 : Int32))), .val (.int (m0_0 p0 p1 p2 p3 p4)), .val (.int (m0_1 p0 p1 p2 p3 p4)), .val (.ref b1), .unset, .unset, .unset, .unset, .unset, .unset, .unset, .unset] [(.int p2), (.int (3 : Int32)), (.ref b1)])) _
    refine XS.bipush X7.here hx rfl (hb hby at_56) ?_
    show Steps p.tables e below (T7.setTop (mkF m 58 #[.val (.int p0), .val (.int p1), .val (.int p2), .val (.int p3), .val (.int p4), .val (.int (p0 &&& (1 : Int32))), .val (.int (m0_0 p0 p1 p2 p3 p4)), .val (.int (m0_1 p0 p1 p2 p3 p4)), .val (.ref b1), .unset, .unset, .unset, .unset, .unset, .unset, .unset, .unset] [(.int (24 : Int32)), (.int p2), (.int (3 : Int32)), (.ref b1)])) _
    refine XS.iushr X7.here hx rfl (hb hby at_58) rfl ?_
    show Steps p.tables e below (T7.setTop (mkF m 59 #[.val (.int p0), .val (.int p1), .val (.int p2), .val (.int p3), .val (.int p4), .val (.int (p0 &&& (1 : Int32))), .val (.int (m0_0 p0 p1 p2 p3 p4)), .val (.int (m0_1 p0 p1 p2 p3 p4)), .val (.ref b1), .unset, .unset, .unset, .unset, .unset, .unset, .unset, .unset] [(.int ((p2.toUInt32 >>> ((24 : Int32) &&& 31).toUInt32).toInt32)), (.int (3 : Int32)), (.ref b1)])) _
    refine XS.i2b X7.here hx rfl (hb hby at_59) rfl ?_
    show Steps p.tables e below (T7.setTop (mkF m 60 #[.val (.int p0), .val (.int p1), .val (.int p2), .val (.int p3), .val (.int p4), .val (.int (p0 &&& (1 : Int32))), .val (.int (m0_0 p0 p1 p2 p3 p4)), .val (.int (m0_1 p0 p1 p2 p3 p4)), .val (.ref b1), .unset, .unset, .unset, .unset, .unset, .unset, .unset, .unset] [(.int (((p2.toUInt32 >>> ((24 : Int32) &&& 31).toUInt32).toInt32).toInt8.toInt32)), (.int (3 : Int32)), (.ref b1)])) _
    refine st9 _ ?_
    show Steps p.tables e below (T9.setTop (mkF m 61 #[.val (.int p0), .val (.int p1), .val (.int p2), .val (.int p3), .val (.int p4), .val (.int (p0 &&& (1 : Int32))), .val (.int (m0_0 p0 p1 p2 p3 p4)), .val (.int (m0_1 p0 p1 p2 p3 p4)), .val (.ref b1), .unset, .unset, .unset, .unset, .unset, .unset, .unset, .unset] [])) _
    refine XS.iconst X9.here hx rfl (hb hby at_61) ?_
    show Steps p.tables e below (T9.setTop (mkF m 62 #[.val (.int p0), .val (.int p1), .val (.int p2), .val (.int p3), .val (.int p4), .val (.int (p0 &&& (1 : Int32))), .val (.int (m0_0 p0 p1 p2 p3 p4)), .val (.int (m0_1 p0 p1 p2 p3 p4)), .val (.ref b1), .unset, .unset, .unset, .unset, .unset, .unset, .unset, .unset] [(.int (1 : Int32))])) _
    refine XS.iloadN X9.here hx rfl (hb hby at_62) rfl ?_
    show Steps p.tables e below (T9.setTop (mkF m 63 #[.val (.int p0), .val (.int p1), .val (.int p2), .val (.int p3), .val (.int p4), .val (.int (p0 &&& (1 : Int32))), .val (.int (m0_0 p0 p1 p2 p3 p4)), .val (.int (m0_1 p0 p1 p2 p3 p4)), .val (.ref b1), .unset, .unset, .unset, .unset, .unset, .unset, .unset, .unset] [(.int p1), (.int (1 : Int32))])) _
    refine X9.ldcInt hx hown (mvT hZ (hw _ (List.mem_of_getElem? (i := 1) rfl))) (g := (mkF m 63 #[.val (.int p0), .val (.int p1), .val (.int p2), .val (.int p3), .val (.int p4), .val (.int (p0 &&& (1 : Int32))), .val (.int (m0_0 p0 p1 p2 p3 p4)), .val (.int (m0_1 p0 p1 p2 p3 p4)), .val (.ref b1), .unset, .unset, .unset, .unset, .unset, .unset, .unset, .unset] [(.int p1), (.int (1 : Int32))])) rfl (hb hby at_63) _ ?_
    show Steps p.tables e below (T9.setTop (mkF m 65 #[.val (.int p0), .val (.int p1), .val (.int p2), .val (.int p3), .val (.int p4), .val (.int (p0 &&& (1 : Int32))), .val (.int (m0_0 p0 p1 p2 p3 p4)), .val (.int (m0_1 p0 p1 p2 p3 p4)), .val (.ref b1), .unset, .unset, .unset, .unset, .unset, .unset, .unset, .unset] [(.int (2147483647 : Int32)), (.int p1), (.int (1 : Int32))])) _
    refine XS.iand X9.here hx rfl (hb hby at_65) rfl ?_
    show Steps p.tables e below (T9.setTop (mkF m 66 #[.val (.int p0), .val (.int p1), .val (.int p2), .val (.int p3), .val (.int p4), .val (.int (p0 &&& (1 : Int32))), .val (.int (m0_0 p0 p1 p2 p3 p4)), .val (.int (m0_1 p0 p1 p2 p3 p4)), .val (.ref b1), .unset, .unset, .unset, .unset, .unset, .unset, .unset, .unset] [(.int (p1 &&& (2147483647 : Int32))), (.int (1 : Int32))])) _
    refine XS.sipush X9.here hx rfl (hb hby at_66) ?_
    show Steps p.tables e below (T9.setTop (mkF m 69 #[.val (.int p0), .val (.int p1), .val (.int p2), .val (.int p3), .val (.int p4), .val (.int (p0 &&& (1 : Int32))), .val (.int (m0_0 p0 p1 p2 p3 p4)), .val (.int (m0_1 p0 p1 p2 p3 p4)), .val (.ref b1), .unset, .unset, .unset, .unset, .unset, .unset, .unset, .unset] [(.int (255 : Int32)), (.int (p1 &&& (2147483647 : Int32))), (.int (1 : Int32))])) _
    refine iremM X9 hx rfl (hb hby at_69) rfl (by decide) ?_
    show Steps p.tables e below (T9.setTop (mkF m 70 #[.val (.int p0), .val (.int p1), .val (.int p2), .val (.int p3), .val (.int p4), .val (.int (p0 &&& (1 : Int32))), .val (.int (m0_0 p0 p1 p2 p3 p4)), .val (.int (m0_1 p0 p1 p2 p3 p4)), .val (.ref b1), .unset, .unset, .unset, .unset, .unset, .unset, .unset, .unset] [(.int ((p1 &&& (2147483647 : Int32)) % (255 : Int32))), (.int (1 : Int32))])) _
    refine XS.iadd X9.here hx rfl (hb hby at_70) rfl ?_
    show Steps p.tables e below (T9.setTop (mkF m 71 #[.val (.int p0), .val (.int p1), .val (.int p2), .val (.int p3), .val (.int p4), .val (.int (p0 &&& (1 : Int32))), .val (.int (m0_0 p0 p1 p2 p3 p4)), .val (.int (m0_1 p0 p1 p2 p3 p4)), .val (.ref b1), .unset, .unset, .unset, .unset, .unset, .unset, .unset, .unset] [(.int ((1 : Int32) + ((p1 &&& (2147483647 : Int32)) % (255 : Int32))))])) _
    refine XS.istore X9.here hx rfl (hb hby at_71) rfl (l' := #[.val (.int p0), .val (.int p1), .val (.int p2), .val (.int p3), .val (.int p4), .val (.int (p0 &&& (1 : Int32))), .val (.int (m0_0 p0 p1 p2 p3 p4)), .val (.int (m0_1 p0 p1 p2 p3 p4)), .val (.ref b1), .val (.int (m0_2 p0 p1 p2 p3 p4)), .unset, .unset, .unset, .unset, .unset, .unset, .unset]) rfl ?_
    show Steps p.tables e below (T9.setTop (mkF m 73 #[.val (.int p0), .val (.int p1), .val (.int p2), .val (.int p3), .val (.int p4), .val (.int (p0 &&& (1 : Int32))), .val (.int (m0_0 p0 p1 p2 p3 p4)), .val (.int (m0_1 p0 p1 p2 p3 p4)), .val (.ref b1), .val (.int (m0_2 p0 p1 p2 p3 p4)), .unset, .unset, .unset, .unset, .unset, .unset, .unset] [])) _
    refine XS.aload X9.here hx rfl (hb hby at_73) rfl rfl ?_
    show Steps p.tables e below (T9.setTop (mkF m 75 #[.val (.int p0), .val (.int p1), .val (.int p2), .val (.int p3), .val (.int p4), .val (.int (p0 &&& (1 : Int32))), .val (.int (m0_0 p0 p1 p2 p3 p4)), .val (.int (m0_1 p0 p1 p2 p3 p4)), .val (.ref b1), .val (.int (m0_2 p0 p1 p2 p3 p4)), .unset, .unset, .unset, .unset, .unset, .unset, .unset] [(.ref b1)])) _
    refine XS.iload X9.here hx rfl (hb hby at_75) rfl ?_
    show Steps p.tables e below (T9.setTop (mkF m 77 #[.val (.int p0), .val (.int p1), .val (.int p2), .val (.int p3), .val (.int p4), .val (.int (p0 &&& (1 : Int32))), .val (.int (m0_0 p0 p1 p2 p3 p4)), .val (.int (m0_1 p0 p1 p2 p3 p4)), .val (.ref b1), .val (.int (m0_2 p0 p1 p2 p3 p4)), .unset, .unset, .unset, .unset, .unset, .unset, .unset] [(.int (m0_1 p0 p1 p2 p3 p4)), (.ref b1)])) _
    refine XS.iconst X9.here hx rfl (hb hby at_77) ?_
    show Steps p.tables e below (T9.setTop (mkF m 78 #[.val (.int p0), .val (.int p1), .val (.int p2), .val (.int p3), .val (.int p4), .val (.int (p0 &&& (1 : Int32))), .val (.int (m0_0 p0 p1 p2 p3 p4)), .val (.int (m0_1 p0 p1 p2 p3 p4)), .val (.ref b1), .val (.int (m0_2 p0 p1 p2 p3 p4)), .unset, .unset, .unset, .unset, .unset, .unset, .unset] [(.int (1 : Int32)), (.int (m0_1 p0 p1 p2 p3 p4)), (.ref b1)])) _
    refine XS.isub X9.here hx rfl (hb hby at_78) rfl ?_
    show Steps p.tables e below (T9.setTop (mkF m 79 #[.val (.int p0), .val (.int p1), .val (.int p2), .val (.int p3), .val (.int p4), .val (.int (p0 &&& (1 : Int32))), .val (.int (m0_0 p0 p1 p2 p3 p4)), .val (.int (m0_1 p0 p1 p2 p3 p4)), .val (.ref b1), .val (.int (m0_2 p0 p1 p2 p3 p4)), .unset, .unset, .unset, .unset, .unset, .unset, .unset] [(.int ((m0_1 p0 p1 p2 p3 p4) - (1 : Int32))), (.ref b1)])) _
    refine XS.iload X9.here hx rfl (hb hby at_79) rfl ?_
    show Steps p.tables e below (T9.setTop (mkF m 81 #[.val (.int p0), .val (.int p1), .val (.int p2), .val (.int p3), .val (.int p4), .val (.int (p0 &&& (1 : Int32))), .val (.int (m0_0 p0 p1 p2 p3 p4)), .val (.int (m0_1 p0 p1 p2 p3 p4)), .val (.ref b1), .val (.int (m0_2 p0 p1 p2 p3 p4)), .unset, .unset, .unset, .unset, .unset, .unset, .unset] [(.int (m0_2 p0 p1 p2 p3 p4)), (.int ((m0_1 p0 p1 p2 p3 p4) - (1 : Int32))), (.ref b1)])) _
    refine XS.i2b X9.here hx rfl (hb hby at_81) rfl ?_
    show Steps p.tables e below (T9.setTop (mkF m 82 #[.val (.int p0), .val (.int p1), .val (.int p2), .val (.int p3), .val (.int p4), .val (.int (p0 &&& (1 : Int32))), .val (.int (m0_0 p0 p1 p2 p3 p4)), .val (.int (m0_1 p0 p1 p2 p3 p4)), .val (.ref b1), .val (.int (m0_2 p0 p1 p2 p3 p4)), .unset, .unset, .unset, .unset, .unset, .unset, .unset] [(.int ((m0_2 p0 p1 p2 p3 p4).toInt8.toInt32)), (.int ((m0_1 p0 p1 p2 p3 p4) - (1 : Int32))), (.ref b1)])) _
    refine st11 _ ?_
    show Steps p.tables e below (T11.setTop (mkF m 83 #[.val (.int p0), .val (.int p1), .val (.int p2), .val (.int p3), .val (.int p4), .val (.int (p0 &&& (1 : Int32))), .val (.int (m0_0 p0 p1 p2 p3 p4)), .val (.int (m0_1 p0 p1 p2 p3 p4)), .val (.ref b1), .val (.int (m0_2 p0 p1 p2 p3 p4)), .unset, .unset, .unset, .unset, .unset, .unset, .unset] [])) _
    refine XS.bipush X11.here hx rfl (hb hby at_83) ?_
    show Steps p.tables e below (T11.setTop (mkF m 85 #[.val (.int p0), .val (.int p1), .val (.int p2), .val (.int p3), .val (.int p4), .val (.int (p0 &&& (1 : Int32))), .val (.int (m0_0 p0 p1 p2 p3 p4)), .val (.int (m0_1 p0 p1 p2 p3 p4)), .val (.ref b1), .val (.int (m0_2 p0 p1 p2 p3 p4)), .unset, .unset, .unset, .unset, .unset, .unset, .unset] [(.int (8 : Int32))])) _
    refine XS.iload X11.here hx rfl (hb hby at_85) rfl ?_
    show Steps p.tables e below (T11.setTop (mkF m 87 #[.val (.int p0), .val (.int p1), .val (.int p2), .val (.int p3), .val (.int p4), .val (.int (p0 &&& (1 : Int32))), .val (.int (m0_0 p0 p1 p2 p3 p4)), .val (.int (m0_1 p0 p1 p2 p3 p4)), .val (.ref b1), .val (.int (m0_2 p0 p1 p2 p3 p4)), .unset, .unset, .unset, .unset, .unset, .unset, .unset] [(.int (m0_0 p0 p1 p2 p3 p4)), (.int (8 : Int32))])) _
    refine XS.iconst X11.here hx rfl (hb hby at_87) ?_
    show Steps p.tables e below (T11.setTop (mkF m 88 #[.val (.int p0), .val (.int p1), .val (.int p2), .val (.int p3), .val (.int p4), .val (.int (p0 &&& (1 : Int32))), .val (.int (m0_0 p0 p1 p2 p3 p4)), .val (.int (m0_1 p0 p1 p2 p3 p4)), .val (.ref b1), .val (.int (m0_2 p0 p1 p2 p3 p4)), .unset, .unset, .unset, .unset, .unset, .unset, .unset] [(.int (1 : Int32)), (.int (m0_0 p0 p1 p2 p3 p4)), (.int (8 : Int32))])) _
    refine XS.isub X11.here hx rfl (hb hby at_88) rfl ?_
    show Steps p.tables e below (T11.setTop (mkF m 89 #[.val (.int p0), .val (.int p1), .val (.int p2), .val (.int p3), .val (.int p4), .val (.int (p0 &&& (1 : Int32))), .val (.int (m0_0 p0 p1 p2 p3 p4)), .val (.int (m0_1 p0 p1 p2 p3 p4)), .val (.ref b1), .val (.int (m0_2 p0 p1 p2 p3 p4)), .unset, .unset, .unset, .unset, .unset, .unset, .unset] [(.int ((m0_0 p0 p1 p2 p3 p4) - (1 : Int32))), (.int (8 : Int32))])) _
    refine XS.imul X11.here hx rfl (hb hby at_89) rfl ?_
    show Steps p.tables e below (T11.setTop (mkF m 90 #[.val (.int p0), .val (.int p1), .val (.int p2), .val (.int p3), .val (.int p4), .val (.int (p0 &&& (1 : Int32))), .val (.int (m0_0 p0 p1 p2 p3 p4)), .val (.int (m0_1 p0 p1 p2 p3 p4)), .val (.ref b1), .val (.int (m0_2 p0 p1 p2 p3 p4)), .unset, .unset, .unset, .unset, .unset, .unset, .unset] [(.int ((8 : Int32) * ((m0_0 p0 p1 p2 p3 p4) - (1 : Int32))))])) _
    refine XS.iload X11.here hx rfl (hb hby at_90) rfl ?_
    show Steps p.tables e below (T11.setTop (mkF m 92 #[.val (.int p0), .val (.int p1), .val (.int p2), .val (.int p3), .val (.int p4), .val (.int (p0 &&& (1 : Int32))), .val (.int (m0_0 p0 p1 p2 p3 p4)), .val (.int (m0_1 p0 p1 p2 p3 p4)), .val (.ref b1), .val (.int (m0_2 p0 p1 p2 p3 p4)), .unset, .unset, .unset, .unset, .unset, .unset, .unset] [(.int (m0_2 p0 p1 p2 p3 p4)), (.int ((8 : Int32) * ((m0_0 p0 p1 p2 p3 p4) - (1 : Int32))))])) _
    refine st12 _ ?_
    show Steps p.tables e below (T12.setTop (mkF m 95 #[.val (.int p0), .val (.int p1), .val (.int p2), .val (.int p3), .val (.int p4), .val (.int (p0 &&& (1 : Int32))), .val (.int (m0_0 p0 p1 p2 p3 p4)), .val (.int (m0_1 p0 p1 p2 p3 p4)), .val (.ref b1), .val (.int (m0_2 p0 p1 p2 p3 p4)), .unset, .unset, .unset, .unset, .unset, .unset, .unset] [(.int (f1 (m0_2 p0 p1 p2 p3 p4))), (.int ((8 : Int32) * ((m0_0 p0 p1 p2 p3 p4) - (1 : Int32))))])) _
    refine XS.iadd X12.here hx rfl (hb hby at_95) rfl ?_
    show Steps p.tables e below (T12.setTop (mkF m 96 #[.val (.int p0), .val (.int p1), .val (.int p2), .val (.int p3), .val (.int p4), .val (.int (p0 &&& (1 : Int32))), .val (.int (m0_0 p0 p1 p2 p3 p4)), .val (.int (m0_1 p0 p1 p2 p3 p4)), .val (.ref b1), .val (.int (m0_2 p0 p1 p2 p3 p4)), .unset, .unset, .unset, .unset, .unset, .unset, .unset] [(.int (((8 : Int32) * ((m0_0 p0 p1 p2 p3 p4) - (1 : Int32))) + (f1 (m0_2 p0 p1 p2 p3 p4))))])) _
    refine XS.istore X12.here hx rfl (hb hby at_96) rfl (l' := #[.val (.int p0), .val (.int p1), .val (.int p2), .val (.int p3), .val (.int p4), .val (.int (p0 &&& (1 : Int32))), .val (.int (m0_0 p0 p1 p2 p3 p4)), .val (.int (m0_1 p0 p1 p2 p3 p4)), .val (.ref b1), .val (.int (m0_2 p0 p1 p2 p3 p4)), .val (.int (m0_3 p0 p1 p2 p3 p4)), .unset, .unset, .unset, .unset, .unset, .unset]) rfl ?_
    show Steps p.tables e below (T12.setTop (mkF m 98 #[.val (.int p0), .val (.int p1), .val (.int p2), .val (.int p3), .val (.int p4), .val (.int (p0 &&& (1 : Int32))), .val (.int (m0_0 p0 p1 p2 p3 p4)), .val (.int (m0_1 p0 p1 p2 p3 p4)), .val (.ref b1), .val (.int (m0_2 p0 p1 p2 p3 p4)), .val (.int (m0_3 p0 p1 p2 p3 p4)), .unset, .unset, .unset, .unset, .unset, .unset] [])) _
    refine XS.iloadN X12.here hx rfl (hb hby at_98) rfl ?_
    show Steps p.tables e below (T12.setTop (mkF m 99 #[.val (.int p0), .val (.int p1), .val (.int p2), .val (.int p3), .val (.int p4), .val (.int (p0 &&& (1 : Int32))), .val (.int (m0_0 p0 p1 p2 p3 p4)), .val (.int (m0_1 p0 p1 p2 p3 p4)), .val (.ref b1), .val (.int (m0_2 p0 p1 p2 p3 p4)), .val (.int (m0_3 p0 p1 p2 p3 p4)), .unset, .unset, .unset, .unset, .unset, .unset] [(.int p3)])) _
    refine XS.bipush X12.here hx rfl (hb hby at_99) ?_
    show Steps p.tables e below (T12.setTop (mkF m 101 #[.val (.int p0), .val (.int p1), .val (.int p2), .val (.int p3), .val (.int p4), .val (.int (p0 &&& (1 : Int32))), .val (.int (m0_0 p0 p1 p2 p3 p4)), .val (.int (m0_1 p0 p1 p2 p3 p4)), .val (.ref b1), .val (.int (m0_2 p0 p1 p2 p3 p4)), .val (.int (m0_3 p0 p1 p2 p3 p4)), .unset, .unset, .unset, .unset, .unset, .unset] [(.int (31 : Int32)), (.int p3)])) _
    refine XS.iand X12.here hx rfl (hb hby at_101) rfl ?_
    show Steps p.tables e below (T12.setTop (mkF m 102 #[.val (.int p0), .val (.int p1), .val (.int p2), .val (.int p3), .val (.int p4), .val (.int (p0 &&& (1 : Int32))), .val (.int (m0_0 p0 p1 p2 p3 p4)), .val (.int (m0_1 p0 p1 p2 p3 p4)), .val (.ref b1), .val (.int (m0_2 p0 p1 p2 p3 p4)), .val (.int (m0_3 p0 p1 p2 p3 p4)), .unset, .unset, .unset, .unset, .unset, .unset] [(.int (p3 &&& (31 : Int32)))])) _
    refine XS.istore X12.here hx rfl (hb hby at_102) rfl (l' := #[.val (.int p0), .val (.int p1), .val (.int p2), .val (.int p3), .val (.int p4), .val (.int (p0 &&& (1 : Int32))), .val (.int (m0_0 p0 p1 p2 p3 p4)), .val (.int (m0_1 p0 p1 p2 p3 p4)), .val (.ref b1), .val (.int (m0_2 p0 p1 p2 p3 p4)), .val (.int (m0_3 p0 p1 p2 p3 p4)), .val (.int (p3 &&& (31 : Int32))), .unset, .unset, .unset, .unset, .unset]) rfl ?_
    show Steps p.tables e below (T12.setTop (mkF m 104 #[.val (.int p0), .val (.int p1), .val (.int p2), .val (.int p3), .val (.int p4), .val (.int (p0 &&& (1 : Int32))), .val (.int (m0_0 p0 p1 p2 p3 p4)), .val (.int (m0_1 p0 p1 p2 p3 p4)), .val (.ref b1), .val (.int (m0_2 p0 p1 p2 p3 p4)), .val (.int (m0_3 p0 p1 p2 p3 p4)), .val (.int (p3 &&& (31 : Int32))), .unset, .unset, .unset, .unset, .unset] [])) _
    refine XS.iload X12.here hx rfl (hb hby at_104) rfl ?_
    show Steps p.tables e below (T12.setTop (mkF m 106 #[.val (.int p0), .val (.int p1), .val (.int p2), .val (.int p3), .val (.int p4), .val (.int (p0 &&& (1 : Int32))), .val (.int (m0_0 p0 p1 p2 p3 p4)), .val (.int (m0_1 p0 p1 p2 p3 p4)), .val (.ref b1), .val (.int (m0_2 p0 p1 p2 p3 p4)), .val (.int (m0_3 p0 p1 p2 p3 p4)), .val (.int (p3 &&& (31 : Int32))), .unset, .unset, .unset, .unset, .unset] [(.int p4)])) _
    refine XS.bipush X12.here hx rfl (hb hby at_106) ?_
    show Steps p.tables e below (T12.setTop (mkF m 108 #[.val (.int p0), .val (.int p1), .val (.int p2), .val (.int p3), .val (.int p4), .val (.int (p0 &&& (1 : Int32))), .val (.int (m0_0 p0 p1 p2 p3 p4)), .val (.int (m0_1 p0 p1 p2 p3 p4)), .val (.ref b1), .val (.int (m0_2 p0 p1 p2 p3 p4)), .val (.int (m0_3 p0 p1 p2 p3 p4)), .val (.int (p3 &&& (31 : Int32))), .unset, .unset, .unset, .unset, .unset] [(.int (31 : Int32)), (.int p4)])) _
    refine XS.iand X12.here hx rfl (hb hby at_108) rfl ?_
    show Steps p.tables e below (T12.setTop (mkF m 109 #[.val (.int p0), .val (.int p1), .val (.int p2), .val (.int p3), .val (.int p4), .val (.int (p0 &&& (1 : Int32))), .val (.int (m0_0 p0 p1 p2 p3 p4)), .val (.int (m0_1 p0 p1 p2 p3 p4)), .val (.ref b1), .val (.int (m0_2 p0 p1 p2 p3 p4)), .val (.int (m0_3 p0 p1 p2 p3 p4)), .val (.int (p3 &&& (31 : Int32))), .unset, .unset, .unset, .unset, .unset] [(.int (p4 &&& (31 : Int32)))])) _
    refine XS.istore X12.here hx rfl (hb hby at_109) rfl (l' := #[.val (.int p0), .val (.int p1), .val (.int p2), .val (.int p3), .val (.int p4), .val (.int (p0 &&& (1 : Int32))), .val (.int (m0_0 p0 p1 p2 p3 p4)), .val (.int (m0_1 p0 p1 p2 p3 p4)), .val (.ref b1), .val (.int (m0_2 p0 p1 p2 p3 p4)), .val (.int (m0_3 p0 p1 p2 p3 p4)), .val (.int (p3 &&& (31 : Int32))), .val (.int (p4 &&& (31 : Int32))), .unset, .unset, .unset, .unset]) rfl ?_
    show Steps p.tables e below (T12.setTop (mkF m 111 #[.val (.int p0), .val (.int p1), .val (.int p2), .val (.int p3), .val (.int p4), .val (.int (p0 &&& (1 : Int32))), .val (.int (m0_0 p0 p1 p2 p3 p4)), .val (.int (m0_1 p0 p1 p2 p3 p4)), .val (.ref b1), .val (.int (m0_2 p0 p1 p2 p3 p4)), .val (.int (m0_3 p0 p1 p2 p3 p4)), .val (.int (p3 &&& (31 : Int32))), .val (.int (p4 &&& (31 : Int32))), .unset, .unset, .unset, .unset] [])) _
    refine st13 _ ?_
    show Steps p.tables e below (T13.setTop (mkF m 114 #[.val (.int p0), .val (.int p1), .val (.int p2), .val (.int p3), .val (.int p4), .val (.int (p0 &&& (1 : Int32))), .val (.int (m0_0 p0 p1 p2 p3 p4)), .val (.int (m0_1 p0 p1 p2 p3 p4)), .val (.ref b1), .val (.int (m0_2 p0 p1 p2 p3 p4)), .val (.int (m0_3 p0 p1 p2 p3 p4)), .val (.int (p3 &&& (31 : Int32))), .val (.int (p4 &&& (31 : Int32))), .unset, .unset, .unset, .unset] [(.ref b13)])) _
    refine XS.dup X13.here hx rfl (hb hby at_114) rfl rfl ?_
    show Steps p.tables e below (T13.setTop (mkF m 115 #[.val (.int p0), .val (.int p1), .val (.int p2), .val (.int p3), .val (.int p4), .val (.int (p0 &&& (1 : Int32))), .val (.int (m0_0 p0 p1 p2 p3 p4)), .val (.int (m0_1 p0 p1 p2 p3 p4)), .val (.ref b1), .val (.int (m0_2 p0 p1 p2 p3 p4)), .val (.int (m0_3 p0 p1 p2 p3 p4)), .val (.int (p3 &&& (31 : Int32))), .val (.int (p4 &&& (31 : Int32))), .unset, .unset, .unset, .unset] [(.ref b13), (.ref b13)])) _
    refine XS.aload X13.here hx rfl (hb hby at_115) rfl rfl ?_
    show Steps p.tables e below (T13.setTop (mkF m 117 #[.val (.int p0), .val (.int p1), .val (.int p2), .val (.int p3), .val (.int p4), .val (.int (p0 &&& (1 : Int32))), .val (.int (m0_0 p0 p1 p2 p3 p4)), .val (.int (m0_1 p0 p1 p2 p3 p4)), .val (.ref b1), .val (.int (m0_2 p0 p1 p2 p3 p4)), .val (.int (m0_3 p0 p1 p2 p3 p4)), .val (.int (p3 &&& (31 : Int32))), .val (.int (p4 &&& (31 : Int32))), .unset, .unset, .unset, .unset] [(.ref b1), (.ref b13), (.ref b13)])) _
    refine XS.iload X13.here hx rfl (hb hby at_117) rfl ?_
    show Steps p.tables e below (T13.setTop (mkF m 119 #[.val (.int p0), .val (.int p1), .val (.int p2), .val (.int p3), .val (.int p4), .val (.int (p0 &&& (1 : Int32))), .val (.int (m0_0 p0 p1 p2 p3 p4)), .val (.int (m0_1 p0 p1 p2 p3 p4)), .val (.ref b1), .val (.int (m0_2 p0 p1 p2 p3 p4)), .val (.int (m0_3 p0 p1 p2 p3 p4)), .val (.int (p3 &&& (31 : Int32))), .val (.int (p4 &&& (31 : Int32))), .unset, .unset, .unset, .unset] [(.int (p0 &&& (1 : Int32))), (.ref b1), (.ref b13), (.ref b13)])) _
    refine XS.iload X13.here hx rfl (hb hby at_119) rfl ?_
    show Steps p.tables e below (T13.setTop (mkF m 121 #[.val (.int p0), .val (.int p1), .val (.int p2), .val (.int p3), .val (.int p4), .val (.int (p0 &&& (1 : Int32))), .val (.int (m0_0 p0 p1 p2 p3 p4)), .val (.int (m0_1 p0 p1 p2 p3 p4)), .val (.ref b1), .val (.int (m0_2 p0 p1 p2 p3 p4)), .val (.int (m0_3 p0 p1 p2 p3 p4)), .val (.int (p3 &&& (31 : Int32))), .val (.int (p4 &&& (31 : Int32))), .unset, .unset, .unset, .unset] [(.int (m0_1 p0 p1 p2 p3 p4)), (.int (p0 &&& (1 : Int32))), (.ref b1), (.ref b13), (.ref b13)])) _
    refine st14.trans ?_
    show Steps p.tables e below (T14.setTop (mkF m 124 #[.val (.int p0), .val (.int p1), .val (.int p2), .val (.int p3), .val (.int p4), .val (.int (p0 &&& (1 : Int32))), .val (.int (m0_0 p0 p1 p2 p3 p4)), .val (.int (m0_1 p0 p1 p2 p3 p4)), .val (.ref b1), .val (.int (m0_2 p0 p1 p2 p3 p4)), .val (.int (m0_3 p0 p1 p2 p3 p4)), .val (.int (p3 &&& (31 : Int32))), .val (.int (p4 &&& (31 : Int32))), .unset, .unset, .unset, .unset] [(.ref b13)])) _
    refine XS.astore X14.here hx rfl (hb hby at_124) rfl rfl (l' := #[.val (.int p0), .val (.int p1), .val (.int p2), .val (.int p3), .val (.int p4), .val (.int (p0 &&& (1 : Int32))), .val (.int (m0_0 p0 p1 p2 p3 p4)), .val (.int (m0_1 p0 p1 p2 p3 p4)), .val (.ref b1), .val (.int (m0_2 p0 p1 p2 p3 p4)), .val (.int (m0_3 p0 p1 p2 p3 p4)), .val (.int (p3 &&& (31 : Int32))), .val (.int (p4 &&& (31 : Int32))), .val (.ref b13), .unset, .unset, .unset]) rfl ?_
    show Steps p.tables e below (T14.setTop (mkF m 126 #[.val (.int p0), .val (.int p1), .val (.int p2), .val (.int p3), .val (.int p4), .val (.int (p0 &&& (1 : Int32))), .val (.int (m0_0 p0 p1 p2 p3 p4)), .val (.int (m0_1 p0 p1 p2 p3 p4)), .val (.ref b1), .val (.int (m0_2 p0 p1 p2 p3 p4)), .val (.int (m0_3 p0 p1 p2 p3 p4)), .val (.int (p3 &&& (31 : Int32))), .val (.int (p4 &&& (31 : Int32))), .val (.ref b13), .unset, .unset, .unset] [])) _
    refine XS.aload X14.here hx rfl (hb hby at_126) rfl rfl ?_
    show Steps p.tables e below (T14.setTop (mkF m 128 #[.val (.int p0), .val (.int p1), .val (.int p2), .val (.int p3), .val (.int p4), .val (.int (p0 &&& (1 : Int32))), .val (.int (m0_0 p0 p1 p2 p3 p4)), .val (.int (m0_1 p0 p1 p2 p3 p4)), .val (.ref b1), .val (.int (m0_2 p0 p1 p2 p3 p4)), .val (.int (m0_3 p0 p1 p2 p3 p4)), .val (.int (p3 &&& (31 : Int32))), .val (.int (p4 &&& (31 : Int32))), .val (.ref b13), .unset, .unset, .unset] [(.ref b13)])) _
    refine st15.trans ?_
    show Steps p.tables e below (T15.setTop (mkF m 131 #[.val (.int p0), .val (.int p1), .val (.int p2), .val (.int p3), .val (.int p4), .val (.int (p0 &&& (1 : Int32))), .val (.int (m0_0 p0 p1 p2 p3 p4)), .val (.int (m0_1 p0 p1 p2 p3 p4)), .val (.ref b1), .val (.int (m0_2 p0 p1 p2 p3 p4)), .val (.int (m0_3 p0 p1 p2 p3 p4)), .val (.int (p3 &&& (31 : Int32))), .val (.int (p4 &&& (31 : Int32))), .val (.ref b13), .unset, .unset, .unset] [(.int (f5 (((((((m0_1 p0 p1 p2 p3 p4) - (p0 &&& (1 : Int32))).toInt64) * (8 : Int64)) - ((f4 ((((m0_2 p0 p1 p2 p3 p4).toInt8.toInt32).toInt8.toInt32) &&& (255 : Int32))).toInt64)) + (24 : Int64)) - (1 : Int64))))])) _
    refine XS.iload X15.here hx rfl (hb hby at_131) rfl ?_
    exact kt
  refine own_back (b := T15.setTop (mkF m 141 #[.val (.int p0), .val (.int p1), .val (.int p2), .val (.int p3), .val (.int p4), .val (.int (p0 &&& (1 : Int32))), .val (.int (m0_0 p0 p1 p2 p3 p4)), .val (.int (m0_1 p0 p1 p2 p3 p4)), .val (.ref b1), .val (.int (m0_2 p0 p1 p2 p3 p4)), .val (.int (m0_3 p0 p1 p2 p3 p4)), .val (.int (p3 &&& (31 : Int32))), .val (.int (p4 &&& (31 : Int32))), .val (.ref b13), .unset, .unset, .unset] [(.int (m0_4 p0 p1 p2 p3 p4)), (.int (f5 (((((((m0_1 p0 p1 p2 p3 p4) - (p0 &&& (1 : Int32))).toInt64) * (8 : Int64)) - ((f4 ((((m0_2 p0 p1 p2 p3 p4).toInt8.toInt32).toInt8.toInt32) &&& (255 : Int32))).toInt64)) + (24 : Int64)) - (1 : Int64))))])) (fun t kt => ?_) ?_
  · by_cases hm133_16 : (m0_3 p0 p1 p2 p3 p4) = (0 : Int32)
    · rw [show (m0_4 p0 p1 p2 p3 p4) = (1 : Int32) from by unfold m0_4; rw [if_pos hm133_16]] at kt
      show Steps p.tables e below (T15.setTop (mkF m 133 #[.val (.int p0), .val (.int p1), .val (.int p2), .val (.int p3), .val (.int p4), .val (.int (p0 &&& (1 : Int32))), .val (.int (m0_0 p0 p1 p2 p3 p4)), .val (.int (m0_1 p0 p1 p2 p3 p4)), .val (.ref b1), .val (.int (m0_2 p0 p1 p2 p3 p4)), .val (.int (m0_3 p0 p1 p2 p3 p4)), .val (.int (p3 &&& (31 : Int32))), .val (.int (p4 &&& (31 : Int32))), .val (.ref b13), .unset, .unset, .unset] [(.int (m0_3 p0 p1 p2 p3 p4)), (.int (f5 (((((((m0_1 p0 p1 p2 p3 p4) - (p0 &&& (1 : Int32))).toInt64) * (8 : Int64)) - ((f4 ((((m0_2 p0 p1 p2 p3 p4).toInt8.toInt32).toInt8.toInt32) &&& (255 : Int32))).toInt64)) + (24 : Int64)) - (1 : Int64))))])) _
      refine XS.ifNo X15.here hx rfl (hb hby at_133) rfl ((if0 _ _).trans (teq hm133_16).2) ?_
      show Steps p.tables e below (T15.setTop (mkF m 136 #[.val (.int p0), .val (.int p1), .val (.int p2), .val (.int p3), .val (.int p4), .val (.int (p0 &&& (1 : Int32))), .val (.int (m0_0 p0 p1 p2 p3 p4)), .val (.int (m0_1 p0 p1 p2 p3 p4)), .val (.ref b1), .val (.int (m0_2 p0 p1 p2 p3 p4)), .val (.int (m0_3 p0 p1 p2 p3 p4)), .val (.int (p3 &&& (31 : Int32))), .val (.int (p4 &&& (31 : Int32))), .val (.ref b13), .unset, .unset, .unset] [(.int (f5 (((((((m0_1 p0 p1 p2 p3 p4) - (p0 &&& (1 : Int32))).toInt64) * (8 : Int64)) - ((f4 ((((m0_2 p0 p1 p2 p3 p4).toInt8.toInt32).toInt8.toInt32) &&& (255 : Int32))).toInt64)) + (24 : Int64)) - (1 : Int64))))])) _
      refine XS.iconst X15.here hx rfl (hb hby at_136) ?_
      show Steps p.tables e below (T15.setTop (mkF m 137 #[.val (.int p0), .val (.int p1), .val (.int p2), .val (.int p3), .val (.int p4), .val (.int (p0 &&& (1 : Int32))), .val (.int (m0_0 p0 p1 p2 p3 p4)), .val (.int (m0_1 p0 p1 p2 p3 p4)), .val (.ref b1), .val (.int (m0_2 p0 p1 p2 p3 p4)), .val (.int (m0_3 p0 p1 p2 p3 p4)), .val (.int (p3 &&& (31 : Int32))), .val (.int (p4 &&& (31 : Int32))), .val (.ref b13), .unset, .unset, .unset] [(.int (1 : Int32)), (.int (f5 (((((((m0_1 p0 p1 p2 p3 p4) - (p0 &&& (1 : Int32))).toInt64) * (8 : Int64)) - ((f4 ((((m0_2 p0 p1 p2 p3 p4).toInt8.toInt32).toInt8.toInt32) &&& (255 : Int32))).toInt64)) + (24 : Int64)) - (1 : Int64))))])) _
      refine XS.goto X15.here hx rfl (pc0 := 137) (pc' := 141) rfl (hb hby at_137) (by decide) (by decide) ?_
      exact kt
    · rw [show (m0_4 p0 p1 p2 p3 p4) = (0 : Int32) from by unfold m0_4; rw [if_neg hm133_16]] at kt
      show Steps p.tables e below (T15.setTop (mkF m 133 #[.val (.int p0), .val (.int p1), .val (.int p2), .val (.int p3), .val (.int p4), .val (.int (p0 &&& (1 : Int32))), .val (.int (m0_0 p0 p1 p2 p3 p4)), .val (.int (m0_1 p0 p1 p2 p3 p4)), .val (.ref b1), .val (.int (m0_2 p0 p1 p2 p3 p4)), .val (.int (m0_3 p0 p1 p2 p3 p4)), .val (.int (p3 &&& (31 : Int32))), .val (.int (p4 &&& (31 : Int32))), .val (.ref b13), .unset, .unset, .unset] [(.int (m0_3 p0 p1 p2 p3 p4)), (.int (f5 (((((((m0_1 p0 p1 p2 p3 p4) - (p0 &&& (1 : Int32))).toInt64) * (8 : Int64)) - ((f4 ((((m0_2 p0 p1 p2 p3 p4).toInt8.toInt32).toInt8.toInt32) &&& (255 : Int32))).toInt64)) + (24 : Int64)) - (1 : Int64))))])) _
      refine XS.ifYes X15.here hx rfl (pc0 := 133) (pc' := 140) rfl (hb hby at_133) rfl ((if0 _ _).trans (feq hm133_16).2) (by decide) (by decide) ?_
      show Steps p.tables e below (T15.setTop (mkF m 140 #[.val (.int p0), .val (.int p1), .val (.int p2), .val (.int p3), .val (.int p4), .val (.int (p0 &&& (1 : Int32))), .val (.int (m0_0 p0 p1 p2 p3 p4)), .val (.int (m0_1 p0 p1 p2 p3 p4)), .val (.ref b1), .val (.int (m0_2 p0 p1 p2 p3 p4)), .val (.int (m0_3 p0 p1 p2 p3 p4)), .val (.int (p3 &&& (31 : Int32))), .val (.int (p4 &&& (31 : Int32))), .val (.ref b13), .unset, .unset, .unset] [(.int (f5 (((((((m0_1 p0 p1 p2 p3 p4) - (p0 &&& (1 : Int32))).toInt64) * (8 : Int64)) - ((f4 ((((m0_2 p0 p1 p2 p3 p4).toInt8.toInt32).toInt8.toInt32) &&& (255 : Int32))).toInt64)) + (24 : Int64)) - (1 : Int64))))])) _
      refine XS.iconst X15.here hx rfl (hb hby at_140) ?_
      exact kt
  refine own_back (b := T15.setTop (mkF m 149 #[.val (.int p0), .val (.int p1), .val (.int p2), .val (.int p3), .val (.int p4), .val (.int (p0 &&& (1 : Int32))), .val (.int (m0_0 p0 p1 p2 p3 p4)), .val (.int (m0_1 p0 p1 p2 p3 p4)), .val (.ref b1), .val (.int (m0_2 p0 p1 p2 p3 p4)), .val (.int (m0_3 p0 p1 p2 p3 p4)), .val (.int (p3 &&& (31 : Int32))), .val (.int (p4 &&& (31 : Int32))), .val (.ref b13), .unset, .unset, .unset] [(.int (m0_5 p0 p1 p2 p3 p4))])) (fun t kt => ?_) ?_
  · by_cases hm141_17 : (f5 (((((((m0_1 p0 p1 p2 p3 p4) - (p0 &&& (1 : Int32))).toInt64) * (8 : Int64)) - ((f4 ((((m0_2 p0 p1 p2 p3 p4).toInt8.toInt32).toInt8.toInt32) &&& (255 : Int32))).toInt64)) + (24 : Int64)) - (1 : Int64))) = (m0_4 p0 p1 p2 p3 p4)
    · rw [show (m0_5 p0 p1 p2 p3 p4) = (1 : Int32) from by unfold m0_5; rw [if_pos hm141_17]] at kt
      show Steps p.tables e below (T15.setTop (mkF m 141 #[.val (.int p0), .val (.int p1), .val (.int p2), .val (.int p3), .val (.int p4), .val (.int (p0 &&& (1 : Int32))), .val (.int (m0_0 p0 p1 p2 p3 p4)), .val (.int (m0_1 p0 p1 p2 p3 p4)), .val (.ref b1), .val (.int (m0_2 p0 p1 p2 p3 p4)), .val (.int (m0_3 p0 p1 p2 p3 p4)), .val (.int (p3 &&& (31 : Int32))), .val (.int (p4 &&& (31 : Int32))), .val (.ref b13), .unset, .unset, .unset] [(.int (m0_4 p0 p1 p2 p3 p4)), (.int (f5 (((((((m0_1 p0 p1 p2 p3 p4) - (p0 &&& (1 : Int32))).toInt64) * (8 : Int64)) - ((f4 ((((m0_2 p0 p1 p2 p3 p4).toInt8.toInt32).toInt8.toInt32) &&& (255 : Int32))).toInt64)) + (24 : Int64)) - (1 : Int64))))])) _
      refine XS.icmpNo X15.here hx rfl (hb hby at_141) rfl (teq hm141_17).2 ?_
      show Steps p.tables e below (T15.setTop (mkF m 144 #[.val (.int p0), .val (.int p1), .val (.int p2), .val (.int p3), .val (.int p4), .val (.int (p0 &&& (1 : Int32))), .val (.int (m0_0 p0 p1 p2 p3 p4)), .val (.int (m0_1 p0 p1 p2 p3 p4)), .val (.ref b1), .val (.int (m0_2 p0 p1 p2 p3 p4)), .val (.int (m0_3 p0 p1 p2 p3 p4)), .val (.int (p3 &&& (31 : Int32))), .val (.int (p4 &&& (31 : Int32))), .val (.ref b13), .unset, .unset, .unset] [])) _
      refine XS.iconst X15.here hx rfl (hb hby at_144) ?_
      show Steps p.tables e below (T15.setTop (mkF m 145 #[.val (.int p0), .val (.int p1), .val (.int p2), .val (.int p3), .val (.int p4), .val (.int (p0 &&& (1 : Int32))), .val (.int (m0_0 p0 p1 p2 p3 p4)), .val (.int (m0_1 p0 p1 p2 p3 p4)), .val (.ref b1), .val (.int (m0_2 p0 p1 p2 p3 p4)), .val (.int (m0_3 p0 p1 p2 p3 p4)), .val (.int (p3 &&& (31 : Int32))), .val (.int (p4 &&& (31 : Int32))), .val (.ref b13), .unset, .unset, .unset] [(.int (1 : Int32))])) _
      refine XS.goto X15.here hx rfl (pc0 := 145) (pc' := 149) rfl (hb hby at_145) (by decide) (by decide) ?_
      exact kt
    · rw [show (m0_5 p0 p1 p2 p3 p4) = (0 : Int32) from by unfold m0_5; rw [if_neg hm141_17]] at kt
      show Steps p.tables e below (T15.setTop (mkF m 141 #[.val (.int p0), .val (.int p1), .val (.int p2), .val (.int p3), .val (.int p4), .val (.int (p0 &&& (1 : Int32))), .val (.int (m0_0 p0 p1 p2 p3 p4)), .val (.int (m0_1 p0 p1 p2 p3 p4)), .val (.ref b1), .val (.int (m0_2 p0 p1 p2 p3 p4)), .val (.int (m0_3 p0 p1 p2 p3 p4)), .val (.int (p3 &&& (31 : Int32))), .val (.int (p4 &&& (31 : Int32))), .val (.ref b13), .unset, .unset, .unset] [(.int (m0_4 p0 p1 p2 p3 p4)), (.int (f5 (((((((m0_1 p0 p1 p2 p3 p4) - (p0 &&& (1 : Int32))).toInt64) * (8 : Int64)) - ((f4 ((((m0_2 p0 p1 p2 p3 p4).toInt8.toInt32).toInt8.toInt32) &&& (255 : Int32))).toInt64)) + (24 : Int64)) - (1 : Int64))))])) _
      refine XS.icmpYes X15.here hx rfl (pc0 := 141) (pc' := 148) rfl (hb hby at_141) rfl (feq hm141_17).2 (by decide) (by decide) ?_
      show Steps p.tables e below (T15.setTop (mkF m 148 #[.val (.int p0), .val (.int p1), .val (.int p2), .val (.int p3), .val (.int p4), .val (.int (p0 &&& (1 : Int32))), .val (.int (m0_0 p0 p1 p2 p3 p4)), .val (.int (m0_1 p0 p1 p2 p3 p4)), .val (.ref b1), .val (.int (m0_2 p0 p1 p2 p3 p4)), .val (.int (m0_3 p0 p1 p2 p3 p4)), .val (.int (p3 &&& (31 : Int32))), .val (.int (p4 &&& (31 : Int32))), .val (.ref b13), .unset, .unset, .unset] [])) _
      refine XS.iconst X15.here hx rfl (hb hby at_148) ?_
      exact kt
  obtain ⟨cq18, kq18, q18a, q18b, q18c⟩ := isOf hZ e15 P14_0
  obtain ⟨_, _, ⟨T18, L18, k18, n18⟩, -, X18, ⟨Lc18, hQ18, l18, y18, z18⟩, st18⟩ := X15.virtualBack hx (y := (⟨"com/example/urial/urial/protocol/BackwardBitReader", "skip", "(I)V"⟩ : MethodName)) (z := (⟨"com/example/urial/urial/protocol/BackwardBitReader", "skip", "(I)V"⟩ : MethodName)) hown (mvT hZ (hw _ (List.mem_of_getElem? (i := 35) rfl))) (mvT hZ (hw _ (List.mem_of_getElem? (i := 36) rfl))) (notFace_of_selects (args := #[]) (mvT hZ (hw _ (List.mem_of_getElem? (i := 38) rfl)))) (mvT hZ (hw _ (List.mem_of_getElem? (i := 38) rfl))) (mvT hZ (hw _ (List.mem_of_getElem? (i := 37) rfl))) (by decide) (backOf (W := 0) (rm6 l Z aw hw [] b13 (p3 &&& (31 : Int32)) (((((((m0_1 p0 p1 p2 p3 p4) - (p0 &&& (1 : Int32))).toInt64) * (8 : Int64)) - ((f4 ((((m0_2 p0 p1 p2 p3 p4).toInt8.toInt32).toInt8.toInt32) &&& (255 : Int32))).toInt64)) + (24 : Int64)) - (1 : Int64)) T14.heap n0 Z14 P14_1 P14_0 lo13) hZ (hw _ (List.mem_of_getElem? (i := 39) rfl)) (hw _ (List.mem_of_getElem? (i := 8) rfl)) (by decide) (by decide)) q18a q18c (g := (mkF m 155 #[.val (.int p0), .val (.int p1), .val (.int p2), .val (.int p3), .val (.int p4), .val (.int (p0 &&& (1 : Int32))), .val (.int (m0_0 p0 p1 p2 p3 p4)), .val (.int (m0_1 p0 p1 p2 p3 p4)), .val (.ref b1), .val (.int (m0_2 p0 p1 p2 p3 p4)), .val (.int (m0_3 p0 p1 p2 p3 p4)), .val (.int (p3 &&& (31 : Int32))), .val (.int (p4 &&& (31 : Int32))), .val (.ref b13), .val (.int (m0_5 p0 p1 p2 p3 p4)), .unset, .unset] [(.int (p3 &&& (31 : Int32))), (.ref b13)])) rfl (by rw [hml]; rfl) (Steps.refl _) (argsL := [(.int (p3 &&& (31 : Int32)))]) (rest := []) (lenOf pd_0_3 rfl) rfl (by show 2 * 0 + _ ≤ _; exact Nat.le_of_eq rfl) (hb hby at_155) (fun _ _ => ⟨rfl, e15, (by decide : 2 + 0 ≤ _), (by decide : 8 + 0 ≤ _)⟩)
  dsimp only [Pt.U, Pt.locs, Pt.cells, Pt.slots] at X18 l18 y18 z18 st18 hQ18
  subst l18 y18 z18
  obtain ⟨rfl, Nq18, Kq18, P18_0, P18_1⟩ := hQ18
  have N18 := Fr.app N15 Nq18
  have f18_0 := f14_0.keep Kq18 (ninS ne13_b1 nin0)
  have K18 : Keep h0 T18.heap [] := K14.trans Kq18 (allS (Or.inr sz13) all0)
  have Z18 : n0 ≤ T18.heap.size := Nat.le_trans Z14 Kq18.1
  obtain ⟨cq19, kq19, q19a, q19b, q19c⟩ := isOf hZ rfl P18_0
  obtain ⟨_, _, ⟨T19, L19, k19, n19⟩, -, X19, ⟨Lc19, hQ19, l19, y19, z19⟩, st19⟩ := X18.virtualBack hx (y := (⟨"com/example/urial/urial/protocol/BackwardBitReader", "finished", "()Z"⟩ : MethodName)) (z := (⟨"com/example/urial/urial/protocol/BackwardBitReader", "finished", "()Z"⟩ : MethodName)) hown (mvT hZ (hw _ (List.mem_of_getElem? (i := 30) rfl))) (mvT hZ (hw _ (List.mem_of_getElem? (i := 31) rfl))) (notFace_of_selects (args := #[]) (mvT hZ (hw _ (List.mem_of_getElem? (i := 33) rfl)))) (mvT hZ (hw _ (List.mem_of_getElem? (i := 33) rfl))) (mvT hZ (hw _ (List.mem_of_getElem? (i := 32) rfl))) (by decide) (backOf (W := 0) (rm5 l Z aw hw [] b13 ((((((((m0_1 p0 p1 p2 p3 p4) - (p0 &&& (1 : Int32))).toInt64) * (8 : Int64)) - ((f4 ((((m0_2 p0 p1 p2 p3 p4).toInt8.toInt32).toInt8.toInt32) &&& (255 : Int32))).toInt64)) + (24 : Int64)) - (1 : Int64)) - ((p3 &&& (31 : Int32)).toInt64)) T18.heap n0 Z18 P18_1) hZ (hw _ (List.mem_of_getElem? (i := 34) rfl)) (hw _ (List.mem_of_getElem? (i := 8) rfl)) (by decide) (by decide)) q19a q19c (g := (mkF m 160 #[.val (.int p0), .val (.int p1), .val (.int p2), .val (.int p3), .val (.int p4), .val (.int (p0 &&& (1 : Int32))), .val (.int (m0_0 p0 p1 p2 p3 p4)), .val (.int (m0_1 p0 p1 p2 p3 p4)), .val (.ref b1), .val (.int (m0_2 p0 p1 p2 p3 p4)), .val (.int (m0_3 p0 p1 p2 p3 p4)), .val (.int (p3 &&& (31 : Int32))), .val (.int (p4 &&& (31 : Int32))), .val (.ref b13), .val (.int (m0_5 p0 p1 p2 p3 p4)), .unset, .unset] [(.ref b13)])) rfl (by rw [hml]; rfl) (Steps.refl _) (argsL := []) (rest := []) (lenOf pd_0_2 rfl) rfl (by show 2 * 0 + _ ≤ _; exact Nat.le_of_eq rfl) (hb hby at_160) (fun _ _ => ⟨rfl, rfl, (by decide : 2 + 0 ≤ _), (by decide : 8 + 0 ≤ _)⟩)
  dsimp only [Pt.U, Pt.locs, Pt.cells, Pt.slots] at X19 l19 y19 z19 st19 hQ19
  subst l19 y19 z19
  obtain ⟨rfl, Nq19, e19⟩ := hQ19
  have N19 := Fr.app N18 Nq19
  refine own_back (b := T19.setTop (mkF m 167 #[.val (.int p0), .val (.int p1), .val (.int p2), .val (.int p3), .val (.int p4), .val (.int (p0 &&& (1 : Int32))), .val (.int (m0_0 p0 p1 p2 p3 p4)), .val (.int (m0_1 p0 p1 p2 p3 p4)), .val (.ref b1), .val (.int (m0_2 p0 p1 p2 p3 p4)), .val (.int (m0_3 p0 p1 p2 p3 p4)), .val (.int (p3 &&& (31 : Int32))), .val (.int (p4 &&& (31 : Int32))), .val (.ref b13), .val (.int (m0_5 p0 p1 p2 p3 p4)), .unset, .unset] [(.int (m0_3 p0 p1 p2 p3 p4)), (.int (p3 &&& (31 : Int32))), (.int (f5 ((((((((m0_1 p0 p1 p2 p3 p4) - (p0 &&& (1 : Int32))).toInt64) * (8 : Int64)) - ((f4 ((((m0_2 p0 p1 p2 p3 p4).toInt8.toInt32).toInt8.toInt32) &&& (255 : Int32))).toInt64)) + (24 : Int64)) - (1 : Int64)) - ((p3 &&& (31 : Int32)).toInt64))))])) (fun t kt => ?_) ?_
  · show Steps p.tables e below (T15.setTop (mkF m 149 #[.val (.int p0), .val (.int p1), .val (.int p2), .val (.int p3), .val (.int p4), .val (.int (p0 &&& (1 : Int32))), .val (.int (m0_0 p0 p1 p2 p3 p4)), .val (.int (m0_1 p0 p1 p2 p3 p4)), .val (.ref b1), .val (.int (m0_2 p0 p1 p2 p3 p4)), .val (.int (m0_3 p0 p1 p2 p3 p4)), .val (.int (p3 &&& (31 : Int32))), .val (.int (p4 &&& (31 : Int32))), .val (.ref b13), .unset, .unset, .unset] [(.int (m0_5 p0 p1 p2 p3 p4))])) _
    refine XS.istore X15.here hx rfl (hb hby at_149) rfl (l' := #[.val (.int p0), .val (.int p1), .val (.int p2), .val (.int p3), .val (.int p4), .val (.int (p0 &&& (1 : Int32))), .val (.int (m0_0 p0 p1 p2 p3 p4)), .val (.int (m0_1 p0 p1 p2 p3 p4)), .val (.ref b1), .val (.int (m0_2 p0 p1 p2 p3 p4)), .val (.int (m0_3 p0 p1 p2 p3 p4)), .val (.int (p3 &&& (31 : Int32))), .val (.int (p4 &&& (31 : Int32))), .val (.ref b13), .val (.int (m0_5 p0 p1 p2 p3 p4)), .unset, .unset]) rfl ?_
    show Steps p.tables e below (T15.setTop (mkF m 151 #[.val (.int p0), .val (.int p1), .val (.int p2), .val (.int p3), .val (.int p4), .val (.int (p0 &&& (1 : Int32))), .val (.int (m0_0 p0 p1 p2 p3 p4)), .val (.int (m0_1 p0 p1 p2 p3 p4)), .val (.ref b1), .val (.int (m0_2 p0 p1 p2 p3 p4)), .val (.int (m0_3 p0 p1 p2 p3 p4)), .val (.int (p3 &&& (31 : Int32))), .val (.int (p4 &&& (31 : Int32))), .val (.ref b13), .val (.int (m0_5 p0 p1 p2 p3 p4)), .unset, .unset] [])) _
    refine XS.aload X15.here hx rfl (hb hby at_151) rfl rfl ?_
    show Steps p.tables e below (T15.setTop (mkF m 153 #[.val (.int p0), .val (.int p1), .val (.int p2), .val (.int p3), .val (.int p4), .val (.int (p0 &&& (1 : Int32))), .val (.int (m0_0 p0 p1 p2 p3 p4)), .val (.int (m0_1 p0 p1 p2 p3 p4)), .val (.ref b1), .val (.int (m0_2 p0 p1 p2 p3 p4)), .val (.int (m0_3 p0 p1 p2 p3 p4)), .val (.int (p3 &&& (31 : Int32))), .val (.int (p4 &&& (31 : Int32))), .val (.ref b13), .val (.int (m0_5 p0 p1 p2 p3 p4)), .unset, .unset] [(.ref b13)])) _
    refine XS.iload X15.here hx rfl (hb hby at_153) rfl ?_
    show Steps p.tables e below (T15.setTop (mkF m 155 #[.val (.int p0), .val (.int p1), .val (.int p2), .val (.int p3), .val (.int p4), .val (.int (p0 &&& (1 : Int32))), .val (.int (m0_0 p0 p1 p2 p3 p4)), .val (.int (m0_1 p0 p1 p2 p3 p4)), .val (.ref b1), .val (.int (m0_2 p0 p1 p2 p3 p4)), .val (.int (m0_3 p0 p1 p2 p3 p4)), .val (.int (p3 &&& (31 : Int32))), .val (.int (p4 &&& (31 : Int32))), .val (.ref b13), .val (.int (m0_5 p0 p1 p2 p3 p4)), .unset, .unset] [(.int (p3 &&& (31 : Int32))), (.ref b13)])) _
    refine st18.trans ?_
    show Steps p.tables e below (T18.setTop (mkF m 158 #[.val (.int p0), .val (.int p1), .val (.int p2), .val (.int p3), .val (.int p4), .val (.int (p0 &&& (1 : Int32))), .val (.int (m0_0 p0 p1 p2 p3 p4)), .val (.int (m0_1 p0 p1 p2 p3 p4)), .val (.ref b1), .val (.int (m0_2 p0 p1 p2 p3 p4)), .val (.int (m0_3 p0 p1 p2 p3 p4)), .val (.int (p3 &&& (31 : Int32))), .val (.int (p4 &&& (31 : Int32))), .val (.ref b13), .val (.int (m0_5 p0 p1 p2 p3 p4)), .unset, .unset] [])) _
    refine XS.aload X18.here hx rfl (hb hby at_158) rfl rfl ?_
    show Steps p.tables e below (T18.setTop (mkF m 160 #[.val (.int p0), .val (.int p1), .val (.int p2), .val (.int p3), .val (.int p4), .val (.int (p0 &&& (1 : Int32))), .val (.int (m0_0 p0 p1 p2 p3 p4)), .val (.int (m0_1 p0 p1 p2 p3 p4)), .val (.ref b1), .val (.int (m0_2 p0 p1 p2 p3 p4)), .val (.int (m0_3 p0 p1 p2 p3 p4)), .val (.int (p3 &&& (31 : Int32))), .val (.int (p4 &&& (31 : Int32))), .val (.ref b13), .val (.int (m0_5 p0 p1 p2 p3 p4)), .unset, .unset] [(.ref b13)])) _
    refine st19.trans ?_
    show Steps p.tables e below (T19.setTop (mkF m 163 #[.val (.int p0), .val (.int p1), .val (.int p2), .val (.int p3), .val (.int p4), .val (.int (p0 &&& (1 : Int32))), .val (.int (m0_0 p0 p1 p2 p3 p4)), .val (.int (m0_1 p0 p1 p2 p3 p4)), .val (.ref b1), .val (.int (m0_2 p0 p1 p2 p3 p4)), .val (.int (m0_3 p0 p1 p2 p3 p4)), .val (.int (p3 &&& (31 : Int32))), .val (.int (p4 &&& (31 : Int32))), .val (.ref b13), .val (.int (m0_5 p0 p1 p2 p3 p4)), .unset, .unset] [(.int (f5 ((((((((m0_1 p0 p1 p2 p3 p4) - (p0 &&& (1 : Int32))).toInt64) * (8 : Int64)) - ((f4 ((((m0_2 p0 p1 p2 p3 p4).toInt8.toInt32).toInt8.toInt32) &&& (255 : Int32))).toInt64)) + (24 : Int64)) - (1 : Int64)) - ((p3 &&& (31 : Int32)).toInt64))))])) _
    refine XS.iload X19.here hx rfl (hb hby at_163) rfl ?_
    show Steps p.tables e below (T19.setTop (mkF m 165 #[.val (.int p0), .val (.int p1), .val (.int p2), .val (.int p3), .val (.int p4), .val (.int (p0 &&& (1 : Int32))), .val (.int (m0_0 p0 p1 p2 p3 p4)), .val (.int (m0_1 p0 p1 p2 p3 p4)), .val (.ref b1), .val (.int (m0_2 p0 p1 p2 p3 p4)), .val (.int (m0_3 p0 p1 p2 p3 p4)), .val (.int (p3 &&& (31 : Int32))), .val (.int (p4 &&& (31 : Int32))), .val (.ref b13), .val (.int (m0_5 p0 p1 p2 p3 p4)), .unset, .unset] [(.int (p3 &&& (31 : Int32))), (.int (f5 ((((((((m0_1 p0 p1 p2 p3 p4) - (p0 &&& (1 : Int32))).toInt64) * (8 : Int64)) - ((f4 ((((m0_2 p0 p1 p2 p3 p4).toInt8.toInt32).toInt8.toInt32) &&& (255 : Int32))).toInt64)) + (24 : Int64)) - (1 : Int64)) - ((p3 &&& (31 : Int32)).toInt64))))])) _
    refine XS.iload X19.here hx rfl (hb hby at_165) rfl ?_
    exact kt
  refine own_back (b := T19.setTop (mkF m 175 #[.val (.int p0), .val (.int p1), .val (.int p2), .val (.int p3), .val (.int p4), .val (.int (p0 &&& (1 : Int32))), .val (.int (m0_0 p0 p1 p2 p3 p4)), .val (.int (m0_1 p0 p1 p2 p3 p4)), .val (.ref b1), .val (.int (m0_2 p0 p1 p2 p3 p4)), .val (.int (m0_3 p0 p1 p2 p3 p4)), .val (.int (p3 &&& (31 : Int32))), .val (.int (p4 &&& (31 : Int32))), .val (.ref b13), .val (.int (m0_5 p0 p1 p2 p3 p4)), .unset, .unset] [(.int (m0_6 p0 p1 p2 p3 p4)), (.int (f5 ((((((((m0_1 p0 p1 p2 p3 p4) - (p0 &&& (1 : Int32))).toInt64) * (8 : Int64)) - ((f4 ((((m0_2 p0 p1 p2 p3 p4).toInt8.toInt32).toInt8.toInt32) &&& (255 : Int32))).toInt64)) + (24 : Int64)) - (1 : Int64)) - ((p3 &&& (31 : Int32)).toInt64))))])) (fun t kt => ?_) ?_
  · by_cases hm167_20 : (p3 &&& (31 : Int32)) = (m0_3 p0 p1 p2 p3 p4)
    · rw [show (m0_6 p0 p1 p2 p3 p4) = (1 : Int32) from by unfold m0_6; rw [if_pos hm167_20]] at kt
      show Steps p.tables e below (T19.setTop (mkF m 167 #[.val (.int p0), .val (.int p1), .val (.int p2), .val (.int p3), .val (.int p4), .val (.int (p0 &&& (1 : Int32))), .val (.int (m0_0 p0 p1 p2 p3 p4)), .val (.int (m0_1 p0 p1 p2 p3 p4)), .val (.ref b1), .val (.int (m0_2 p0 p1 p2 p3 p4)), .val (.int (m0_3 p0 p1 p2 p3 p4)), .val (.int (p3 &&& (31 : Int32))), .val (.int (p4 &&& (31 : Int32))), .val (.ref b13), .val (.int (m0_5 p0 p1 p2 p3 p4)), .unset, .unset] [(.int (m0_3 p0 p1 p2 p3 p4)), (.int (p3 &&& (31 : Int32))), (.int (f5 ((((((((m0_1 p0 p1 p2 p3 p4) - (p0 &&& (1 : Int32))).toInt64) * (8 : Int64)) - ((f4 ((((m0_2 p0 p1 p2 p3 p4).toInt8.toInt32).toInt8.toInt32) &&& (255 : Int32))).toInt64)) + (24 : Int64)) - (1 : Int64)) - ((p3 &&& (31 : Int32)).toInt64))))])) _
      refine XS.icmpNo X19.here hx rfl (hb hby at_167) rfl (teq hm167_20).2 ?_
      show Steps p.tables e below (T19.setTop (mkF m 170 #[.val (.int p0), .val (.int p1), .val (.int p2), .val (.int p3), .val (.int p4), .val (.int (p0 &&& (1 : Int32))), .val (.int (m0_0 p0 p1 p2 p3 p4)), .val (.int (m0_1 p0 p1 p2 p3 p4)), .val (.ref b1), .val (.int (m0_2 p0 p1 p2 p3 p4)), .val (.int (m0_3 p0 p1 p2 p3 p4)), .val (.int (p3 &&& (31 : Int32))), .val (.int (p4 &&& (31 : Int32))), .val (.ref b13), .val (.int (m0_5 p0 p1 p2 p3 p4)), .unset, .unset] [(.int (f5 ((((((((m0_1 p0 p1 p2 p3 p4) - (p0 &&& (1 : Int32))).toInt64) * (8 : Int64)) - ((f4 ((((m0_2 p0 p1 p2 p3 p4).toInt8.toInt32).toInt8.toInt32) &&& (255 : Int32))).toInt64)) + (24 : Int64)) - (1 : Int64)) - ((p3 &&& (31 : Int32)).toInt64))))])) _
      refine XS.iconst X19.here hx rfl (hb hby at_170) ?_
      show Steps p.tables e below (T19.setTop (mkF m 171 #[.val (.int p0), .val (.int p1), .val (.int p2), .val (.int p3), .val (.int p4), .val (.int (p0 &&& (1 : Int32))), .val (.int (m0_0 p0 p1 p2 p3 p4)), .val (.int (m0_1 p0 p1 p2 p3 p4)), .val (.ref b1), .val (.int (m0_2 p0 p1 p2 p3 p4)), .val (.int (m0_3 p0 p1 p2 p3 p4)), .val (.int (p3 &&& (31 : Int32))), .val (.int (p4 &&& (31 : Int32))), .val (.ref b13), .val (.int (m0_5 p0 p1 p2 p3 p4)), .unset, .unset] [(.int (1 : Int32)), (.int (f5 ((((((((m0_1 p0 p1 p2 p3 p4) - (p0 &&& (1 : Int32))).toInt64) * (8 : Int64)) - ((f4 ((((m0_2 p0 p1 p2 p3 p4).toInt8.toInt32).toInt8.toInt32) &&& (255 : Int32))).toInt64)) + (24 : Int64)) - (1 : Int64)) - ((p3 &&& (31 : Int32)).toInt64))))])) _
      refine XS.goto X19.here hx rfl (pc0 := 171) (pc' := 175) rfl (hb hby at_171) (by decide) (by decide) ?_
      exact kt
    · rw [show (m0_6 p0 p1 p2 p3 p4) = (0 : Int32) from by unfold m0_6; rw [if_neg hm167_20]] at kt
      show Steps p.tables e below (T19.setTop (mkF m 167 #[.val (.int p0), .val (.int p1), .val (.int p2), .val (.int p3), .val (.int p4), .val (.int (p0 &&& (1 : Int32))), .val (.int (m0_0 p0 p1 p2 p3 p4)), .val (.int (m0_1 p0 p1 p2 p3 p4)), .val (.ref b1), .val (.int (m0_2 p0 p1 p2 p3 p4)), .val (.int (m0_3 p0 p1 p2 p3 p4)), .val (.int (p3 &&& (31 : Int32))), .val (.int (p4 &&& (31 : Int32))), .val (.ref b13), .val (.int (m0_5 p0 p1 p2 p3 p4)), .unset, .unset] [(.int (m0_3 p0 p1 p2 p3 p4)), (.int (p3 &&& (31 : Int32))), (.int (f5 ((((((((m0_1 p0 p1 p2 p3 p4) - (p0 &&& (1 : Int32))).toInt64) * (8 : Int64)) - ((f4 ((((m0_2 p0 p1 p2 p3 p4).toInt8.toInt32).toInt8.toInt32) &&& (255 : Int32))).toInt64)) + (24 : Int64)) - (1 : Int64)) - ((p3 &&& (31 : Int32)).toInt64))))])) _
      refine XS.icmpYes X19.here hx rfl (pc0 := 167) (pc' := 174) rfl (hb hby at_167) rfl (feq hm167_20).2 (by decide) (by decide) ?_
      show Steps p.tables e below (T19.setTop (mkF m 174 #[.val (.int p0), .val (.int p1), .val (.int p2), .val (.int p3), .val (.int p4), .val (.int (p0 &&& (1 : Int32))), .val (.int (m0_0 p0 p1 p2 p3 p4)), .val (.int (m0_1 p0 p1 p2 p3 p4)), .val (.ref b1), .val (.int (m0_2 p0 p1 p2 p3 p4)), .val (.int (m0_3 p0 p1 p2 p3 p4)), .val (.int (p3 &&& (31 : Int32))), .val (.int (p4 &&& (31 : Int32))), .val (.ref b13), .val (.int (m0_5 p0 p1 p2 p3 p4)), .unset, .unset] [(.int (f5 ((((((((m0_1 p0 p1 p2 p3 p4) - (p0 &&& (1 : Int32))).toInt64) * (8 : Int64)) - ((f4 ((((m0_2 p0 p1 p2 p3 p4).toInt8.toInt32).toInt8.toInt32) &&& (255 : Int32))).toInt64)) + (24 : Int64)) - (1 : Int64)) - ((p3 &&& (31 : Int32)).toInt64))))])) _
      refine XS.iconst X19.here hx rfl (hb hby at_174) ?_
      exact kt
  refine own_back (b := T19.setTop (mkF m 183 #[.val (.int p0), .val (.int p1), .val (.int p2), .val (.int p3), .val (.int p4), .val (.int (p0 &&& (1 : Int32))), .val (.int (m0_0 p0 p1 p2 p3 p4)), .val (.int (m0_1 p0 p1 p2 p3 p4)), .val (.ref b1), .val (.int (m0_2 p0 p1 p2 p3 p4)), .val (.int (m0_3 p0 p1 p2 p3 p4)), .val (.int (p3 &&& (31 : Int32))), .val (.int (p4 &&& (31 : Int32))), .val (.ref b13), .val (.int (m0_5 p0 p1 p2 p3 p4)), .unset, .unset] [(.int (m0_7 p0 p1 p2 p3 p4))])) (fun t kt => ?_) ?_
  · by_cases hm175_21 : (f5 ((((((((m0_1 p0 p1 p2 p3 p4) - (p0 &&& (1 : Int32))).toInt64) * (8 : Int64)) - ((f4 ((((m0_2 p0 p1 p2 p3 p4).toInt8.toInt32).toInt8.toInt32) &&& (255 : Int32))).toInt64)) + (24 : Int64)) - (1 : Int64)) - ((p3 &&& (31 : Int32)).toInt64))) = (m0_6 p0 p1 p2 p3 p4)
    · rw [show (m0_7 p0 p1 p2 p3 p4) = (1 : Int32) from by unfold m0_7; rw [if_pos hm175_21]] at kt
      show Steps p.tables e below (T19.setTop (mkF m 175 #[.val (.int p0), .val (.int p1), .val (.int p2), .val (.int p3), .val (.int p4), .val (.int (p0 &&& (1 : Int32))), .val (.int (m0_0 p0 p1 p2 p3 p4)), .val (.int (m0_1 p0 p1 p2 p3 p4)), .val (.ref b1), .val (.int (m0_2 p0 p1 p2 p3 p4)), .val (.int (m0_3 p0 p1 p2 p3 p4)), .val (.int (p3 &&& (31 : Int32))), .val (.int (p4 &&& (31 : Int32))), .val (.ref b13), .val (.int (m0_5 p0 p1 p2 p3 p4)), .unset, .unset] [(.int (m0_6 p0 p1 p2 p3 p4)), (.int (f5 ((((((((m0_1 p0 p1 p2 p3 p4) - (p0 &&& (1 : Int32))).toInt64) * (8 : Int64)) - ((f4 ((((m0_2 p0 p1 p2 p3 p4).toInt8.toInt32).toInt8.toInt32) &&& (255 : Int32))).toInt64)) + (24 : Int64)) - (1 : Int64)) - ((p3 &&& (31 : Int32)).toInt64))))])) _
      refine XS.icmpNo X19.here hx rfl (hb hby at_175) rfl (teq hm175_21).2 ?_
      show Steps p.tables e below (T19.setTop (mkF m 178 #[.val (.int p0), .val (.int p1), .val (.int p2), .val (.int p3), .val (.int p4), .val (.int (p0 &&& (1 : Int32))), .val (.int (m0_0 p0 p1 p2 p3 p4)), .val (.int (m0_1 p0 p1 p2 p3 p4)), .val (.ref b1), .val (.int (m0_2 p0 p1 p2 p3 p4)), .val (.int (m0_3 p0 p1 p2 p3 p4)), .val (.int (p3 &&& (31 : Int32))), .val (.int (p4 &&& (31 : Int32))), .val (.ref b13), .val (.int (m0_5 p0 p1 p2 p3 p4)), .unset, .unset] [])) _
      refine XS.iconst X19.here hx rfl (hb hby at_178) ?_
      show Steps p.tables e below (T19.setTop (mkF m 179 #[.val (.int p0), .val (.int p1), .val (.int p2), .val (.int p3), .val (.int p4), .val (.int (p0 &&& (1 : Int32))), .val (.int (m0_0 p0 p1 p2 p3 p4)), .val (.int (m0_1 p0 p1 p2 p3 p4)), .val (.ref b1), .val (.int (m0_2 p0 p1 p2 p3 p4)), .val (.int (m0_3 p0 p1 p2 p3 p4)), .val (.int (p3 &&& (31 : Int32))), .val (.int (p4 &&& (31 : Int32))), .val (.ref b13), .val (.int (m0_5 p0 p1 p2 p3 p4)), .unset, .unset] [(.int (1 : Int32))])) _
      refine XS.goto X19.here hx rfl (pc0 := 179) (pc' := 183) rfl (hb hby at_179) (by decide) (by decide) ?_
      exact kt
    · rw [show (m0_7 p0 p1 p2 p3 p4) = (0 : Int32) from by unfold m0_7; rw [if_neg hm175_21]] at kt
      show Steps p.tables e below (T19.setTop (mkF m 175 #[.val (.int p0), .val (.int p1), .val (.int p2), .val (.int p3), .val (.int p4), .val (.int (p0 &&& (1 : Int32))), .val (.int (m0_0 p0 p1 p2 p3 p4)), .val (.int (m0_1 p0 p1 p2 p3 p4)), .val (.ref b1), .val (.int (m0_2 p0 p1 p2 p3 p4)), .val (.int (m0_3 p0 p1 p2 p3 p4)), .val (.int (p3 &&& (31 : Int32))), .val (.int (p4 &&& (31 : Int32))), .val (.ref b13), .val (.int (m0_5 p0 p1 p2 p3 p4)), .unset, .unset] [(.int (m0_6 p0 p1 p2 p3 p4)), (.int (f5 ((((((((m0_1 p0 p1 p2 p3 p4) - (p0 &&& (1 : Int32))).toInt64) * (8 : Int64)) - ((f4 ((((m0_2 p0 p1 p2 p3 p4).toInt8.toInt32).toInt8.toInt32) &&& (255 : Int32))).toInt64)) + (24 : Int64)) - (1 : Int64)) - ((p3 &&& (31 : Int32)).toInt64))))])) _
      refine XS.icmpYes X19.here hx rfl (pc0 := 175) (pc' := 182) rfl (hb hby at_175) rfl (feq hm175_21).2 (by decide) (by decide) ?_
      show Steps p.tables e below (T19.setTop (mkF m 182 #[.val (.int p0), .val (.int p1), .val (.int p2), .val (.int p3), .val (.int p4), .val (.int (p0 &&& (1 : Int32))), .val (.int (m0_0 p0 p1 p2 p3 p4)), .val (.int (m0_1 p0 p1 p2 p3 p4)), .val (.ref b1), .val (.int (m0_2 p0 p1 p2 p3 p4)), .val (.int (m0_3 p0 p1 p2 p3 p4)), .val (.int (p3 &&& (31 : Int32))), .val (.int (p4 &&& (31 : Int32))), .val (.ref b13), .val (.int (m0_5 p0 p1 p2 p3 p4)), .unset, .unset] [])) _
      refine XS.iconst X19.here hx rfl (hb hby at_182) ?_
      exact kt
  obtain ⟨cq22, kq22, q22a, q22b, q22c⟩ := isOf hZ e19 P18_0
  obtain ⟨_, _, ⟨T22, L22, k22, n22⟩, -, X22, ⟨Lc22, hQ22, l22, y22, z22⟩, st22⟩ := X19.virtualBack hx (y := (⟨"com/example/urial/urial/protocol/BackwardBitReader", "skip", "(I)V"⟩ : MethodName)) (z := (⟨"com/example/urial/urial/protocol/BackwardBitReader", "skip", "(I)V"⟩ : MethodName)) hown (mvT hZ (hw _ (List.mem_of_getElem? (i := 35) rfl))) (mvT hZ (hw _ (List.mem_of_getElem? (i := 36) rfl))) (notFace_of_selects (args := #[]) (mvT hZ (hw _ (List.mem_of_getElem? (i := 38) rfl)))) (mvT hZ (hw _ (List.mem_of_getElem? (i := 38) rfl))) (mvT hZ (hw _ (List.mem_of_getElem? (i := 37) rfl))) (by decide) (backOf (W := 0) (rm6 l Z aw hw [] b13 (p4 &&& (31 : Int32)) ((((((((m0_1 p0 p1 p2 p3 p4) - (p0 &&& (1 : Int32))).toInt64) * (8 : Int64)) - ((f4 ((((m0_2 p0 p1 p2 p3 p4).toInt8.toInt32).toInt8.toInt32) &&& (255 : Int32))).toInt64)) + (24 : Int64)) - (1 : Int64)) - ((p3 &&& (31 : Int32)).toInt64)) T18.heap n0 Z18 P18_1 P18_0 lo13) hZ (hw _ (List.mem_of_getElem? (i := 39) rfl)) (hw _ (List.mem_of_getElem? (i := 8) rfl)) (by decide) (by decide)) q22a q22c (g := (mkF m 189 #[.val (.int p0), .val (.int p1), .val (.int p2), .val (.int p3), .val (.int p4), .val (.int (p0 &&& (1 : Int32))), .val (.int (m0_0 p0 p1 p2 p3 p4)), .val (.int (m0_1 p0 p1 p2 p3 p4)), .val (.ref b1), .val (.int (m0_2 p0 p1 p2 p3 p4)), .val (.int (m0_3 p0 p1 p2 p3 p4)), .val (.int (p3 &&& (31 : Int32))), .val (.int (p4 &&& (31 : Int32))), .val (.ref b13), .val (.int (m0_5 p0 p1 p2 p3 p4)), .val (.int (m0_7 p0 p1 p2 p3 p4)), .unset] [(.int (p4 &&& (31 : Int32))), (.ref b13)])) rfl (by rw [hml]; rfl) (Steps.refl _) (argsL := [(.int (p4 &&& (31 : Int32)))]) (rest := []) (lenOf pd_0_3 rfl) rfl (by show 2 * 0 + _ ≤ _; exact Nat.le_of_eq rfl) (hb hby at_189) (fun _ _ => ⟨rfl, e19, (by decide : 2 + 0 ≤ _), (by decide : 8 + 0 ≤ _)⟩)
  dsimp only [Pt.U, Pt.locs, Pt.cells, Pt.slots] at X22 l22 y22 z22 st22 hQ22
  subst l22 y22 z22
  obtain ⟨rfl, Nq22, Kq22, P22_0, P22_1⟩ := hQ22
  have N22 := Fr.app N19 Nq22
  have f22_0 := f18_0.keep Kq22 (ninS ne13_b1 nin0)
  have K22 : Keep h0 T22.heap [] := K18.trans Kq22 (allS (Or.inr sz13) all0)
  have Z22 : n0 ≤ T22.heap.size := Nat.le_trans Z18 Kq22.1
  obtain ⟨cq23, kq23, q23a, q23b, q23c⟩ := isOf hZ rfl P22_0
  obtain ⟨_, _, ⟨T23, L23, k23, n23⟩, -, X23, ⟨Lc23, hQ23, l23, y23, z23⟩, st23⟩ := X22.virtualBack hx (y := (⟨"com/example/urial/urial/protocol/BackwardBitReader", "finished", "()Z"⟩ : MethodName)) (z := (⟨"com/example/urial/urial/protocol/BackwardBitReader", "finished", "()Z"⟩ : MethodName)) hown (mvT hZ (hw _ (List.mem_of_getElem? (i := 30) rfl))) (mvT hZ (hw _ (List.mem_of_getElem? (i := 31) rfl))) (notFace_of_selects (args := #[]) (mvT hZ (hw _ (List.mem_of_getElem? (i := 33) rfl)))) (mvT hZ (hw _ (List.mem_of_getElem? (i := 33) rfl))) (mvT hZ (hw _ (List.mem_of_getElem? (i := 32) rfl))) (by decide) (backOf (W := 0) (rm5 l Z aw hw [] b13 (((((((((m0_1 p0 p1 p2 p3 p4) - (p0 &&& (1 : Int32))).toInt64) * (8 : Int64)) - ((f4 ((((m0_2 p0 p1 p2 p3 p4).toInt8.toInt32).toInt8.toInt32) &&& (255 : Int32))).toInt64)) + (24 : Int64)) - (1 : Int64)) - ((p3 &&& (31 : Int32)).toInt64)) - ((p4 &&& (31 : Int32)).toInt64)) T22.heap n0 Z22 P22_1) hZ (hw _ (List.mem_of_getElem? (i := 34) rfl)) (hw _ (List.mem_of_getElem? (i := 8) rfl)) (by decide) (by decide)) q23a q23c (g := (mkF m 194 #[.val (.int p0), .val (.int p1), .val (.int p2), .val (.int p3), .val (.int p4), .val (.int (p0 &&& (1 : Int32))), .val (.int (m0_0 p0 p1 p2 p3 p4)), .val (.int (m0_1 p0 p1 p2 p3 p4)), .val (.ref b1), .val (.int (m0_2 p0 p1 p2 p3 p4)), .val (.int (m0_3 p0 p1 p2 p3 p4)), .val (.int (p3 &&& (31 : Int32))), .val (.int (p4 &&& (31 : Int32))), .val (.ref b13), .val (.int (m0_5 p0 p1 p2 p3 p4)), .val (.int (m0_7 p0 p1 p2 p3 p4)), .unset] [(.ref b13)])) rfl (by rw [hml]; rfl) (Steps.refl _) (argsL := []) (rest := []) (lenOf pd_0_2 rfl) rfl (by show 2 * 0 + _ ≤ _; exact Nat.le_of_eq rfl) (hb hby at_194) (fun _ _ => ⟨rfl, rfl, (by decide : 2 + 0 ≤ _), (by decide : 8 + 0 ≤ _)⟩)
  dsimp only [Pt.U, Pt.locs, Pt.cells, Pt.slots] at X23 l23 y23 z23 st23 hQ23
  subst l23 y23 z23
  obtain ⟨rfl, Nq23, e23⟩ := hQ23
  have N23 := Fr.app N22 Nq23
  refine own_back (b := T23.setTop (mkF m 204 #[.val (.int p0), .val (.int p1), .val (.int p2), .val (.int p3), .val (.int p4), .val (.int (p0 &&& (1 : Int32))), .val (.int (m0_0 p0 p1 p2 p3 p4)), .val (.int (m0_1 p0 p1 p2 p3 p4)), .val (.ref b1), .val (.int (m0_2 p0 p1 p2 p3 p4)), .val (.int (m0_3 p0 p1 p2 p3 p4)), .val (.int (p3 &&& (31 : Int32))), .val (.int (p4 &&& (31 : Int32))), .val (.ref b13), .val (.int (m0_5 p0 p1 p2 p3 p4)), .val (.int (m0_7 p0 p1 p2 p3 p4)), .unset] [(.int (m0_3 p0 p1 p2 p3 p4)), (.int ((p3 &&& (31 : Int32)) + (p4 &&& (31 : Int32)))), (.int (f5 (((((((((m0_1 p0 p1 p2 p3 p4) - (p0 &&& (1 : Int32))).toInt64) * (8 : Int64)) - ((f4 ((((m0_2 p0 p1 p2 p3 p4).toInt8.toInt32).toInt8.toInt32) &&& (255 : Int32))).toInt64)) + (24 : Int64)) - (1 : Int64)) - ((p3 &&& (31 : Int32)).toInt64)) - ((p4 &&& (31 : Int32)).toInt64))))])) (fun t kt => ?_) ?_
  · show Steps p.tables e below (T19.setTop (mkF m 183 #[.val (.int p0), .val (.int p1), .val (.int p2), .val (.int p3), .val (.int p4), .val (.int (p0 &&& (1 : Int32))), .val (.int (m0_0 p0 p1 p2 p3 p4)), .val (.int (m0_1 p0 p1 p2 p3 p4)), .val (.ref b1), .val (.int (m0_2 p0 p1 p2 p3 p4)), .val (.int (m0_3 p0 p1 p2 p3 p4)), .val (.int (p3 &&& (31 : Int32))), .val (.int (p4 &&& (31 : Int32))), .val (.ref b13), .val (.int (m0_5 p0 p1 p2 p3 p4)), .unset, .unset] [(.int (m0_7 p0 p1 p2 p3 p4))])) _
    refine XS.istore X19.here hx rfl (hb hby at_183) rfl (l' := #[.val (.int p0), .val (.int p1), .val (.int p2), .val (.int p3), .val (.int p4), .val (.int (p0 &&& (1 : Int32))), .val (.int (m0_0 p0 p1 p2 p3 p4)), .val (.int (m0_1 p0 p1 p2 p3 p4)), .val (.ref b1), .val (.int (m0_2 p0 p1 p2 p3 p4)), .val (.int (m0_3 p0 p1 p2 p3 p4)), .val (.int (p3 &&& (31 : Int32))), .val (.int (p4 &&& (31 : Int32))), .val (.ref b13), .val (.int (m0_5 p0 p1 p2 p3 p4)), .val (.int (m0_7 p0 p1 p2 p3 p4)), .unset]) rfl ?_
    show Steps p.tables e below (T19.setTop (mkF m 185 #[.val (.int p0), .val (.int p1), .val (.int p2), .val (.int p3), .val (.int p4), .val (.int (p0 &&& (1 : Int32))), .val (.int (m0_0 p0 p1 p2 p3 p4)), .val (.int (m0_1 p0 p1 p2 p3 p4)), .val (.ref b1), .val (.int (m0_2 p0 p1 p2 p3 p4)), .val (.int (m0_3 p0 p1 p2 p3 p4)), .val (.int (p3 &&& (31 : Int32))), .val (.int (p4 &&& (31 : Int32))), .val (.ref b13), .val (.int (m0_5 p0 p1 p2 p3 p4)), .val (.int (m0_7 p0 p1 p2 p3 p4)), .unset] [])) _
    refine XS.aload X19.here hx rfl (hb hby at_185) rfl rfl ?_
    show Steps p.tables e below (T19.setTop (mkF m 187 #[.val (.int p0), .val (.int p1), .val (.int p2), .val (.int p3), .val (.int p4), .val (.int (p0 &&& (1 : Int32))), .val (.int (m0_0 p0 p1 p2 p3 p4)), .val (.int (m0_1 p0 p1 p2 p3 p4)), .val (.ref b1), .val (.int (m0_2 p0 p1 p2 p3 p4)), .val (.int (m0_3 p0 p1 p2 p3 p4)), .val (.int (p3 &&& (31 : Int32))), .val (.int (p4 &&& (31 : Int32))), .val (.ref b13), .val (.int (m0_5 p0 p1 p2 p3 p4)), .val (.int (m0_7 p0 p1 p2 p3 p4)), .unset] [(.ref b13)])) _
    refine XS.iload X19.here hx rfl (hb hby at_187) rfl ?_
    show Steps p.tables e below (T19.setTop (mkF m 189 #[.val (.int p0), .val (.int p1), .val (.int p2), .val (.int p3), .val (.int p4), .val (.int (p0 &&& (1 : Int32))), .val (.int (m0_0 p0 p1 p2 p3 p4)), .val (.int (m0_1 p0 p1 p2 p3 p4)), .val (.ref b1), .val (.int (m0_2 p0 p1 p2 p3 p4)), .val (.int (m0_3 p0 p1 p2 p3 p4)), .val (.int (p3 &&& (31 : Int32))), .val (.int (p4 &&& (31 : Int32))), .val (.ref b13), .val (.int (m0_5 p0 p1 p2 p3 p4)), .val (.int (m0_7 p0 p1 p2 p3 p4)), .unset] [(.int (p4 &&& (31 : Int32))), (.ref b13)])) _
    refine st22.trans ?_
    show Steps p.tables e below (T22.setTop (mkF m 192 #[.val (.int p0), .val (.int p1), .val (.int p2), .val (.int p3), .val (.int p4), .val (.int (p0 &&& (1 : Int32))), .val (.int (m0_0 p0 p1 p2 p3 p4)), .val (.int (m0_1 p0 p1 p2 p3 p4)), .val (.ref b1), .val (.int (m0_2 p0 p1 p2 p3 p4)), .val (.int (m0_3 p0 p1 p2 p3 p4)), .val (.int (p3 &&& (31 : Int32))), .val (.int (p4 &&& (31 : Int32))), .val (.ref b13), .val (.int (m0_5 p0 p1 p2 p3 p4)), .val (.int (m0_7 p0 p1 p2 p3 p4)), .unset] [])) _
    refine XS.aload X22.here hx rfl (hb hby at_192) rfl rfl ?_
    show Steps p.tables e below (T22.setTop (mkF m 194 #[.val (.int p0), .val (.int p1), .val (.int p2), .val (.int p3), .val (.int p4), .val (.int (p0 &&& (1 : Int32))), .val (.int (m0_0 p0 p1 p2 p3 p4)), .val (.int (m0_1 p0 p1 p2 p3 p4)), .val (.ref b1), .val (.int (m0_2 p0 p1 p2 p3 p4)), .val (.int (m0_3 p0 p1 p2 p3 p4)), .val (.int (p3 &&& (31 : Int32))), .val (.int (p4 &&& (31 : Int32))), .val (.ref b13), .val (.int (m0_5 p0 p1 p2 p3 p4)), .val (.int (m0_7 p0 p1 p2 p3 p4)), .unset] [(.ref b13)])) _
    refine st23.trans ?_
    show Steps p.tables e below (T23.setTop (mkF m 197 #[.val (.int p0), .val (.int p1), .val (.int p2), .val (.int p3), .val (.int p4), .val (.int (p0 &&& (1 : Int32))), .val (.int (m0_0 p0 p1 p2 p3 p4)), .val (.int (m0_1 p0 p1 p2 p3 p4)), .val (.ref b1), .val (.int (m0_2 p0 p1 p2 p3 p4)), .val (.int (m0_3 p0 p1 p2 p3 p4)), .val (.int (p3 &&& (31 : Int32))), .val (.int (p4 &&& (31 : Int32))), .val (.ref b13), .val (.int (m0_5 p0 p1 p2 p3 p4)), .val (.int (m0_7 p0 p1 p2 p3 p4)), .unset] [(.int (f5 (((((((((m0_1 p0 p1 p2 p3 p4) - (p0 &&& (1 : Int32))).toInt64) * (8 : Int64)) - ((f4 ((((m0_2 p0 p1 p2 p3 p4).toInt8.toInt32).toInt8.toInt32) &&& (255 : Int32))).toInt64)) + (24 : Int64)) - (1 : Int64)) - ((p3 &&& (31 : Int32)).toInt64)) - ((p4 &&& (31 : Int32)).toInt64))))])) _
    refine XS.iload X23.here hx rfl (hb hby at_197) rfl ?_
    show Steps p.tables e below (T23.setTop (mkF m 199 #[.val (.int p0), .val (.int p1), .val (.int p2), .val (.int p3), .val (.int p4), .val (.int (p0 &&& (1 : Int32))), .val (.int (m0_0 p0 p1 p2 p3 p4)), .val (.int (m0_1 p0 p1 p2 p3 p4)), .val (.ref b1), .val (.int (m0_2 p0 p1 p2 p3 p4)), .val (.int (m0_3 p0 p1 p2 p3 p4)), .val (.int (p3 &&& (31 : Int32))), .val (.int (p4 &&& (31 : Int32))), .val (.ref b13), .val (.int (m0_5 p0 p1 p2 p3 p4)), .val (.int (m0_7 p0 p1 p2 p3 p4)), .unset] [(.int (p3 &&& (31 : Int32))), (.int (f5 (((((((((m0_1 p0 p1 p2 p3 p4) - (p0 &&& (1 : Int32))).toInt64) * (8 : Int64)) - ((f4 ((((m0_2 p0 p1 p2 p3 p4).toInt8.toInt32).toInt8.toInt32) &&& (255 : Int32))).toInt64)) + (24 : Int64)) - (1 : Int64)) - ((p3 &&& (31 : Int32)).toInt64)) - ((p4 &&& (31 : Int32)).toInt64))))])) _
    refine XS.iload X23.here hx rfl (hb hby at_199) rfl ?_
    show Steps p.tables e below (T23.setTop (mkF m 201 #[.val (.int p0), .val (.int p1), .val (.int p2), .val (.int p3), .val (.int p4), .val (.int (p0 &&& (1 : Int32))), .val (.int (m0_0 p0 p1 p2 p3 p4)), .val (.int (m0_1 p0 p1 p2 p3 p4)), .val (.ref b1), .val (.int (m0_2 p0 p1 p2 p3 p4)), .val (.int (m0_3 p0 p1 p2 p3 p4)), .val (.int (p3 &&& (31 : Int32))), .val (.int (p4 &&& (31 : Int32))), .val (.ref b13), .val (.int (m0_5 p0 p1 p2 p3 p4)), .val (.int (m0_7 p0 p1 p2 p3 p4)), .unset] [(.int (p4 &&& (31 : Int32))), (.int (p3 &&& (31 : Int32))), (.int (f5 (((((((((m0_1 p0 p1 p2 p3 p4) - (p0 &&& (1 : Int32))).toInt64) * (8 : Int64)) - ((f4 ((((m0_2 p0 p1 p2 p3 p4).toInt8.toInt32).toInt8.toInt32) &&& (255 : Int32))).toInt64)) + (24 : Int64)) - (1 : Int64)) - ((p3 &&& (31 : Int32)).toInt64)) - ((p4 &&& (31 : Int32)).toInt64))))])) _
    refine XS.iadd X23.here hx rfl (hb hby at_201) rfl ?_
    show Steps p.tables e below (T23.setTop (mkF m 202 #[.val (.int p0), .val (.int p1), .val (.int p2), .val (.int p3), .val (.int p4), .val (.int (p0 &&& (1 : Int32))), .val (.int (m0_0 p0 p1 p2 p3 p4)), .val (.int (m0_1 p0 p1 p2 p3 p4)), .val (.ref b1), .val (.int (m0_2 p0 p1 p2 p3 p4)), .val (.int (m0_3 p0 p1 p2 p3 p4)), .val (.int (p3 &&& (31 : Int32))), .val (.int (p4 &&& (31 : Int32))), .val (.ref b13), .val (.int (m0_5 p0 p1 p2 p3 p4)), .val (.int (m0_7 p0 p1 p2 p3 p4)), .unset] [(.int ((p3 &&& (31 : Int32)) + (p4 &&& (31 : Int32)))), (.int (f5 (((((((((m0_1 p0 p1 p2 p3 p4) - (p0 &&& (1 : Int32))).toInt64) * (8 : Int64)) - ((f4 ((((m0_2 p0 p1 p2 p3 p4).toInt8.toInt32).toInt8.toInt32) &&& (255 : Int32))).toInt64)) + (24 : Int64)) - (1 : Int64)) - ((p3 &&& (31 : Int32)).toInt64)) - ((p4 &&& (31 : Int32)).toInt64))))])) _
    refine XS.iload X23.here hx rfl (hb hby at_202) rfl ?_
    exact kt
  refine own_back (b := T23.setTop (mkF m 212 #[.val (.int p0), .val (.int p1), .val (.int p2), .val (.int p3), .val (.int p4), .val (.int (p0 &&& (1 : Int32))), .val (.int (m0_0 p0 p1 p2 p3 p4)), .val (.int (m0_1 p0 p1 p2 p3 p4)), .val (.ref b1), .val (.int (m0_2 p0 p1 p2 p3 p4)), .val (.int (m0_3 p0 p1 p2 p3 p4)), .val (.int (p3 &&& (31 : Int32))), .val (.int (p4 &&& (31 : Int32))), .val (.ref b13), .val (.int (m0_5 p0 p1 p2 p3 p4)), .val (.int (m0_7 p0 p1 p2 p3 p4)), .unset] [(.int (m0_8 p0 p1 p2 p3 p4)), (.int (f5 (((((((((m0_1 p0 p1 p2 p3 p4) - (p0 &&& (1 : Int32))).toInt64) * (8 : Int64)) - ((f4 ((((m0_2 p0 p1 p2 p3 p4).toInt8.toInt32).toInt8.toInt32) &&& (255 : Int32))).toInt64)) + (24 : Int64)) - (1 : Int64)) - ((p3 &&& (31 : Int32)).toInt64)) - ((p4 &&& (31 : Int32)).toInt64))))])) (fun t kt => ?_) ?_
  · by_cases hm204_24 : ((p3 &&& (31 : Int32)) + (p4 &&& (31 : Int32))) = (m0_3 p0 p1 p2 p3 p4)
    · rw [show (m0_8 p0 p1 p2 p3 p4) = (1 : Int32) from by unfold m0_8; rw [if_pos hm204_24]] at kt
      show Steps p.tables e below (T23.setTop (mkF m 204 #[.val (.int p0), .val (.int p1), .val (.int p2), .val (.int p3), .val (.int p4), .val (.int (p0 &&& (1 : Int32))), .val (.int (m0_0 p0 p1 p2 p3 p4)), .val (.int (m0_1 p0 p1 p2 p3 p4)), .val (.ref b1), .val (.int (m0_2 p0 p1 p2 p3 p4)), .val (.int (m0_3 p0 p1 p2 p3 p4)), .val (.int (p3 &&& (31 : Int32))), .val (.int (p4 &&& (31 : Int32))), .val (.ref b13), .val (.int (m0_5 p0 p1 p2 p3 p4)), .val (.int (m0_7 p0 p1 p2 p3 p4)), .unset] [(.int (m0_3 p0 p1 p2 p3 p4)), (.int ((p3 &&& (31 : Int32)) + (p4 &&& (31 : Int32)))), (.int (f5 (((((((((m0_1 p0 p1 p2 p3 p4) - (p0 &&& (1 : Int32))).toInt64) * (8 : Int64)) - ((f4 ((((m0_2 p0 p1 p2 p3 p4).toInt8.toInt32).toInt8.toInt32) &&& (255 : Int32))).toInt64)) + (24 : Int64)) - (1 : Int64)) - ((p3 &&& (31 : Int32)).toInt64)) - ((p4 &&& (31 : Int32)).toInt64))))])) _
      refine XS.icmpNo X23.here hx rfl (hb hby at_204) rfl (teq hm204_24).2 ?_
      show Steps p.tables e below (T23.setTop (mkF m 207 #[.val (.int p0), .val (.int p1), .val (.int p2), .val (.int p3), .val (.int p4), .val (.int (p0 &&& (1 : Int32))), .val (.int (m0_0 p0 p1 p2 p3 p4)), .val (.int (m0_1 p0 p1 p2 p3 p4)), .val (.ref b1), .val (.int (m0_2 p0 p1 p2 p3 p4)), .val (.int (m0_3 p0 p1 p2 p3 p4)), .val (.int (p3 &&& (31 : Int32))), .val (.int (p4 &&& (31 : Int32))), .val (.ref b13), .val (.int (m0_5 p0 p1 p2 p3 p4)), .val (.int (m0_7 p0 p1 p2 p3 p4)), .unset] [(.int (f5 (((((((((m0_1 p0 p1 p2 p3 p4) - (p0 &&& (1 : Int32))).toInt64) * (8 : Int64)) - ((f4 ((((m0_2 p0 p1 p2 p3 p4).toInt8.toInt32).toInt8.toInt32) &&& (255 : Int32))).toInt64)) + (24 : Int64)) - (1 : Int64)) - ((p3 &&& (31 : Int32)).toInt64)) - ((p4 &&& (31 : Int32)).toInt64))))])) _
      refine XS.iconst X23.here hx rfl (hb hby at_207) ?_
      show Steps p.tables e below (T23.setTop (mkF m 208 #[.val (.int p0), .val (.int p1), .val (.int p2), .val (.int p3), .val (.int p4), .val (.int (p0 &&& (1 : Int32))), .val (.int (m0_0 p0 p1 p2 p3 p4)), .val (.int (m0_1 p0 p1 p2 p3 p4)), .val (.ref b1), .val (.int (m0_2 p0 p1 p2 p3 p4)), .val (.int (m0_3 p0 p1 p2 p3 p4)), .val (.int (p3 &&& (31 : Int32))), .val (.int (p4 &&& (31 : Int32))), .val (.ref b13), .val (.int (m0_5 p0 p1 p2 p3 p4)), .val (.int (m0_7 p0 p1 p2 p3 p4)), .unset] [(.int (1 : Int32)), (.int (f5 (((((((((m0_1 p0 p1 p2 p3 p4) - (p0 &&& (1 : Int32))).toInt64) * (8 : Int64)) - ((f4 ((((m0_2 p0 p1 p2 p3 p4).toInt8.toInt32).toInt8.toInt32) &&& (255 : Int32))).toInt64)) + (24 : Int64)) - (1 : Int64)) - ((p3 &&& (31 : Int32)).toInt64)) - ((p4 &&& (31 : Int32)).toInt64))))])) _
      refine XS.goto X23.here hx rfl (pc0 := 208) (pc' := 212) rfl (hb hby at_208) (by decide) (by decide) ?_
      exact kt
    · rw [show (m0_8 p0 p1 p2 p3 p4) = (0 : Int32) from by unfold m0_8; rw [if_neg hm204_24]] at kt
      show Steps p.tables e below (T23.setTop (mkF m 204 #[.val (.int p0), .val (.int p1), .val (.int p2), .val (.int p3), .val (.int p4), .val (.int (p0 &&& (1 : Int32))), .val (.int (m0_0 p0 p1 p2 p3 p4)), .val (.int (m0_1 p0 p1 p2 p3 p4)), .val (.ref b1), .val (.int (m0_2 p0 p1 p2 p3 p4)), .val (.int (m0_3 p0 p1 p2 p3 p4)), .val (.int (p3 &&& (31 : Int32))), .val (.int (p4 &&& (31 : Int32))), .val (.ref b13), .val (.int (m0_5 p0 p1 p2 p3 p4)), .val (.int (m0_7 p0 p1 p2 p3 p4)), .unset] [(.int (m0_3 p0 p1 p2 p3 p4)), (.int ((p3 &&& (31 : Int32)) + (p4 &&& (31 : Int32)))), (.int (f5 (((((((((m0_1 p0 p1 p2 p3 p4) - (p0 &&& (1 : Int32))).toInt64) * (8 : Int64)) - ((f4 ((((m0_2 p0 p1 p2 p3 p4).toInt8.toInt32).toInt8.toInt32) &&& (255 : Int32))).toInt64)) + (24 : Int64)) - (1 : Int64)) - ((p3 &&& (31 : Int32)).toInt64)) - ((p4 &&& (31 : Int32)).toInt64))))])) _
      refine XS.icmpYes X23.here hx rfl (pc0 := 204) (pc' := 211) rfl (hb hby at_204) rfl (feq hm204_24).2 (by decide) (by decide) ?_
      show Steps p.tables e below (T23.setTop (mkF m 211 #[.val (.int p0), .val (.int p1), .val (.int p2), .val (.int p3), .val (.int p4), .val (.int (p0 &&& (1 : Int32))), .val (.int (m0_0 p0 p1 p2 p3 p4)), .val (.int (m0_1 p0 p1 p2 p3 p4)), .val (.ref b1), .val (.int (m0_2 p0 p1 p2 p3 p4)), .val (.int (m0_3 p0 p1 p2 p3 p4)), .val (.int (p3 &&& (31 : Int32))), .val (.int (p4 &&& (31 : Int32))), .val (.ref b13), .val (.int (m0_5 p0 p1 p2 p3 p4)), .val (.int (m0_7 p0 p1 p2 p3 p4)), .unset] [(.int (f5 (((((((((m0_1 p0 p1 p2 p3 p4) - (p0 &&& (1 : Int32))).toInt64) * (8 : Int64)) - ((f4 ((((m0_2 p0 p1 p2 p3 p4).toInt8.toInt32).toInt8.toInt32) &&& (255 : Int32))).toInt64)) + (24 : Int64)) - (1 : Int64)) - ((p3 &&& (31 : Int32)).toInt64)) - ((p4 &&& (31 : Int32)).toInt64))))])) _
      refine XS.iconst X23.here hx rfl (hb hby at_211) ?_
      exact kt
  refine own_back (b := T23.setTop (mkF m 220 #[.val (.int p0), .val (.int p1), .val (.int p2), .val (.int p3), .val (.int p4), .val (.int (p0 &&& (1 : Int32))), .val (.int (m0_0 p0 p1 p2 p3 p4)), .val (.int (m0_1 p0 p1 p2 p3 p4)), .val (.ref b1), .val (.int (m0_2 p0 p1 p2 p3 p4)), .val (.int (m0_3 p0 p1 p2 p3 p4)), .val (.int (p3 &&& (31 : Int32))), .val (.int (p4 &&& (31 : Int32))), .val (.ref b13), .val (.int (m0_5 p0 p1 p2 p3 p4)), .val (.int (m0_7 p0 p1 p2 p3 p4)), .unset] [(.int (m0_9 p0 p1 p2 p3 p4))])) (fun t kt => ?_) ?_
  · by_cases hm212_25 : (f5 (((((((((m0_1 p0 p1 p2 p3 p4) - (p0 &&& (1 : Int32))).toInt64) * (8 : Int64)) - ((f4 ((((m0_2 p0 p1 p2 p3 p4).toInt8.toInt32).toInt8.toInt32) &&& (255 : Int32))).toInt64)) + (24 : Int64)) - (1 : Int64)) - ((p3 &&& (31 : Int32)).toInt64)) - ((p4 &&& (31 : Int32)).toInt64))) = (m0_8 p0 p1 p2 p3 p4)
    · rw [show (m0_9 p0 p1 p2 p3 p4) = (1 : Int32) from by unfold m0_9; rw [if_pos hm212_25]] at kt
      show Steps p.tables e below (T23.setTop (mkF m 212 #[.val (.int p0), .val (.int p1), .val (.int p2), .val (.int p3), .val (.int p4), .val (.int (p0 &&& (1 : Int32))), .val (.int (m0_0 p0 p1 p2 p3 p4)), .val (.int (m0_1 p0 p1 p2 p3 p4)), .val (.ref b1), .val (.int (m0_2 p0 p1 p2 p3 p4)), .val (.int (m0_3 p0 p1 p2 p3 p4)), .val (.int (p3 &&& (31 : Int32))), .val (.int (p4 &&& (31 : Int32))), .val (.ref b13), .val (.int (m0_5 p0 p1 p2 p3 p4)), .val (.int (m0_7 p0 p1 p2 p3 p4)), .unset] [(.int (m0_8 p0 p1 p2 p3 p4)), (.int (f5 (((((((((m0_1 p0 p1 p2 p3 p4) - (p0 &&& (1 : Int32))).toInt64) * (8 : Int64)) - ((f4 ((((m0_2 p0 p1 p2 p3 p4).toInt8.toInt32).toInt8.toInt32) &&& (255 : Int32))).toInt64)) + (24 : Int64)) - (1 : Int64)) - ((p3 &&& (31 : Int32)).toInt64)) - ((p4 &&& (31 : Int32)).toInt64))))])) _
      refine XS.icmpNo X23.here hx rfl (hb hby at_212) rfl (teq hm212_25).2 ?_
      show Steps p.tables e below (T23.setTop (mkF m 215 #[.val (.int p0), .val (.int p1), .val (.int p2), .val (.int p3), .val (.int p4), .val (.int (p0 &&& (1 : Int32))), .val (.int (m0_0 p0 p1 p2 p3 p4)), .val (.int (m0_1 p0 p1 p2 p3 p4)), .val (.ref b1), .val (.int (m0_2 p0 p1 p2 p3 p4)), .val (.int (m0_3 p0 p1 p2 p3 p4)), .val (.int (p3 &&& (31 : Int32))), .val (.int (p4 &&& (31 : Int32))), .val (.ref b13), .val (.int (m0_5 p0 p1 p2 p3 p4)), .val (.int (m0_7 p0 p1 p2 p3 p4)), .unset] [])) _
      refine XS.iconst X23.here hx rfl (hb hby at_215) ?_
      show Steps p.tables e below (T23.setTop (mkF m 216 #[.val (.int p0), .val (.int p1), .val (.int p2), .val (.int p3), .val (.int p4), .val (.int (p0 &&& (1 : Int32))), .val (.int (m0_0 p0 p1 p2 p3 p4)), .val (.int (m0_1 p0 p1 p2 p3 p4)), .val (.ref b1), .val (.int (m0_2 p0 p1 p2 p3 p4)), .val (.int (m0_3 p0 p1 p2 p3 p4)), .val (.int (p3 &&& (31 : Int32))), .val (.int (p4 &&& (31 : Int32))), .val (.ref b13), .val (.int (m0_5 p0 p1 p2 p3 p4)), .val (.int (m0_7 p0 p1 p2 p3 p4)), .unset] [(.int (1 : Int32))])) _
      refine XS.goto X23.here hx rfl (pc0 := 216) (pc' := 220) rfl (hb hby at_216) (by decide) (by decide) ?_
      exact kt
    · rw [show (m0_9 p0 p1 p2 p3 p4) = (0 : Int32) from by unfold m0_9; rw [if_neg hm212_25]] at kt
      show Steps p.tables e below (T23.setTop (mkF m 212 #[.val (.int p0), .val (.int p1), .val (.int p2), .val (.int p3), .val (.int p4), .val (.int (p0 &&& (1 : Int32))), .val (.int (m0_0 p0 p1 p2 p3 p4)), .val (.int (m0_1 p0 p1 p2 p3 p4)), .val (.ref b1), .val (.int (m0_2 p0 p1 p2 p3 p4)), .val (.int (m0_3 p0 p1 p2 p3 p4)), .val (.int (p3 &&& (31 : Int32))), .val (.int (p4 &&& (31 : Int32))), .val (.ref b13), .val (.int (m0_5 p0 p1 p2 p3 p4)), .val (.int (m0_7 p0 p1 p2 p3 p4)), .unset] [(.int (m0_8 p0 p1 p2 p3 p4)), (.int (f5 (((((((((m0_1 p0 p1 p2 p3 p4) - (p0 &&& (1 : Int32))).toInt64) * (8 : Int64)) - ((f4 ((((m0_2 p0 p1 p2 p3 p4).toInt8.toInt32).toInt8.toInt32) &&& (255 : Int32))).toInt64)) + (24 : Int64)) - (1 : Int64)) - ((p3 &&& (31 : Int32)).toInt64)) - ((p4 &&& (31 : Int32)).toInt64))))])) _
      refine XS.icmpYes X23.here hx rfl (pc0 := 212) (pc' := 219) rfl (hb hby at_212) rfl (feq hm212_25).2 (by decide) (by decide) ?_
      show Steps p.tables e below (T23.setTop (mkF m 219 #[.val (.int p0), .val (.int p1), .val (.int p2), .val (.int p3), .val (.int p4), .val (.int (p0 &&& (1 : Int32))), .val (.int (m0_0 p0 p1 p2 p3 p4)), .val (.int (m0_1 p0 p1 p2 p3 p4)), .val (.ref b1), .val (.int (m0_2 p0 p1 p2 p3 p4)), .val (.int (m0_3 p0 p1 p2 p3 p4)), .val (.int (p3 &&& (31 : Int32))), .val (.int (p4 &&& (31 : Int32))), .val (.ref b13), .val (.int (m0_5 p0 p1 p2 p3 p4)), .val (.int (m0_7 p0 p1 p2 p3 p4)), .unset] [])) _
      refine XS.iconst X23.here hx rfl (hb hby at_219) ?_
      exact kt
  refine own_back (b := T23.setTop (mkF m 224 #[.val (.int p0), .val (.int p1), .val (.int p2), .val (.int p3), .val (.int p4), .val (.int (p0 &&& (1 : Int32))), .val (.int (m0_0 p0 p1 p2 p3 p4)), .val (.int (m0_1 p0 p1 p2 p3 p4)), .val (.ref b1), .val (.int (m0_2 p0 p1 p2 p3 p4)), .val (.int (m0_3 p0 p1 p2 p3 p4)), .val (.int (p3 &&& (31 : Int32))), .val (.int (p4 &&& (31 : Int32))), .val (.ref b13), .val (.int (m0_5 p0 p1 p2 p3 p4)), .val (.int (m0_7 p0 p1 p2 p3 p4)), .val (.int (m0_9 p0 p1 p2 p3 p4))] [(.int (m0_5 p0 p1 p2 p3 p4))])) (fun t kt => ?_) ?_
  · show Steps p.tables e below (T23.setTop (mkF m 220 #[.val (.int p0), .val (.int p1), .val (.int p2), .val (.int p3), .val (.int p4), .val (.int (p0 &&& (1 : Int32))), .val (.int (m0_0 p0 p1 p2 p3 p4)), .val (.int (m0_1 p0 p1 p2 p3 p4)), .val (.ref b1), .val (.int (m0_2 p0 p1 p2 p3 p4)), .val (.int (m0_3 p0 p1 p2 p3 p4)), .val (.int (p3 &&& (31 : Int32))), .val (.int (p4 &&& (31 : Int32))), .val (.ref b13), .val (.int (m0_5 p0 p1 p2 p3 p4)), .val (.int (m0_7 p0 p1 p2 p3 p4)), .unset] [(.int (m0_9 p0 p1 p2 p3 p4))])) _
    refine XS.istore X23.here hx rfl (hb hby at_220) rfl (l' := #[.val (.int p0), .val (.int p1), .val (.int p2), .val (.int p3), .val (.int p4), .val (.int (p0 &&& (1 : Int32))), .val (.int (m0_0 p0 p1 p2 p3 p4)), .val (.int (m0_1 p0 p1 p2 p3 p4)), .val (.ref b1), .val (.int (m0_2 p0 p1 p2 p3 p4)), .val (.int (m0_3 p0 p1 p2 p3 p4)), .val (.int (p3 &&& (31 : Int32))), .val (.int (p4 &&& (31 : Int32))), .val (.ref b13), .val (.int (m0_5 p0 p1 p2 p3 p4)), .val (.int (m0_7 p0 p1 p2 p3 p4)), .val (.int (m0_9 p0 p1 p2 p3 p4))]) rfl ?_
    show Steps p.tables e below (T23.setTop (mkF m 222 #[.val (.int p0), .val (.int p1), .val (.int p2), .val (.int p3), .val (.int p4), .val (.int (p0 &&& (1 : Int32))), .val (.int (m0_0 p0 p1 p2 p3 p4)), .val (.int (m0_1 p0 p1 p2 p3 p4)), .val (.ref b1), .val (.int (m0_2 p0 p1 p2 p3 p4)), .val (.int (m0_3 p0 p1 p2 p3 p4)), .val (.int (p3 &&& (31 : Int32))), .val (.int (p4 &&& (31 : Int32))), .val (.ref b13), .val (.int (m0_5 p0 p1 p2 p3 p4)), .val (.int (m0_7 p0 p1 p2 p3 p4)), .val (.int (m0_9 p0 p1 p2 p3 p4))] [])) _
    refine XS.iload X23.here hx rfl (hb hby at_222) rfl ?_
    exact kt
  by_cases hc224_26 : (m0_5 p0 p1 p2 p3 p4) = (0 : Int32)
  · refine own_back (b := T23.setTop (mkF m 242 #[.val (.int p0), .val (.int p1), .val (.int p2), .val (.int p3), .val (.int p4), .val (.int (p0 &&& (1 : Int32))), .val (.int (m0_0 p0 p1 p2 p3 p4)), .val (.int (m0_1 p0 p1 p2 p3 p4)), .val (.ref b1), .val (.int (m0_2 p0 p1 p2 p3 p4)), .val (.int (m0_3 p0 p1 p2 p3 p4)), .val (.int (p3 &&& (31 : Int32))), .val (.int (p4 &&& (31 : Int32))), .val (.ref b13), .val (.int (m0_5 p0 p1 p2 p3 p4)), .val (.int (m0_7 p0 p1 p2 p3 p4)), .val (.int (m0_9 p0 p1 p2 p3 p4))] [(.int (0 : Int32))])) (fun t kt => ?_) ?_
    · show Steps p.tables e below (T23.setTop (mkF m 224 #[.val (.int p0), .val (.int p1), .val (.int p2), .val (.int p3), .val (.int p4), .val (.int (p0 &&& (1 : Int32))), .val (.int (m0_0 p0 p1 p2 p3 p4)), .val (.int (m0_1 p0 p1 p2 p3 p4)), .val (.ref b1), .val (.int (m0_2 p0 p1 p2 p3 p4)), .val (.int (m0_3 p0 p1 p2 p3 p4)), .val (.int (p3 &&& (31 : Int32))), .val (.int (p4 &&& (31 : Int32))), .val (.ref b13), .val (.int (m0_5 p0 p1 p2 p3 p4)), .val (.int (m0_7 p0 p1 p2 p3 p4)), .val (.int (m0_9 p0 p1 p2 p3 p4))] [(.int (m0_5 p0 p1 p2 p3 p4))])) _
      refine XS.ifYes X23.here hx rfl (pc0 := 224) (pc' := 241) rfl (hb hby at_224) rfl ((if0 _ _).trans (teq hc224_26).1) (by decide) (by decide) ?_
      show Steps p.tables e below (T23.setTop (mkF m 241 #[.val (.int p0), .val (.int p1), .val (.int p2), .val (.int p3), .val (.int p4), .val (.int (p0 &&& (1 : Int32))), .val (.int (m0_0 p0 p1 p2 p3 p4)), .val (.int (m0_1 p0 p1 p2 p3 p4)), .val (.ref b1), .val (.int (m0_2 p0 p1 p2 p3 p4)), .val (.int (m0_3 p0 p1 p2 p3 p4)), .val (.int (p3 &&& (31 : Int32))), .val (.int (p4 &&& (31 : Int32))), .val (.ref b13), .val (.int (m0_5 p0 p1 p2 p3 p4)), .val (.int (m0_7 p0 p1 p2 p3 p4)), .val (.int (m0_9 p0 p1 p2 p3 p4))] [])) _
      refine XS.iconst X23.here hx rfl (hb hby at_241) ?_
      exact kt
    obtain ⟨fs, hr, hrun, hended, hW, hsame⟩ := X23.leave (v := some (.int (0 : Int32))) (fun h => by rw [Bd.returns] at h; cases h) (BodyLoose.notSynchronized Bd)
    refine ⟨_, _, ?_, hrun, hended, _, _, rfl, ?_, ⟨_, rfl⟩, hW, hsame.mono (by decide) (by decide)⟩
    · show Steps p.tables e below (T23.setTop (mkF m 242 #[.val (.int p0), .val (.int p1), .val (.int p2), .val (.int p3), .val (.int p4), .val (.int (p0 &&& (1 : Int32))), .val (.int (m0_0 p0 p1 p2 p3 p4)), .val (.int (m0_1 p0 p1 p2 p3 p4)), .val (.ref b1), .val (.int (m0_2 p0 p1 p2 p3 p4)), .val (.int (m0_3 p0 p1 p2 p3 p4)), .val (.int (p3 &&& (31 : Int32))), .val (.int (p4 &&& (31 : Int32))), .val (.ref b13), .val (.int (m0_5 p0 p1 p2 p3 p4)), .val (.int (m0_7 p0 p1 p2 p3 p4)), .val (.int (m0_9 p0 p1 p2 p3 p4))] [(.int (0 : Int32))])) _
      exact retN X23 hx (t := .boolean) Bd.returns (by simp) (hb hby at_242) hr
    · show Q0 Z p0 p1 p2 p3 p4 h0 n0 _ T23.heap _
      rw [e23]
      exact ⟨by rw [show f0 p0 p1 p2 p3 p4 = (0 : Int32) from by unfold f0; rw [if_pos hc224_26]], N23⟩
  · refine own_back (b := T23.setTop (mkF m 229 #[.val (.int p0), .val (.int p1), .val (.int p2), .val (.int p3), .val (.int p4), .val (.int (p0 &&& (1 : Int32))), .val (.int (m0_0 p0 p1 p2 p3 p4)), .val (.int (m0_1 p0 p1 p2 p3 p4)), .val (.ref b1), .val (.int (m0_2 p0 p1 p2 p3 p4)), .val (.int (m0_3 p0 p1 p2 p3 p4)), .val (.int (p3 &&& (31 : Int32))), .val (.int (p4 &&& (31 : Int32))), .val (.ref b13), .val (.int (m0_5 p0 p1 p2 p3 p4)), .val (.int (m0_7 p0 p1 p2 p3 p4)), .val (.int (m0_9 p0 p1 p2 p3 p4))] [(.int (m0_7 p0 p1 p2 p3 p4))])) (fun t kt => ?_) ?_
    · show Steps p.tables e below (T23.setTop (mkF m 224 #[.val (.int p0), .val (.int p1), .val (.int p2), .val (.int p3), .val (.int p4), .val (.int (p0 &&& (1 : Int32))), .val (.int (m0_0 p0 p1 p2 p3 p4)), .val (.int (m0_1 p0 p1 p2 p3 p4)), .val (.ref b1), .val (.int (m0_2 p0 p1 p2 p3 p4)), .val (.int (m0_3 p0 p1 p2 p3 p4)), .val (.int (p3 &&& (31 : Int32))), .val (.int (p4 &&& (31 : Int32))), .val (.ref b13), .val (.int (m0_5 p0 p1 p2 p3 p4)), .val (.int (m0_7 p0 p1 p2 p3 p4)), .val (.int (m0_9 p0 p1 p2 p3 p4))] [(.int (m0_5 p0 p1 p2 p3 p4))])) _
      refine XS.ifNo X23.here hx rfl (hb hby at_224) rfl ((if0 _ _).trans (feq hc224_26).1) ?_
      show Steps p.tables e below (T23.setTop (mkF m 227 #[.val (.int p0), .val (.int p1), .val (.int p2), .val (.int p3), .val (.int p4), .val (.int (p0 &&& (1 : Int32))), .val (.int (m0_0 p0 p1 p2 p3 p4)), .val (.int (m0_1 p0 p1 p2 p3 p4)), .val (.ref b1), .val (.int (m0_2 p0 p1 p2 p3 p4)), .val (.int (m0_3 p0 p1 p2 p3 p4)), .val (.int (p3 &&& (31 : Int32))), .val (.int (p4 &&& (31 : Int32))), .val (.ref b13), .val (.int (m0_5 p0 p1 p2 p3 p4)), .val (.int (m0_7 p0 p1 p2 p3 p4)), .val (.int (m0_9 p0 p1 p2 p3 p4))] [])) _
      refine XS.iload X23.here hx rfl (hb hby at_227) rfl ?_
      exact kt
    by_cases hc229_27 : (m0_7 p0 p1 p2 p3 p4) = (0 : Int32)
    · refine own_back (b := T23.setTop (mkF m 242 #[.val (.int p0), .val (.int p1), .val (.int p2), .val (.int p3), .val (.int p4), .val (.int (p0 &&& (1 : Int32))), .val (.int (m0_0 p0 p1 p2 p3 p4)), .val (.int (m0_1 p0 p1 p2 p3 p4)), .val (.ref b1), .val (.int (m0_2 p0 p1 p2 p3 p4)), .val (.int (m0_3 p0 p1 p2 p3 p4)), .val (.int (p3 &&& (31 : Int32))), .val (.int (p4 &&& (31 : Int32))), .val (.ref b13), .val (.int (m0_5 p0 p1 p2 p3 p4)), .val (.int (m0_7 p0 p1 p2 p3 p4)), .val (.int (m0_9 p0 p1 p2 p3 p4))] [(.int (0 : Int32))])) (fun t kt => ?_) ?_
      · show Steps p.tables e below (T23.setTop (mkF m 229 #[.val (.int p0), .val (.int p1), .val (.int p2), .val (.int p3), .val (.int p4), .val (.int (p0 &&& (1 : Int32))), .val (.int (m0_0 p0 p1 p2 p3 p4)), .val (.int (m0_1 p0 p1 p2 p3 p4)), .val (.ref b1), .val (.int (m0_2 p0 p1 p2 p3 p4)), .val (.int (m0_3 p0 p1 p2 p3 p4)), .val (.int (p3 &&& (31 : Int32))), .val (.int (p4 &&& (31 : Int32))), .val (.ref b13), .val (.int (m0_5 p0 p1 p2 p3 p4)), .val (.int (m0_7 p0 p1 p2 p3 p4)), .val (.int (m0_9 p0 p1 p2 p3 p4))] [(.int (m0_7 p0 p1 p2 p3 p4))])) _
        refine XS.ifYes X23.here hx rfl (pc0 := 229) (pc' := 241) rfl (hb hby at_229) rfl ((if0 _ _).trans (teq hc229_27).1) (by decide) (by decide) ?_
        show Steps p.tables e below (T23.setTop (mkF m 241 #[.val (.int p0), .val (.int p1), .val (.int p2), .val (.int p3), .val (.int p4), .val (.int (p0 &&& (1 : Int32))), .val (.int (m0_0 p0 p1 p2 p3 p4)), .val (.int (m0_1 p0 p1 p2 p3 p4)), .val (.ref b1), .val (.int (m0_2 p0 p1 p2 p3 p4)), .val (.int (m0_3 p0 p1 p2 p3 p4)), .val (.int (p3 &&& (31 : Int32))), .val (.int (p4 &&& (31 : Int32))), .val (.ref b13), .val (.int (m0_5 p0 p1 p2 p3 p4)), .val (.int (m0_7 p0 p1 p2 p3 p4)), .val (.int (m0_9 p0 p1 p2 p3 p4))] [])) _
        refine XS.iconst X23.here hx rfl (hb hby at_241) ?_
        exact kt
      obtain ⟨fs, hr, hrun, hended, hW, hsame⟩ := X23.leave (v := some (.int (0 : Int32))) (fun h => by rw [Bd.returns] at h; cases h) (BodyLoose.notSynchronized Bd)
      refine ⟨_, _, ?_, hrun, hended, _, _, rfl, ?_, ⟨_, rfl⟩, hW, hsame.mono (by decide) (by decide)⟩
      · show Steps p.tables e below (T23.setTop (mkF m 242 #[.val (.int p0), .val (.int p1), .val (.int p2), .val (.int p3), .val (.int p4), .val (.int (p0 &&& (1 : Int32))), .val (.int (m0_0 p0 p1 p2 p3 p4)), .val (.int (m0_1 p0 p1 p2 p3 p4)), .val (.ref b1), .val (.int (m0_2 p0 p1 p2 p3 p4)), .val (.int (m0_3 p0 p1 p2 p3 p4)), .val (.int (p3 &&& (31 : Int32))), .val (.int (p4 &&& (31 : Int32))), .val (.ref b13), .val (.int (m0_5 p0 p1 p2 p3 p4)), .val (.int (m0_7 p0 p1 p2 p3 p4)), .val (.int (m0_9 p0 p1 p2 p3 p4))] [(.int (0 : Int32))])) _
        exact retN X23 hx (t := .boolean) Bd.returns (by simp) (hb hby at_242) hr
      · show Q0 Z p0 p1 p2 p3 p4 h0 n0 _ T23.heap _
        rw [e23]
        exact ⟨by rw [show f0 p0 p1 p2 p3 p4 = (0 : Int32) from by unfold f0; rw [if_neg hc224_26, if_pos hc229_27]], N23⟩
    · refine own_back (b := T23.setTop (mkF m 234 #[.val (.int p0), .val (.int p1), .val (.int p2), .val (.int p3), .val (.int p4), .val (.int (p0 &&& (1 : Int32))), .val (.int (m0_0 p0 p1 p2 p3 p4)), .val (.int (m0_1 p0 p1 p2 p3 p4)), .val (.ref b1), .val (.int (m0_2 p0 p1 p2 p3 p4)), .val (.int (m0_3 p0 p1 p2 p3 p4)), .val (.int (p3 &&& (31 : Int32))), .val (.int (p4 &&& (31 : Int32))), .val (.ref b13), .val (.int (m0_5 p0 p1 p2 p3 p4)), .val (.int (m0_7 p0 p1 p2 p3 p4)), .val (.int (m0_9 p0 p1 p2 p3 p4))] [(.int (m0_9 p0 p1 p2 p3 p4))])) (fun t kt => ?_) ?_
      · show Steps p.tables e below (T23.setTop (mkF m 229 #[.val (.int p0), .val (.int p1), .val (.int p2), .val (.int p3), .val (.int p4), .val (.int (p0 &&& (1 : Int32))), .val (.int (m0_0 p0 p1 p2 p3 p4)), .val (.int (m0_1 p0 p1 p2 p3 p4)), .val (.ref b1), .val (.int (m0_2 p0 p1 p2 p3 p4)), .val (.int (m0_3 p0 p1 p2 p3 p4)), .val (.int (p3 &&& (31 : Int32))), .val (.int (p4 &&& (31 : Int32))), .val (.ref b13), .val (.int (m0_5 p0 p1 p2 p3 p4)), .val (.int (m0_7 p0 p1 p2 p3 p4)), .val (.int (m0_9 p0 p1 p2 p3 p4))] [(.int (m0_7 p0 p1 p2 p3 p4))])) _
        refine XS.ifNo X23.here hx rfl (hb hby at_229) rfl ((if0 _ _).trans (feq hc229_27).1) ?_
        show Steps p.tables e below (T23.setTop (mkF m 232 #[.val (.int p0), .val (.int p1), .val (.int p2), .val (.int p3), .val (.int p4), .val (.int (p0 &&& (1 : Int32))), .val (.int (m0_0 p0 p1 p2 p3 p4)), .val (.int (m0_1 p0 p1 p2 p3 p4)), .val (.ref b1), .val (.int (m0_2 p0 p1 p2 p3 p4)), .val (.int (m0_3 p0 p1 p2 p3 p4)), .val (.int (p3 &&& (31 : Int32))), .val (.int (p4 &&& (31 : Int32))), .val (.ref b13), .val (.int (m0_5 p0 p1 p2 p3 p4)), .val (.int (m0_7 p0 p1 p2 p3 p4)), .val (.int (m0_9 p0 p1 p2 p3 p4))] [])) _
        refine XS.iload X23.here hx rfl (hb hby at_232) rfl ?_
        exact kt
      by_cases hc234_28 : (m0_9 p0 p1 p2 p3 p4) = (0 : Int32)
      · refine own_back (b := T23.setTop (mkF m 242 #[.val (.int p0), .val (.int p1), .val (.int p2), .val (.int p3), .val (.int p4), .val (.int (p0 &&& (1 : Int32))), .val (.int (m0_0 p0 p1 p2 p3 p4)), .val (.int (m0_1 p0 p1 p2 p3 p4)), .val (.ref b1), .val (.int (m0_2 p0 p1 p2 p3 p4)), .val (.int (m0_3 p0 p1 p2 p3 p4)), .val (.int (p3 &&& (31 : Int32))), .val (.int (p4 &&& (31 : Int32))), .val (.ref b13), .val (.int (m0_5 p0 p1 p2 p3 p4)), .val (.int (m0_7 p0 p1 p2 p3 p4)), .val (.int (m0_9 p0 p1 p2 p3 p4))] [(.int (0 : Int32))])) (fun t kt => ?_) ?_
        · show Steps p.tables e below (T23.setTop (mkF m 234 #[.val (.int p0), .val (.int p1), .val (.int p2), .val (.int p3), .val (.int p4), .val (.int (p0 &&& (1 : Int32))), .val (.int (m0_0 p0 p1 p2 p3 p4)), .val (.int (m0_1 p0 p1 p2 p3 p4)), .val (.ref b1), .val (.int (m0_2 p0 p1 p2 p3 p4)), .val (.int (m0_3 p0 p1 p2 p3 p4)), .val (.int (p3 &&& (31 : Int32))), .val (.int (p4 &&& (31 : Int32))), .val (.ref b13), .val (.int (m0_5 p0 p1 p2 p3 p4)), .val (.int (m0_7 p0 p1 p2 p3 p4)), .val (.int (m0_9 p0 p1 p2 p3 p4))] [(.int (m0_9 p0 p1 p2 p3 p4))])) _
          refine XS.ifYes X23.here hx rfl (pc0 := 234) (pc' := 241) rfl (hb hby at_234) rfl ((if0 _ _).trans (teq hc234_28).1) (by decide) (by decide) ?_
          show Steps p.tables e below (T23.setTop (mkF m 241 #[.val (.int p0), .val (.int p1), .val (.int p2), .val (.int p3), .val (.int p4), .val (.int (p0 &&& (1 : Int32))), .val (.int (m0_0 p0 p1 p2 p3 p4)), .val (.int (m0_1 p0 p1 p2 p3 p4)), .val (.ref b1), .val (.int (m0_2 p0 p1 p2 p3 p4)), .val (.int (m0_3 p0 p1 p2 p3 p4)), .val (.int (p3 &&& (31 : Int32))), .val (.int (p4 &&& (31 : Int32))), .val (.ref b13), .val (.int (m0_5 p0 p1 p2 p3 p4)), .val (.int (m0_7 p0 p1 p2 p3 p4)), .val (.int (m0_9 p0 p1 p2 p3 p4))] [])) _
          refine XS.iconst X23.here hx rfl (hb hby at_241) ?_
          exact kt
        obtain ⟨fs, hr, hrun, hended, hW, hsame⟩ := X23.leave (v := some (.int (0 : Int32))) (fun h => by rw [Bd.returns] at h; cases h) (BodyLoose.notSynchronized Bd)
        refine ⟨_, _, ?_, hrun, hended, _, _, rfl, ?_, ⟨_, rfl⟩, hW, hsame.mono (by decide) (by decide)⟩
        · show Steps p.tables e below (T23.setTop (mkF m 242 #[.val (.int p0), .val (.int p1), .val (.int p2), .val (.int p3), .val (.int p4), .val (.int (p0 &&& (1 : Int32))), .val (.int (m0_0 p0 p1 p2 p3 p4)), .val (.int (m0_1 p0 p1 p2 p3 p4)), .val (.ref b1), .val (.int (m0_2 p0 p1 p2 p3 p4)), .val (.int (m0_3 p0 p1 p2 p3 p4)), .val (.int (p3 &&& (31 : Int32))), .val (.int (p4 &&& (31 : Int32))), .val (.ref b13), .val (.int (m0_5 p0 p1 p2 p3 p4)), .val (.int (m0_7 p0 p1 p2 p3 p4)), .val (.int (m0_9 p0 p1 p2 p3 p4))] [(.int (0 : Int32))])) _
          exact retN X23 hx (t := .boolean) Bd.returns (by simp) (hb hby at_242) hr
        · show Q0 Z p0 p1 p2 p3 p4 h0 n0 _ T23.heap _
          rw [e23]
          exact ⟨by rw [show f0 p0 p1 p2 p3 p4 = (0 : Int32) from by unfold f0; rw [if_neg hc224_26, if_neg hc229_27, if_pos hc234_28]], N23⟩
      · refine own_back (b := T23.setTop (mkF m 242 #[.val (.int p0), .val (.int p1), .val (.int p2), .val (.int p3), .val (.int p4), .val (.int (p0 &&& (1 : Int32))), .val (.int (m0_0 p0 p1 p2 p3 p4)), .val (.int (m0_1 p0 p1 p2 p3 p4)), .val (.ref b1), .val (.int (m0_2 p0 p1 p2 p3 p4)), .val (.int (m0_3 p0 p1 p2 p3 p4)), .val (.int (p3 &&& (31 : Int32))), .val (.int (p4 &&& (31 : Int32))), .val (.ref b13), .val (.int (m0_5 p0 p1 p2 p3 p4)), .val (.int (m0_7 p0 p1 p2 p3 p4)), .val (.int (m0_9 p0 p1 p2 p3 p4))] [(.int (1 : Int32))])) (fun t kt => ?_) ?_
        · show Steps p.tables e below (T23.setTop (mkF m 234 #[.val (.int p0), .val (.int p1), .val (.int p2), .val (.int p3), .val (.int p4), .val (.int (p0 &&& (1 : Int32))), .val (.int (m0_0 p0 p1 p2 p3 p4)), .val (.int (m0_1 p0 p1 p2 p3 p4)), .val (.ref b1), .val (.int (m0_2 p0 p1 p2 p3 p4)), .val (.int (m0_3 p0 p1 p2 p3 p4)), .val (.int (p3 &&& (31 : Int32))), .val (.int (p4 &&& (31 : Int32))), .val (.ref b13), .val (.int (m0_5 p0 p1 p2 p3 p4)), .val (.int (m0_7 p0 p1 p2 p3 p4)), .val (.int (m0_9 p0 p1 p2 p3 p4))] [(.int (m0_9 p0 p1 p2 p3 p4))])) _
          refine XS.ifNo X23.here hx rfl (hb hby at_234) rfl ((if0 _ _).trans (feq hc234_28).1) ?_
          show Steps p.tables e below (T23.setTop (mkF m 237 #[.val (.int p0), .val (.int p1), .val (.int p2), .val (.int p3), .val (.int p4), .val (.int (p0 &&& (1 : Int32))), .val (.int (m0_0 p0 p1 p2 p3 p4)), .val (.int (m0_1 p0 p1 p2 p3 p4)), .val (.ref b1), .val (.int (m0_2 p0 p1 p2 p3 p4)), .val (.int (m0_3 p0 p1 p2 p3 p4)), .val (.int (p3 &&& (31 : Int32))), .val (.int (p4 &&& (31 : Int32))), .val (.ref b13), .val (.int (m0_5 p0 p1 p2 p3 p4)), .val (.int (m0_7 p0 p1 p2 p3 p4)), .val (.int (m0_9 p0 p1 p2 p3 p4))] [])) _
          refine XS.iconst X23.here hx rfl (hb hby at_237) ?_
          show Steps p.tables e below (T23.setTop (mkF m 238 #[.val (.int p0), .val (.int p1), .val (.int p2), .val (.int p3), .val (.int p4), .val (.int (p0 &&& (1 : Int32))), .val (.int (m0_0 p0 p1 p2 p3 p4)), .val (.int (m0_1 p0 p1 p2 p3 p4)), .val (.ref b1), .val (.int (m0_2 p0 p1 p2 p3 p4)), .val (.int (m0_3 p0 p1 p2 p3 p4)), .val (.int (p3 &&& (31 : Int32))), .val (.int (p4 &&& (31 : Int32))), .val (.ref b13), .val (.int (m0_5 p0 p1 p2 p3 p4)), .val (.int (m0_7 p0 p1 p2 p3 p4)), .val (.int (m0_9 p0 p1 p2 p3 p4))] [(.int (1 : Int32))])) _
          refine XS.goto X23.here hx rfl (pc0 := 238) (pc' := 242) rfl (hb hby at_238) (by decide) (by decide) ?_
          exact kt
        obtain ⟨fs, hr, hrun, hended, hW, hsame⟩ := X23.leave (v := some (.int (1 : Int32))) (fun h => by rw [Bd.returns] at h; cases h) (BodyLoose.notSynchronized Bd)
        refine ⟨_, _, ?_, hrun, hended, _, _, rfl, ?_, ⟨_, rfl⟩, hW, hsame.mono (by decide) (by decide)⟩
        · show Steps p.tables e below (T23.setTop (mkF m 242 #[.val (.int p0), .val (.int p1), .val (.int p2), .val (.int p3), .val (.int p4), .val (.int (p0 &&& (1 : Int32))), .val (.int (m0_0 p0 p1 p2 p3 p4)), .val (.int (m0_1 p0 p1 p2 p3 p4)), .val (.ref b1), .val (.int (m0_2 p0 p1 p2 p3 p4)), .val (.int (m0_3 p0 p1 p2 p3 p4)), .val (.int (p3 &&& (31 : Int32))), .val (.int (p4 &&& (31 : Int32))), .val (.ref b13), .val (.int (m0_5 p0 p1 p2 p3 p4)), .val (.int (m0_7 p0 p1 p2 p3 p4)), .val (.int (m0_9 p0 p1 p2 p3 p4))] [(.int (1 : Int32))])) _
          exact retN X23 hx (t := .boolean) Bd.returns (by simp) (hb hby at_242) hr
        · show Q0 Z p0 p1 p2 p3 p4 h0 n0 _ T23.heap _
          rw [e23]
          exact ⟨by rw [show f0 p0 p1 p2 p3 p4 = (1 : Int32) from by unfold f0; rw [if_neg hc224_26, if_neg hc229_27, if_neg hc234_28]], N23⟩
theorem own_left (a b c d e : Int32) : ((((((((m0_1 a b c d e) - (a &&& (1 : Int32))).toInt64) * (8 : Int64)) - ((f4 ((((m0_2 a b c d e).toInt8.toInt32).toInt8.toInt32) &&& (255 : Int32))).toInt64)) + (24 : Int64)) - (1 : Int64)).toInt = (m0_3 a b c d e).toInt) ∧ 0 ≤ (m0_3 a b c d e).toInt ∧ (m0_3 a b c d e).toInt ≤ 23 := by
  obtain ⟨hz, hb0, hb1⟩ := own_nlz _ (own_v a b c d e)
  have he := own_e a b c d e
  have hn := own_n a b c d e
  have hs := own_s a
  rw [hz]
  unfold m0_3
  generalize m0_0 a b c d e = n at *
  generalize m0_1 a b c d e = en at *
  generalize a &&& (1 : Int32) = s at *
  generalize f1 (m0_2 a b c d e) = hb at *
  have k31 : (31 : Int32).toInt = 31 := rfl
  have k8 : (8 : Int32).toInt = 8 := rfl
  have k1 : (1 : Int32).toInt = 1 := rfl
  have l8 : (8 : Int64).toInt = 8 := rfl
  have l24 : (24 : Int64).toInt = 24 := rfl
  have l1 : (1 : Int64).toInt = 1 := rfl
  have e1 : (en - s).toInt = n.toInt := by have := c_isub en s; have := rng32 (en - s); omega
  have e2 : ((en - s).toInt64 * (8 : Int64)).toInt = n.toInt * 8 := by have h := c_lmul (en - s).toInt64 8; rw [c_i2l, l8, e1] at h; have := rng64 ((en - s).toInt64 * (8 : Int64)); omega
  have e3 : ((31 : Int32) - hb).toInt = 31 - hb.toInt := by have := c_isub 31 hb; have := rng32 ((31 : Int32) - hb); omega
  have e4 : (((en - s).toInt64 * (8 : Int64)) - ((31 : Int32) - hb).toInt64).toInt = n.toInt * 8 - (31 - hb.toInt) := by have h := c_lsub ((en - s).toInt64 * (8 : Int64)) ((31 : Int32) - hb).toInt64; rw [e2, c_i2l, e3] at h; have := rng64 (((en - s).toInt64 * (8 : Int64)) - ((31 : Int32) - hb).toInt64); omega
  have e5 : ((((en - s).toInt64 * (8 : Int64)) - ((31 : Int32) - hb).toInt64) + 24).toInt = n.toInt * 8 - (31 - hb.toInt) + 24 := by have h := c_ladd (((en - s).toInt64 * (8 : Int64)) - ((31 : Int32) - hb).toInt64) 24; rw [e4, l24] at h; have := rng64 ((((en - s).toInt64 * (8 : Int64)) - ((31 : Int32) - hb).toInt64) + 24); omega
  have e6 : (((((en - s).toInt64 * (8 : Int64)) - ((31 : Int32) - hb).toInt64) + 24) - 1).toInt = n.toInt * 8 - (31 - hb.toInt) + 24 - 1 := by have h := c_lsub ((((en - s).toInt64 * (8 : Int64)) - ((31 : Int32) - hb).toInt64) + 24) 1; rw [e5, l1] at h; have := rng64 (((((en - s).toInt64 * (8 : Int64)) - ((31 : Int32) - hb).toInt64) + 24) - 1); omega
  have t1 : (n - 1).toInt = n.toInt - 1 := by have := c_isub n 1; have := rng32 (n - 1); omega
  have t2 : ((8 : Int32) * (n - 1)).toInt = 8 * (n.toInt - 1) := by have h := c_imul 8 (n - 1); rw [k8, t1] at h; have := rng32 ((8 : Int32) * (n - 1)); omega
  have t3 : (((8 : Int32) * (n - 1)) + hb).toInt = 8 * (n.toInt - 1) + hb.toInt := by have h := c_iadd ((8 : Int32) * (n - 1)) hb; rw [t2] at h; have := rng32 (((8 : Int32) * (n - 1)) + hb); omega
  rw [e6, t3]
  omega
theorem own_f5 (x : Int64) (y z : Int32) (h : x.toInt = 0 ↔ y = z) : f5 x = if y = z then 1 else 0 := by
  unfold f5
  have l0 : (0 : Int64).toInt = 0 := rfl
  by_cases q : y = z
  · rw [if_pos q, if_pos (Int64.toInt_inj.mp (by rw [h.mpr q, l0]))]
  · rw [if_neg q, if_neg (fun u => q (h.mp (by rw [u, l0])))]
theorem own_31 (x : Int32) : 0 ≤ (x &&& (31 : Int32)).toInt ∧ (x &&& (31 : Int32)).toInt ≤ 31 := by
  have h := c_mask x 31 5 (by decide) (by decide)
  have : (2 ^ 5 : Nat) = 32 := by decide
  omega
theorem own_law (a b c d e : Int32) : f0 a b c d e = 1 := by
  obtain ⟨hl, h0, h1⟩ := own_left a b c d e
  have hd := own_31 d
  have he := own_31 e
  have k0 : (0 : Int32).toInt = 0 := rfl
  have e5 : m0_5 a b c d e = 1 := by
    unfold m0_5
    rw [if_pos]
    unfold m0_4
    exact own_f5 _ _ _ (by rw [hl, ← Int32.toInt_inj, k0])
  unfold f0
  rw [e5]
  have e7 : m0_7 a b c d e = 1 := by
    unfold m0_7
    rw [if_pos]
    unfold m0_6
    refine own_f5 _ _ _ ?_
    generalize ((((((((m0_1 a b c d e) - (a &&& (1 : Int32))).toInt64) * (8 : Int64)) - ((f4 ((((m0_2 a b c d e).toInt8.toInt32).toInt8.toInt32) &&& (255 : Int32))).toInt64)) + (24 : Int64)) - (1 : Int64))) = L at *
    rw [← Int32.toInt_inj]
    have h := c_lsub L (d &&& (31 : Int32)).toInt64
    have r := rng64 (L - (d &&& (31 : Int32)).toInt64)
    rw [c_i2l] at h
    omega
  have e9 : m0_9 a b c d e = 1 := by
    unfold m0_9
    rw [if_pos]
    unfold m0_8
    refine own_f5 _ _ _ ?_
    generalize ((((((((m0_1 a b c d e) - (a &&& (1 : Int32))).toInt64) * (8 : Int64)) - ((f4 ((((m0_2 a b c d e).toInt8.toInt32).toInt8.toInt32) &&& (255 : Int32))).toInt64)) + (24 : Int64)) - (1 : Int64))) = L at *
    rw [← Int32.toInt_inj]
    have h := c_lsub L (d &&& (31 : Int32)).toInt64
    have r := rng64 (L - (d &&& (31 : Int32)).toInt64)
    rw [c_i2l] at h
    have h2 := c_lsub (L - (d &&& (31 : Int32)).toInt64) (e &&& (31 : Int32)).toInt64
    have r2 := rng64 (L - (d &&& (31 : Int32)).toInt64 - (e &&& (31 : Int32)).toInt64)
    rw [c_i2l] at h2
    have h3 := c_iadd (d &&& (31 : Int32)) (e &&& (31 : Int32))
    have r3 := rng32 ((d &&& (31 : Int32)) + (e &&& (31 : Int32)))
    omega
  rw [e7, e9]
  decide
set_option maxRecDepth 65536 in
set_option maxHeartbeats 40000000 in
theorem comes_1 {Post : Tables → Env → Array Value → State → Outcome → State → Prop} (hpost : ∀ tb e args s v u, (limb_1_1.after args s (.returned v) u = true ∧ limb_1_2.after args s (.returned v) u = true ∧ True) → FrameEnd s (.returned v) u (Jvm.fieldLocs frame_1_writes args s ++ Jvm.arrayLocs frame_1_arrays args s ++ Jvm.staticLocs frame_1_statics s) 16 128 → Post tb e args s (.returned v) u) :
    ArmFor flags0 classFile x code maxLocals ret World_1 tables_1 room_1 Calls_1 rest_1 Pre_1 Post := by
  intro l hfl _ _ p e ha hc hk s m args below hf hA hF happ hP
  obtain ⟨hcalls, hrest, hpre⟩ := hP
  obtain ⟨-, -, -, hnamed, -, -, -, hat⟩ := (Spec.applies_iff hf).mp happ
  obtain ⟨hg, hn⟩ := and_e (Cond.before_iff.mp (show (Jvm.Cond.and given_1 narrow_1).before args s = true from hpre))
  obtain ⟨gc, gr0⟩ := and_e hg
  obtain ⟨ga0, gr1⟩ := and_e gr0
  obtain ⟨ga1, gr2⟩ := and_e gr1
  obtain ⟨ga2, gr3⟩ := and_e gr2
  obtain ⟨ga3, gr4⟩ := and_e gr3
  obtain ⟨w0, w1, w2, w3, w4, rfl⟩ : ∃ w0 w1 w2 w3 w4 : Value, args = #[w0, w1, w2, w3, w4] := by
    have hs : args.size = 5 := by simpa [Cond.value, given_1] using gc
    obtain ⟨L⟩ := args
    match L, hs with
    | [w0, w1, w2, w3, w4], _ => exact ⟨w0, w1, w2, w3, w4, rfl⟩
  have hw := fun d (hd : d ∈ tables_1) => atoms_spec (ws := Jvm.Cond.code x code maxLocals ret :: tables_1) hat d (List.mem_cons_of_mem _ hd)
  have hfit : Fit s := fun {y c} hc i hi => by
    obtain ⟨ha, rfl⟩ := Array.getElem?_eq_some_iff.mp hc
    have q := List.all_eq_true.mp ((Array.all_eq_true_iff_forall_mem.mp hF) _ (Array.getElem_mem ha)) i (List.mem_range.mpr hi)
    simpa [Array.getElem?_eq_getElem hi] using q
  obtain ⟨i0, ei0⟩ := is_v ga0
  obtain rfl : w0 = (.int i0) := Option.some.inj ei0
  obtain ⟨i1, ei1⟩ := is_v ga1
  obtain rfl : w1 = (.int i1) := Option.some.inj ei1
  obtain ⟨i2, ei2⟩ := is_v ga2
  obtain rfl : w2 = (.int i2) := Option.some.inj ei2
  obtain ⟨i3, ei3⟩ := is_v ga3
  obtain rfl : w3 = (.int i3) := Option.some.inj ei3
  obtain ⟨i4, ei4⟩ := is_v gr4
  obtain rfl : w4 = (.int i4) := Option.some.inj ei4
  obtain ⟨n, o, h1, h2, h3, _, L, rfl, ⟨rfl, N⟩, hq⟩ := rm0 l s _ hw tables_1 i0 i1 i2 i3 i4 s.heap s.heap.size (Nat.le_refl _)  p e ha hc hk s m _ below hf ((Spec.applies_iff_loose hf).mp happ).1 ⟨rfl, State.Warmed39.refl s, rfl⟩ trivial
  refine ⟨n, _, h1, h2, h3, hpost _ _ _ _ _ _ ⟨Cond.after_iff.mpr rfl, Cond.after_iff.mpr (eq_i res_at (Term.int_eval (1)) (congrArg Value.int (own_law i0 i1 i2 i3 i4))), trivial⟩ ⟨hq.1, hq.2.1, (hq.2.2.sift fun y hy => Or.inr (N y hy)).mono (by decide) (by decide)⟩⟩
theorem main_1_1 : Claimed_1_1 := comes_1 fun _ _ _ _ _ _ h hF => ⟨h.1, hF⟩
theorem main_1_2 : Claimed_1_2 := comes_1 fun _ _ _ _ _ _ h hF => ⟨h.2.1, hF⟩
end Jvm.Pilot.@@N@@
namespace Jvm.Pilot.@@N@@
open Jvm Jvm.ClassFile Sem Op Lib Jvm.Free Jvm.Stand Jvm.Pilot.@@N@@.Jvm.D
/-! MADE BY PROGRAM (witnessworld.py) out of the Statement's table words and the real class files: 14 classes; the members and pool entries that the words name. The judged class is class 1, her method 2. -/
namespace start1
open Jvm.ClassFile
def u (s : String) : CpInfo := .utf8 (stringToUtf16 s)
/-- a pool by its gaps: so many unusable entries, then the entry; so many at the end -/
def gap : Nat → List CpInfo → List CpInfo
  | 0, r => r
  | n + 1, r => .unusable :: gap n r
def poolList (es : List (Nat × CpInfo)) (last : Nat) : List CpInfo := es.foldr (fun e r => gap e.1 (e.2 :: r)) (gap last [])
def pool (es : List (Nat × CpInfo)) (last : Nat) : Array CpInfo := ⟨poolList es last⟩
def fileOf (pool : Array CpInfo) (this : Nat) (attrs : Array Attribute := #[]) (ms : Array MethodInfo := #[]) (fl : Nat := 33) (sup : Nat := 0) (ifs : Array Nat := #[]) (fds : Array FieldInfo := #[]) : ClassFile where
  minorVersion := 0
  majorVersion := 65
  constantPool := pool
  accessFlags := fl
  thisClass := this
  superClass := sup
  interfaces := ifs
  fields := fds
  methods := ms
  attributes := attrs
def plain (name : String) (sup : Option ClassId) : Class where
  name := name
  kind := .ordinary
  loader := none
  accessFlags := 33
  super := sup
  interfaces := #[]
  cf := none
  fields := #[]
  methods := #[]
  instanceTypes := #[]
  staticTypes := #[]
  resolved := #[]
  callSites := []
  init := .initialized
  statics := none
  mirror := none

def pool0 : Array CpInfo := pool [(5, u "<init>"), (0, u "()V"), (1, .class_ 10), (1, u "java/lang/Object")] 113

def k0c0 : Code := { maxStack := 0, maxLocals := 1, code := object_method_1_code, exceptionTable := #[], attributes := #[] }
def k0m0 : Method := { name := "<init>", desc := "()V", sig := { parameters := [], returnType := none }, accessFlags := 1, code := some k0c0 }
/-- java/lang/Object -/
def k0 : Class := { plain "java/lang/Object" none with
  accessFlags := 33
  interfaces := #[]
  cf := some (fileOf pool0 8 #[] #[{ accessFlags := 1, nameIndex := 5, descriptorIndex := 6, attributes := #[] }] 33 0 #[] #[])
  fields := #[]
  methods := #[k0m0]
  instanceTypes := #[]
  staticTypes := #[]
  resolved := Array.replicate 124 none
  statics := none }

def pool1 : Array CpInfo := pool [(2, .class_ 4), (1, u "java/lang/Object"), (0, u "<init>"), (0, u "()V"), (0, .integer 2147483647), (0, .methodref 9 10), (0, .class_ 11), (0, .nameAndType 12 13), (0, u "com/example/urial/urial/protocol/BackwardBitReaderFinishedPinLaw"), (0, u "highBit"), (0, u "(I)I"), (0, .class_ 15), (0, u "com/example/urial/urial/protocol/BackwardBitReader"), (0, .methodref 14 17), (0, .nameAndType 5 18), (0, u "([BII)V"), (0, .methodref 14 20), (0, .nameAndType 21 22), (0, u "finished"), (0, u "()Z"), (0, .methodref 14 24), (0, .nameAndType 25 26), (0, u "skip"), (0, u "(I)V"), (3, u "law"), (0, u "(IIIII)Z")] 7

def k1m0 : Method := { name := "<init>", desc := "()V", sig := { parameters := [], returnType := none }, accessFlags := 1, code := none }
def k1c1 : Code := { maxStack := 2, maxLocals := 1, code := method_2_code, exceptionTable := #[], attributes := #[] }
def k1m1 : Method := { name := "highBit", desc := "(I)I", sig := { parameters := [.int], returnType := some .int }, accessFlags := 10, code := some k1c1 }
def k1c2 : Code := { maxStack := 5, maxLocals := 17, code := code, exceptionTable := #[], attributes := #[] }
def k1m2 : Method := { name := "law", desc := "(IIIII)Z", sig := { parameters := [.int, .int, .int, .int, .int], returnType := some .boolean }, accessFlags := 9, code := some k1c2 }
/-- com/example/urial/urial/protocol/BackwardBitReaderFinishedPinLaw -/
def k1 : Class := { plain "com/example/urial/urial/protocol/BackwardBitReaderFinishedPinLaw" (some 0) with
  accessFlags := 49
  interfaces := #[]
  cf := some (fileOf pool1 9 #[] #[{ accessFlags := 1, nameIndex := 5, descriptorIndex := 6, attributes := #[] }, { accessFlags := 10, nameIndex := 12, descriptorIndex := 13, attributes := #[] }, { accessFlags := 9, nameIndex := 30, descriptorIndex := 31, attributes := #[] }] 49 2 #[] #[])
  fields := #[]
  methods := #[k1m0, k1m1, k1m2]
  instanceTypes := #[]
  staticTypes := #[]
  resolved := Array.replicate 39 none
  statics := none }

def pool2 : Array CpInfo := pool [(1, .methodref 2 3), (0, .class_ 4), (0, .nameAndType 5 6), (0, u "java/lang/Object"), (0, u "<init>"), (0, u "()V"), (7, .fieldref 15 16), (0, .class_ 17), (0, .nameAndType 18 19), (0, u "com/example/urial/urial/protocol/BackwardBitReader"), (0, u "bytes"), (0, u "[B"), (0, .fieldref 15 21), (0, .nameAndType 22 23), (0, u "start"), (0, u "I"), (0, .fieldref 15 25), (0, .nameAndType 26 23), (0, u "end"), (0, .long 8), (1, .methodref 30 31), (0, .class_ 32), (0, .nameAndType 33 34), (0, u "java/lang/Integer"), (0, u "numberOfLeadingZeros"), (0, u "(I)I"), (0, .long 24), (1, .fieldref 15 38), (0, .nameAndType 39 40), (0, u "left"), (0, u "J"), (19, u "([BII)V"), (6, u "skip"), (0, u "(I)V"), (1, u "()Z"), (0, u "finished")] 2

def k2c0 : Code := { maxStack := 6, maxLocals := 4, code := prog_51_method_1_code, exceptionTable := #[], attributes := #[] }
def k2m0 : Method := { name := "<init>", desc := "([BII)V", sig := { parameters := [(.array .byte), .int, .int], returnType := none }, accessFlags := 0, code := some k2c0 }
def k2c1 : Code := { maxStack := 5, maxLocals := 2, code := prog_51_method_4_code, exceptionTable := #[], attributes := #[] }
def k2m1 : Method := { name := "skip", desc := "(I)V", sig := { parameters := [.int], returnType := none }, accessFlags := 0, code := some k2c1 }
def k2c2 : Code := { maxStack := 4, maxLocals := 1, code := prog_51_method_6_code, exceptionTable := #[], attributes := #[] }
def k2m2 : Method := { name := "finished", desc := "()Z", sig := { parameters := [], returnType := some .boolean }, accessFlags := 0, code := some k2c2 }
/-- com/example/urial/urial/protocol/BackwardBitReader -/
def k2 : Class := { plain "com/example/urial/urial/protocol/BackwardBitReader" (some 0) with
  accessFlags := 48
  interfaces := #[]
  cf := some (fileOf pool2 15 #[] #[{ accessFlags := 0, nameIndex := 5, descriptorIndex := 60, attributes := #[] }, { accessFlags := 0, nameIndex := 67, descriptorIndex := 68, attributes := #[] }, { accessFlags := 0, nameIndex := 71, descriptorIndex := 70, attributes := #[] }] 48 2 #[] #[{ accessFlags := 18, nameIndex := 18, descriptorIndex := 19, attributes := #[] }, { accessFlags := 18, nameIndex := 22, descriptorIndex := 23, attributes := #[] }, { accessFlags := 18, nameIndex := 26, descriptorIndex := 23, attributes := #[] }, { accessFlags := 2, nameIndex := 39, descriptorIndex := 40, attributes := #[] }])
  fields := #[{ name := "bytes", type := (.array .byte), accessFlags := 18, slot := 0, constantValue := 0 }, { name := "start", type := .int, accessFlags := 18, slot := 1, constantValue := 0 }, { name := "end", type := .int, accessFlags := 18, slot := 2, constantValue := 0 }, { name := "left", type := .long, accessFlags := 2, slot := 3, constantValue := 0 }]
  methods := #[k2m0, k2m1, k2m2]
  instanceTypes := #[(.array .byte), .int, .int, .long]
  staticTypes := #[]
  resolved := Array.replicate 74 none
  statics := none }

def pool3 : Array CpInfo := pool [(1, .class_ 2), (0, u "java/io/Serializable"), (0, .class_ 4), (0, u "java/lang/Object")] 2

/-- java/io/Serializable -/
def k3 : Class := { plain "java/io/Serializable" (some 0) with
  accessFlags := 1537
  interfaces := #[]
  cf := some (fileOf pool3 1 #[] #[] 1537 3 #[] #[])
  fields := #[]
  methods := #[]
  instanceTypes := #[]
  staticTypes := #[]
  resolved := Array.replicate 7 none
  statics := none }

def pool4 : Array CpInfo := pool [(2, .class_ 4), (1, u "java/lang/Object"), (0, u "<init>"), (0, u "()V"), (1, .class_ 10), (1, u "java/lang/Number"), (2, .class_ 14), (0, u "java/io/Serializable"), (0, u "serialVersionUID"), (0, u "J")] 20

def k4m0 : Method := { name := "<init>", desc := "()V", sig := { parameters := [], returnType := none }, accessFlags := 1, code := none }
/-- java/lang/Number -/
def k4 : Class := { plain "java/lang/Number" (some 0) with
  accessFlags := 1057
  interfaces := #[3]
  cf := some (fileOf pool4 8 #[] #[{ accessFlags := 1, nameIndex := 5, descriptorIndex := 6, attributes := #[] }] 1057 2 #[13] #[{ accessFlags := 26, nameIndex := 15, descriptorIndex := 16, attributes := #[] }])
  fields := #[{ name := "serialVersionUID", type := .long, accessFlags := 26, slot := 0, constantValue := 0 }]
  methods := #[k4m0]
  instanceTypes := #[]
  staticTypes := #[.long]
  resolved := Array.replicate 37 none
  statics := none }

def pool5 : Array CpInfo := pool [(1, .class_ 2), (0, u "java/lang/Comparable"), (0, .class_ 4), (0, u "java/lang/Object")] 7

/-- java/lang/Comparable -/
def k5 : Class := { plain "java/lang/Comparable" (some 0) with
  accessFlags := 1537
  interfaces := #[]
  cf := some (fileOf pool5 1 #[] #[] 1537 3 #[] #[])
  fields := #[]
  methods := #[]
  instanceTypes := #[]
  staticTypes := #[]
  resolved := Array.replicate 12 none
  statics := none }

def pool6 : Array CpInfo := pool [(1, .class_ 2), (0, u "java/lang/constant/Constable"), (0, .class_ 4), (0, u "java/lang/Object")] 6

/-- java/lang/constant/Constable -/
def k6 : Class := { plain "java/lang/constant/Constable" (some 0) with
  accessFlags := 1537
  interfaces := #[]
  cf := some (fileOf pool6 1 #[] #[] 1537 3 #[] #[])
  fields := #[]
  methods := #[]
  instanceTypes := #[]
  staticTypes := #[]
  resolved := Array.replicate 11 none
  statics := none }

def pool7 : Array CpInfo := pool [(1, .class_ 2), (0, u "java/lang/constant/ConstantDesc"), (0, .class_ 4), (0, u "java/lang/Object")] 32

/-- java/lang/constant/ConstantDesc -/
def k7 : Class := { plain "java/lang/constant/ConstantDesc" (some 0) with
  accessFlags := 1537
  interfaces := #[]
  cf := some (fileOf pool7 1 #[] #[] 1537 3 #[] #[])
  fields := #[]
  methods := #[]
  instanceTypes := #[]
  staticTypes := #[]
  resolved := Array.replicate 37 none
  statics := none }

def pool8 : Array CpInfo := pool [(1, .class_ 2), (0, u "java/lang/Integer"), (16, u "digits"), (0, u "[C"), (32, u "numberOfLeadingZeros"), (0, u "(I)I"), (30, u "DigitOnes"), (0, u "[B"), (2, u "DigitTens"), (99, .class_ 190), (0, u "java/lang/Integer$IntegerCache"), (3, u "I"), (8, .class_ 204), (0, u "java/lang/Number"), (2, u "value"), (56, .integer 65536), (37, u "TYPE"), (0, u "Ljava/lang/Class;"), (0, .class_ 305), (0, u "java/lang/Comparable"), (0, .class_ 307), (0, u "java/lang/constant/Constable"), (0, .class_ 309), (0, u "java/lang/constant/ConstantDesc"), (0, u "MIN_VALUE"), (1, u "MAX_VALUE"), (3, u "SIZE"), (1, u "BYTES"), (1, u "serialVersionUID"), (0, u "J")] 131

def k8c0 : Code := { maxStack := 3, maxLocals := 2, code := jdk_33_method_47_code, exceptionTable := #[], attributes := #[] }
def k8m0 : Method := { name := "numberOfLeadingZeros", desc := "(I)I", sig := { parameters := [.int], returnType := some .int }, accessFlags := 9, code := some k8c0 }
/-- java/lang/Integer -/
def k8 : Class := { plain "java/lang/Integer" (some 4) with
  accessFlags := 49
  interfaces := #[5, 6, 7]
  cf := some (fileOf pool8 1 #[.nestMembers #[189]] #[{ accessFlags := 9, nameIndex := 53, descriptorIndex := 54, attributes := #[] }] 49 203 #[304, 306, 308] #[{ accessFlags := 25, nameIndex := 310, descriptorIndex := 194, attributes := #[] }, { accessFlags := 25, nameIndex := 312, descriptorIndex := 194, attributes := #[] }, { accessFlags := 25, nameIndex := 302, descriptorIndex := 303, attributes := #[] }, { accessFlags := 24, nameIndex := 19, descriptorIndex := 20, attributes := #[] }, { accessFlags := 24, nameIndex := 89, descriptorIndex := 86, attributes := #[] }, { accessFlags := 24, nameIndex := 85, descriptorIndex := 86, attributes := #[] }, { accessFlags := 18, nameIndex := 207, descriptorIndex := 194, attributes := #[] }, { accessFlags := 25, nameIndex := 316, descriptorIndex := 194, attributes := #[] }, { accessFlags := 25, nameIndex := 318, descriptorIndex := 194, attributes := #[] }, { accessFlags := 26, nameIndex := 320, descriptorIndex := 321, attributes := #[] }])
  fields := #[{ name := "MIN_VALUE", type := .int, accessFlags := 25, slot := 0, constantValue := 0 }, { name := "MAX_VALUE", type := .int, accessFlags := 25, slot := 1, constantValue := 0 }, { name := "TYPE", type := (.object "java/lang/Class"), accessFlags := 25, slot := 2, constantValue := 0 }, { name := "digits", type := (.array .char), accessFlags := 24, slot := 3, constantValue := 0 }, { name := "DigitTens", type := (.array .byte), accessFlags := 24, slot := 4, constantValue := 0 }, { name := "DigitOnes", type := (.array .byte), accessFlags := 24, slot := 5, constantValue := 0 }, { name := "value", type := .int, accessFlags := 18, slot := 0, constantValue := 0 }, { name := "SIZE", type := .int, accessFlags := 25, slot := 6, constantValue := 0 }, { name := "BYTES", type := .int, accessFlags := 25, slot := 7, constantValue := 0 }, { name := "serialVersionUID", type := .long, accessFlags := 26, slot := 8, constantValue := 0 }]
  methods := #[k8m0]
  instanceTypes := #[.int]
  staticTypes := #[.int, .int, (.object "java/lang/Class"), (.array .char), (.array .byte), (.array .byte), .int, .int, .long]
  resolved := Array.replicate 453 none
  statics := none }

def pool9 : Array CpInfo := pool [(1, u "java/lang/Cloneable"), (0, .class_ 1), (0, u "java/lang/Object"), (0, .class_ 3)] 3

/-- java/lang/Cloneable -/
def k9 : Class := { plain "java/lang/Cloneable" (some 0) with
  accessFlags := 1537
  interfaces := #[]
  cf := some (fileOf pool9 2 #[] #[] 1537 4 #[] #[])
  fields := #[]
  methods := #[]
  instanceTypes := #[]
  staticTypes := #[]
  resolved := Array.replicate 8 none
  statics := none }

/-- the primitive byte -/
def k10 : Class := { plain "byte" none with kind := .primitive 'B', accessFlags := 0x411 }
/-- [B -/
def k11 : Class := { plain "[B" (some 0) with kind := .array 10 .byte, interfaces := #[9, 3], accessFlags := 1041 }

/-- the primitive int -/
def k12 : Class := { plain "int" none with kind := .primitive 'I', accessFlags := 0x411 }
/-- [I -/
def k13 : Class := { plain "[I" (some 0) with kind := .array 12 .int, interfaces := #[9, 3], accessFlags := 1041 }

def heap : Heap := #[]
def classes : Array Class := #[k0, k1, k2, k3, k4, k5, k6, k7, k8, k9, k10, k11, k12, k13]
def interned : List (Array UInt16 × Addr) := []
def slotsUsed : Nat := 0
def theMethod : MethodId := ⟨1, 2⟩
def args0 : Array Value := #[.int 5, .int 5, .int 5, .int 5, .int 5]
def aboutOver (below : List Frame) : State where
  vm := { classes := classes, interned := interned.toArray }
  heap := heap
  slotsUsed := slotsUsed
  threads := #[{ frames := .invoking theMethod args0 :: below }]
def below0 : List Frame := [.native { method := ⟨0, 0⟩, args := #[] }]
def about1 : State := aboutOver below0
def p0 : Program := .bare "" "" ""
def e0 : Env := launch0.env 0 0 0
theorem w_frames : about1.frames = Frame.invoking theMethod args0 :: below0 := rfl
set_option maxRecDepth 65536 in
theorem w_args : argsFit about1.vm theMethod args0 = true := by decide +kernel
set_option maxRecDepth 65536 in
theorem w_heap : heapFits about1 = true := by decide +kernel
set_option maxRecDepth 65536 in
theorem w_runnable : about1.curStatus? = some .runnable := by decide +kernel
set_option maxRecDepth 65536 in
theorem w_alone : about1.alone = true := by decide +kernel
set_option maxRecDepth 65536 in
theorem w_named : about1.methodNamed? x = some theMethod := by decide +kernel
set_option maxRecDepth 65536 in
theorem w_hears : about1.hears theMethod below0 = true := by decide +kernel
set_option maxRecDepth 65536 in
theorem w_ripe : about1.ripe theMethod args0 below0 = true := by decide +kernel
theorem w_running : about1.status = .running := rfl
set_option maxRecDepth 65536 in
theorem w_room : about1.hasRoom e0.platform room_1 = true :=
  launch0.hasRoom_least _ room_1 (by decide +kernel) (by decide +kernel) (by decide +kernel) (by decide +kernel) (by decide +kernel) (by decide +kernel)
theorem allAtoms_all (ts : List Jvm.Cond) (a : Array Jvm.Value) (st : Jvm.State) : (allAtoms ts).before a st = ts.all (fun c => c.before a st) := by
  induction ts with
  | nil => rfl
  | cons c t ih =>
    show (Jvm.Cond.and c (allAtoms t)).before a st = _
    rw [Jvm.Cond.before_and, ih, List.all_cons]
def words1 : List Jvm.Cond := Jvm.Cond.code x code maxLocals ret :: tables_1
/-- a 'code' word, met by the world's own term for the bytes: nothing is compared byte by byte -/
theorem code_word {y : MethodName} {bytes : ByteArray} {mx : Nat} {rt : Option FieldType} {a : Array Value} {s : State} {m : MethodId} {meth : Method} {c : Code} (h1 : s.methodNamed? y = some m) (h2 : s.vm.method? m = some meth) (h3 : meth.code = some c) (h4 : c.code = bytes)
    (h5 : (c.maxLocals == mx && c.exceptionTable.isEmpty && decide (c.maxStack ≤ mostOperands) && decide (meth.sig.returnType = rt) && !meth.locks && decide (parseMethodDescriptor y.desc = some meth.sig)) = true) : (Jvm.Cond.code y bytes mx rt).before a s = true := by
  simp only [Bool.and_eq_true, beq_iff_eq, Bool.not_eq_true', decide_eq_true_eq] at h5
  obtain ⟨⟨⟨⟨⟨g1, g2⟩, g3⟩, g4⟩, g5⟩, g6⟩ := h5
  simp [Cond.before, Cond.holds, Cond.value, h1, h2, h3, h4, g1, g2, g3, g4, g5, g6]
def isCode : Jvm.Cond → Bool
  | .code _ _ _ _ => true
  | _ => false
theorem all_split {L : List Jvm.Cond} {P : Jvm.Cond → Bool} (h1 : L.all (fun c => isCode c || P c) = true) (h2 : ∀ c ∈ L.filter isCode, P c = true) : L.all P = true := by
  refine List.all_eq_true.mpr fun c hc => ?_
  have h := List.all_eq_true.mp h1 c hc
  rcases Bool.eq_false_or_eq_true (isCode c) with hi | hi
  · exact h2 c (List.mem_filter.mpr ⟨hc, hi⟩)
  · simpa [hi] using h
set_option maxRecDepth 65536 in
theorem w_c0 : (Jvm.Cond.code x code maxLocals ret).before args0 about1 = true := code_word (m := ⟨1, 2⟩) (meth := k1m2) (c := k1c2) (by decide +kernel) rfl rfl rfl (by decide +kernel)
set_option maxRecDepth 65536 in
theorem w_c1 : (Jvm.Cond.code ({ cls := "com/example/urial/urial/protocol/BackwardBitReaderFinishedPinLaw", name := "highBit", desc := "(I)I" } : Jvm.MethodName) method_2_code (1 : Nat) (Option.some Jvm.ClassFile.FieldType.int)).before args0 about1 = true := code_word (m := ⟨1, 1⟩) (meth := k1m1) (c := k1c1) (by decide +kernel) rfl rfl rfl (by decide +kernel)
set_option maxRecDepth 65536 in
theorem w_c2 : (Jvm.Cond.code ({ cls := "com/example/urial/urial/protocol/BackwardBitReader", name := "<init>", desc := "([BII)V" } : Jvm.MethodName) prog_51_method_1_code (4 : Nat) (Option.none : Option Jvm.ClassFile.FieldType)).before args0 about1 = true := code_word (m := ⟨2, 0⟩) (meth := k2m0) (c := k2c0) (by decide +kernel) rfl rfl rfl (by decide +kernel)
set_option maxRecDepth 65536 in
theorem w_c3 : (Jvm.Cond.code ({ cls := "java/lang/Object", name := "<init>", desc := "()V" } : Jvm.MethodName) object_method_1_code (1 : Nat) (Option.none : Option Jvm.ClassFile.FieldType)).before args0 about1 = true := code_word (m := ⟨0, 0⟩) (meth := k0m0) (c := k0c0) (by decide +kernel) rfl rfl rfl (by decide +kernel)
set_option maxRecDepth 65536 in
theorem w_c4 : (Jvm.Cond.code ({ cls := "java/lang/Integer", name := "numberOfLeadingZeros", desc := "(I)I" } : Jvm.MethodName) jdk_33_method_47_code (2 : Nat) (Option.some Jvm.ClassFile.FieldType.int)).before args0 about1 = true := code_word (m := ⟨8, 0⟩) (meth := k8m0) (c := k8c0) (by decide +kernel) rfl rfl rfl (by decide +kernel)
set_option maxRecDepth 65536 in
theorem w_c5 : (Jvm.Cond.code ({ cls := "com/example/urial/urial/protocol/BackwardBitReader", name := "finished", desc := "()Z" } : Jvm.MethodName) prog_51_method_6_code (1 : Nat) (Option.some Jvm.ClassFile.FieldType.boolean)).before args0 about1 = true := code_word (m := ⟨2, 2⟩) (meth := k2m2) (c := k2c2) (by decide +kernel) rfl rfl rfl (by decide +kernel)
set_option maxRecDepth 65536 in
theorem w_c6 : (Jvm.Cond.code ({ cls := "com/example/urial/urial/protocol/BackwardBitReader", name := "skip", desc := "(I)V" } : Jvm.MethodName) prog_51_method_4_code (2 : Nat) (Option.none : Option Jvm.ClassFile.FieldType)).before args0 about1 = true := code_word (m := ⟨2, 1⟩) (meth := k2m1) (c := k2c1) (by decide +kernel) rfl rfl rfl (by decide +kernel)
def codes1 : List Jvm.Cond := [Jvm.Cond.code x code maxLocals ret, Jvm.Cond.code ({ cls := "com/example/urial/urial/protocol/BackwardBitReaderFinishedPinLaw", name := "highBit", desc := "(I)I" } : Jvm.MethodName) method_2_code (1 : Nat) (Option.some Jvm.ClassFile.FieldType.int), Jvm.Cond.code ({ cls := "com/example/urial/urial/protocol/BackwardBitReader", name := "<init>", desc := "([BII)V" } : Jvm.MethodName) prog_51_method_1_code (4 : Nat) (Option.none : Option Jvm.ClassFile.FieldType), Jvm.Cond.code ({ cls := "java/lang/Object", name := "<init>", desc := "()V" } : Jvm.MethodName) object_method_1_code (1 : Nat) (Option.none : Option Jvm.ClassFile.FieldType), Jvm.Cond.code ({ cls := "java/lang/Integer", name := "numberOfLeadingZeros", desc := "(I)I" } : Jvm.MethodName) jdk_33_method_47_code (2 : Nat) (Option.some Jvm.ClassFile.FieldType.int), Jvm.Cond.code ({ cls := "com/example/urial/urial/protocol/BackwardBitReader", name := "finished", desc := "()Z" } : Jvm.MethodName) prog_51_method_6_code (1 : Nat) (Option.some Jvm.ClassFile.FieldType.boolean), Jvm.Cond.code ({ cls := "com/example/urial/urial/protocol/BackwardBitReader", name := "skip", desc := "(I)V" } : Jvm.MethodName) prog_51_method_4_code (2 : Nat) (Option.none : Option Jvm.ClassFile.FieldType)]
set_option maxRecDepth 65536 in
theorem codes_eq : words1.filter isCode = codes1 := rfl
theorem w_codes : ∀ c ∈ words1.filter isCode, c.before args0 about1 = true := by
  rw [codes_eq]
  intro c hc
  simp only [codes1, List.mem_cons, List.not_mem_nil, or_false] at hc
  rcases hc with rfl | rfl | rfl | rfl | rfl | rfl | rfl
  · exact w_c0
  · exact w_c1
  · exact w_c2
  · exact w_c3
  · exact w_c4
  · exact w_c5
  · exact w_c6
set_option maxRecDepth 65536 in
theorem w_t1 : (words1.take 24).all (fun c => isCode c || c.before args0 about1) = true := by decide +kernel
set_option maxRecDepth 65536 in
theorem w_t2 : (words1.drop 24).all (fun c => isCode c || c.before args0 about1) = true := by decide +kernel
theorem w_tables : (allAtoms (Jvm.Cond.code x code maxLocals ret :: tables_1)).before args0 about1 = true := by
  rw [allAtoms_all]
  show words1.all (fun c => c.before args0 about1) = true
  refine all_split ?_ w_codes
  rw [← List.take_append_drop 24 words1, List.all_append, w_t1, w_t2]
  rfl
set_option maxRecDepth 65536 in
theorem w_case : (Jvm.Cond.and given_1 narrow_1).before args0 about1 = true := by decide +kernel
theorem w_applies : (headSpec (Jvm.Cond.code x code maxLocals ret :: tables_1) room_1).applies x e0.platform about1 = true :=
  (Spec.applies_iff w_frames).mpr ⟨w_running, w_runnable, w_alone, w_named, w_hears, w_ripe, w_room, w_tables⟩
theorem atStart : AtStart classFile x code maxLocals ret World_1 tables_1 room_1 Calls_1 rest_1 Pre_1 launch0 p0 e0 about1 theMethod args0 below0 :=
  ⟨lists_1, trivial, launch0.admits_env _ _ _, launch0.least_env, fairChoices_fair.cas, fairChoices_fair.clock, w_frames, w_args, w_heap, w_applies, trivial, trivial, w_case⟩
end start1
theorem witness_1 : WitnessClaimed_1 := ⟨start1.p0, start1.e0, start1.about1, start1.theMethod, start1.args0, start1.below0, start1.atStart⟩
end Jvm.Pilot.@@N@@
