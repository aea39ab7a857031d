import JvmDerived
import JvmDerived.Pilot.@@N@@Statement
import JvmDerived.Pilot.@@N@@Code
set_option linter.unusedVariables false
set_option linter.unusedSimpArgs false

namespace Jvm.RoadKit
open Sem ClassFile Op Lib Jvm.Stand Jvm.Free Jvm.LawKit
section New
variable {p : Program} {l : Launch} {e : Env} {R : Room} {s : State} {m : MethodId} {args : Array Value} {below : List Frame} {meth : Method} {c : Code} {T : State} {locs : List Loc} {cells slots : Nat}
theorem retI (X : Stand p l e R s m args below meth c T locs cells slots) (hx : p.tables.exec = Jvm.exec) {pc : Nat} {Ls : Array Slot} {z : Int32} {rest : List Value} (hret : meth.sig.returnType = some .int) (hd : decode c.code pc = .ok (.ireturn, 1)) {fs : List Frame}
    (hl : ∀ (f : JFrame) (acts : List Action), f.method = m → f.locked = none → f.entered = [] → (doReturn e (T.setTop f) acts (some (.int z))).1 = T.setFrames fs) : Steps p.tables e below (T.setTop (mkF m pc Ls (.int z :: rest))) (T.setFrames fs) :=
  retOut X hx hret rfl (Or.inl ⟨rfl, Or.inl rfl, z, rfl⟩) hd hl
theorem own_retL (X : Stand p l e R s m args below meth c T locs cells slots) (hx : p.tables.exec = Jvm.exec) {pc : Nat} {Ls : Array Slot} {z : Int64} {rest : List Value} (hret : meth.sig.returnType = some .long) (hd : decode c.code pc = .ok (.lreturn, 1)) {fs : List Frame}
    (hl : ∀ (f : JFrame) (acts : List Action), f.method = m → f.locked = none → f.entered = [] → (doReturn e (T.setTop f) acts (some (.long z))).1 = T.setFrames fs) : Steps p.tables e below (T.setTop (mkF m pc Ls (.long z :: rest))) (T.setFrames fs) :=
  retOut X hx hret rfl (Or.inr (Or.inl ⟨rfl, rfl, z, rfl⟩)) hd hl
theorem own_retA (X : Stand p l e R s m args below meth c T locs cells slots) (hx : p.tables.exec = Jvm.exec) {pc : Nat} {Ls : Array Slot} {w : Value} {t : FieldType} {rest : List Value} (hret : meth.sig.returnType = some t) (ht : t.isReference = true) (hw : w.isRef = true) (hd : decode c.code pc = .ok (.areturn, 1)) {fs : List Frame}
    (hl : ∀ (f : JFrame) (acts : List Action), f.method = m → f.locked = none → f.entered = [] → (doReturn e (T.setTop f) acts (some w)).1 = T.setFrames fs) : Steps p.tables e below (T.setTop (mkF m pc Ls (w :: rest))) (T.setFrames fs) :=
  retOut X hx hret (by cases t <;> first | (cases ht; done) | (cases w <;> first | rfl | cases hw)) (Or.inr (Or.inr (Or.inr (Or.inr ⟨rfl, ht, hw⟩)))) hd hl
theorem own_back {tb : Tables} {e : Env} {below : List Frame} {a b : State} {P : State → Outcome → Prop} (h : ∀ t, Steps tb e below b t → Steps tb e below a t) (k : ∃ t o, Steps tb e below b t ∧ P t o) : ∃ t o, Steps tb e below a t ∧ P t o := by
  obtain ⟨t, o, k1, k2⟩ := k
  exact ⟨t, o, h t k1, k2⟩
theorem own_sta_keep {Z : State} {h h' : Heap} {C n d : String} {v : Value} (F : Sta Z h C n d v) (K : Keep h h' []) : Sta Z h' C n d v := by
  obtain ⟨cf, i, k, f, st, cell, h1, h2, h3, h4, h5, r⟩ := F
  exact ⟨cf, i, k, f, st, cell, h1, h2, h3, h4, K.2.1 _ _ h5 nin0, r⟩
def ElA (Z : State) (h : Heap) (a : Addr) (ty : FieldType) (j : Int32) (v : Value) : Prop := ∃ c : Cell, Arr Z h a c ty ∧ ¬ (j < 0 ∨ c.slots.size ≤ j.toNatClampNeg) ∧ c.slots[j.toNatClampNeg]? = some v
theorem ElA.lt {Z : State} {h : Heap} {a : Addr} {ty : FieldType} {j : Int32} {v : Value} (F : ElA Z h a ty j v) : a < h.size := by obtain ⟨c, A, -⟩ := F; exact A.lt
theorem ElA.ext {Z : State} {h h' : Heap} {a : Addr} {ty : FieldType} {j : Int32} {v : Value} (F : ElA Z h a ty j v) (E : Ext h h') : ElA Z h' a ty j v := by obtain ⟨c, A, r⟩ := F; exact ⟨c, A.ext E, r⟩
theorem ElA.other {Z : State} {h h' : Heap} {a b : Addr} {ty : FieldType} {j : Int32} {v w : Value} {sl : Nat} (F : ElA Z h b ty j v) (W : Wr h h' a sl w) (q : b ≠ a) : ElA Z h' b ty j v := by obtain ⟨c, A, r⟩ := F; exact ⟨c, A.other W q, r⟩
theorem ElA.keep {Z : State} {h h' : Heap} {a : Addr} {ty : FieldType} {j : Int32} {v : Value} {ws : List Addr} (F : ElA Z h a ty j v) (K : Keep h h' ws) (q : a ∉ ws) : ElA Z h' a ty j v := by obtain ⟨c, A, r⟩ := F; exact ⟨c, ⟨K.2.1 a c A.1 q, A.2⟩, r⟩
theorem ElA.store {Z : State} {h h' : Heap} {a : Addr} {ty : FieldType} {j : Int32} {v : Value} {c : Cell} (A : Arr Z h a c ty) (hj : ¬ (j < 0 ∨ c.slots.size ≤ j.toNatClampNeg)) (W : Wr h h' a j.toNatClampNeg v) : ElA Z h' a ty j v :=
  ⟨_, A.same W, by rw [sz_set]; exact hj, get_hit hj rfl⟩
theorem own_same {P : Prop} (h : P) : P := h
theorem own_irr (x : Int32) : ¬ x < x := by rw [Int32.lt_iff_toInt_lt]; omega
theorem own_irrL (x : Int64) : ¬ x < x := by rw [Int64.lt_iff_toInt_lt]; omega
end New
end Jvm.RoadKit
namespace Jvm.Pilot.@@N@@
open Jvm Jvm.ClassFile Sem Op Lib Jvm.Free Jvm.Stand Jvm.LawKit Jvm.RoadKit Bundle Jvm.Pilot.@@N@@.Jvm.D

theorem d1_0 : decode method_2_code 0 = .ok (.iload_n 0, 1) := by decide +kernel
theorem d1_1 : decode method_2_code 1 = .ok (.sipush 128, 3) := by decide +kernel
theorem d1_4 : decode method_2_code 4 = .ok (.if_icmp .lt 6, 3) := by decide +kernel
theorem d1_7 : decode method_2_code 7 = .ok (.bipush 7, 2) := by decide +kernel
theorem d1_9 : decode method_2_code 9 = .ok (.ireturn, 1) := by decide +kernel
theorem d1_10 : decode method_2_code 10 = .ok (.iload_n 0, 1) := by decide +kernel
theorem d1_11 : decode method_2_code 11 = .ok (.bipush 64, 2) := by decide +kernel
theorem d1_13 : decode method_2_code 13 = .ok (.if_icmp .lt 6, 3) := by decide +kernel
theorem d1_16 : decode method_2_code 16 = .ok (.bipush 6, 2) := by decide +kernel
theorem d1_18 : decode method_2_code 18 = .ok (.ireturn, 1) := by decide +kernel
theorem d1_19 : decode method_2_code 19 = .ok (.iload_n 0, 1) := by decide +kernel
theorem d1_20 : decode method_2_code 20 = .ok (.bipush 32, 2) := by decide +kernel
theorem d1_22 : decode method_2_code 22 = .ok (.if_icmp .lt 5, 3) := by decide +kernel
theorem d1_25 : decode method_2_code 25 = .ok (.iconst 5, 1) := by decide +kernel
theorem d1_26 : decode method_2_code 26 = .ok (.ireturn, 1) := by decide +kernel
theorem d1_27 : decode method_2_code 27 = .ok (.iload_n 0, 1) := by decide +kernel
theorem d1_28 : decode method_2_code 28 = .ok (.bipush 16, 2) := by decide +kernel
theorem d1_30 : decode method_2_code 30 = .ok (.if_icmp .lt 5, 3) := by decide +kernel
theorem d1_33 : decode method_2_code 33 = .ok (.iconst 4, 1) := by decide +kernel
theorem d1_34 : decode method_2_code 34 = .ok (.ireturn, 1) := by decide +kernel
theorem d1_35 : decode method_2_code 35 = .ok (.iload_n 0, 1) := by decide +kernel
theorem d1_36 : decode method_2_code 36 = .ok (.bipush 8, 2) := by decide +kernel
theorem d1_38 : decode method_2_code 38 = .ok (.if_icmp .lt 5, 3) := by decide +kernel
theorem d1_41 : decode method_2_code 41 = .ok (.iconst 3, 1) := by decide +kernel
theorem d1_42 : decode method_2_code 42 = .ok (.ireturn, 1) := by decide +kernel
theorem d1_43 : decode method_2_code 43 = .ok (.iload_n 0, 1) := by decide +kernel
theorem d1_44 : decode method_2_code 44 = .ok (.iconst 4, 1) := by decide +kernel
theorem d1_45 : decode method_2_code 45 = .ok (.if_icmp .lt 5, 3) := by decide +kernel
theorem d1_48 : decode method_2_code 48 = .ok (.iconst 2, 1) := by decide +kernel
theorem d1_49 : decode method_2_code 49 = .ok (.ireturn, 1) := by decide +kernel
theorem d1_50 : decode method_2_code 50 = .ok (.iload_n 0, 1) := by decide +kernel
theorem d1_51 : decode method_2_code 51 = .ok (.iconst 2, 1) := by decide +kernel
theorem d1_52 : decode method_2_code 52 = .ok (.if_icmp .lt 5, 3) := by decide +kernel
theorem d1_55 : decode method_2_code 55 = .ok (.iconst 1, 1) := by decide +kernel
theorem d1_56 : decode method_2_code 56 = .ok (.ireturn, 1) := by decide +kernel
theorem d1_57 : decode method_2_code 57 = .ok (.iconst 0, 1) := by decide +kernel
theorem d1_58 : decode method_2_code 58 = .ok (.ireturn, 1) := by decide +kernel
theorem pn_1 : plainName "com/example/urial/urial/protocol/BackwardBitReaderOverflowedPinLaw" = true := by first | (simp [plainName, overriddenIn]; done) | decide +kernel
theorem ef_1 (m : MethodId) (x0 : Int32) : entryFrame m #[(.int x0)] 1 = mkF m 0 #[.val (.int x0)] [] := by first | (simp [entryFrame, mkF, argsToLocals, Value.category]; done) | rfl
def f1 (p0 : Int32) : Int32 := (if p0 < (128 : Int32) then (if p0 < (64 : Int32) then (if p0 < (32 : Int32) then (if p0 < (16 : Int32) then (if p0 < (8 : Int32) then (if p0 < (4 : Int32) then (if p0 < (2 : Int32) then (0 : Int32) else (1 : Int32)) else (2 : Int32)) else (3 : Int32)) else (4 : Int32)) else (5 : Int32)) else (6 : Int32)) else (7 : Int32))
def Q1 (Z : State) (p0 : Int32) (h0 : Heap) (n0 : Nat) (v : Option Value) (h : Heap) (L : List Loc) : Prop := v = some (.int (f1 p0)) ∧ Fr n0 L ∧ h = h0
set_option maxRecDepth 65536 in
set_option maxHeartbeats 40000000 in
theorem rm1 (l : Launch) (Z : State) (aw : Array Value) (hw : ∀ d ∈ tables_1, d.before aw Z = true) (ws : List Jvm.Cond) (p0 : Int32) (h0 : Heap) (n0 : Nat) (Z0 : n0 ≤ h0.size) :
    MetFree l (⟨"com/example/urial/urial/protocol/BackwardBitReaderOverflowedPinLaw", "highBit", "(I)I"⟩ : MethodName) (head1 (Jvm.Cond.code (⟨"com/example/urial/urial/protocol/BackwardBitReaderOverflowedPinLaw", "highBit", "(I)I"⟩ : MethodName) method_2_code 1 (some .int) :: ws) ({ frames := 0, cells := 0, slots := 0, locals := 0 } : Room)) (fun a U => a = #[(.int p0)] ∧ Z.Warmed39 U.vm ∧ U.heap = h0) (fun _ _ _ _ _ => True) (fun _ U o U' => ∃ v L, o = .returned v ∧ Q1 Z p0 h0 n0 v U'.heap L ∧ FrameEnd U o U' L ({ frames := 0, cells := 0, slots := 0, locals := 0 } : Room).cells ({ frames := 0, cells := 0, slots := 0, locals := 0 } : Room).slots) := by
  refine MetFree.of_bodySF (plainFor_of_name pn_1) hisR ?_
  intro p e s m args below meth c s₁ Bd hml0 hP hK
  obtain ⟨rfl, hZ, hh⟩ := hP
  have hx := Bd.exec
  have hby := Bd.bytes
  have hml : c.maxLocals = 1 := hml0
  have hown : s.vm.findClass "com/example/urial/urial/protocol/BackwardBitReaderOverflowedPinLaw" = some m.cls := findClass_of_methodNamed Bd.named
  have hnm := (name_of_methodNamed Bd.named Bd.method).1
  have X0 : Stand p l e ({ frames := 0, cells := 0, slots := 0, locals := 0 } : Room) s m #[(.int p0)] below meth c s₁ [] 0 0 := Stand.of_body Bd
  have e0 : s₁.heap = h0 := by rw [← hh, Bd.state]; rfl
  have N0 := Fr.nil n0
  refine own_back (b := s₁.setTop (mkF m 0 #[.val (.int p0)] [])) (fun t kt => castTop (ef_1 m p0) kt) ?_
  refine own_back (b := s₁.setTop (mkF m 4 #[.val (.int p0)] [(.int (128 : Int32)), (.int p0)])) (fun t kt => ?_) ?_
  · show Steps p.tables e below (s₁.setTop (mkF m 0 #[.val (.int p0)] [])) _
    refine XS.iloadN X0.here hx rfl (hb hby d1_0) rfl ?_
    show Steps p.tables e below (s₁.setTop (mkF m 1 #[.val (.int p0)] [(.int p0)])) _
    refine XS.sipush X0.here hx rfl (hb hby d1_1) ?_
    exact kt
  by_cases hc4_1 : p0 < (128 : Int32)
  · refine own_back (b := s₁.setTop (mkF m 13 #[.val (.int p0)] [(.int (64 : Int32)), (.int p0)])) (fun t kt => ?_) ?_
    · show Steps p.tables e below (s₁.setTop (mkF m 4 #[.val (.int p0)] [(.int (128 : Int32)), (.int p0)])) _
      refine XS.icmpYes X0.here hx rfl (pc0 := 4) (pc' := 10) rfl (hb hby d1_4) rfl (tlt hc4_1).1 (by decide) (by decide) ?_
      show Steps p.tables e below (s₁.setTop (mkF m 10 #[.val (.int p0)] [])) _
      refine XS.iloadN X0.here hx rfl (hb hby d1_10) rfl ?_
      show Steps p.tables e below (s₁.setTop (mkF m 11 #[.val (.int p0)] [(.int p0)])) _
      refine XS.bipush X0.here hx rfl (hb hby d1_11) ?_
      exact kt
    by_cases hc13_2 : p0 < (64 : Int32)
    · refine own_back (b := s₁.setTop (mkF m 22 #[.val (.int p0)] [(.int (32 : Int32)), (.int p0)])) (fun t kt => ?_) ?_
      · show Steps p.tables e below (s₁.setTop (mkF m 13 #[.val (.int p0)] [(.int (64 : Int32)), (.int p0)])) _
        refine XS.icmpYes X0.here hx rfl (pc0 := 13) (pc' := 19) rfl (hb hby d1_13) rfl (tlt hc13_2).1 (by decide) (by decide) ?_
        show Steps p.tables e below (s₁.setTop (mkF m 19 #[.val (.int p0)] [])) _
        refine XS.iloadN X0.here hx rfl (hb hby d1_19) rfl ?_
        show Steps p.tables e below (s₁.setTop (mkF m 20 #[.val (.int p0)] [(.int p0)])) _
        refine XS.bipush X0.here hx rfl (hb hby d1_20) ?_
        exact kt
      by_cases hc22_3 : p0 < (32 : Int32)
      · refine own_back (b := s₁.setTop (mkF m 30 #[.val (.int p0)] [(.int (16 : Int32)), (.int p0)])) (fun t kt => ?_) ?_
        · show Steps p.tables e below (s₁.setTop (mkF m 22 #[.val (.int p0)] [(.int (32 : Int32)), (.int p0)])) _
          refine XS.icmpYes X0.here hx rfl (pc0 := 22) (pc' := 27) rfl (hb hby d1_22) rfl (tlt hc22_3).1 (by decide) (by decide) ?_
          show Steps p.tables e below (s₁.setTop (mkF m 27 #[.val (.int p0)] [])) _
          refine XS.iloadN X0.here hx rfl (hb hby d1_27) rfl ?_
          show Steps p.tables e below (s₁.setTop (mkF m 28 #[.val (.int p0)] [(.int p0)])) _
          refine XS.bipush X0.here hx rfl (hb hby d1_28) ?_
          exact kt
        by_cases hc30_4 : p0 < (16 : Int32)
        · refine own_back (b := s₁.setTop (mkF m 38 #[.val (.int p0)] [(.int (8 : Int32)), (.int p0)])) (fun t kt => ?_) ?_
          · show Steps p.tables e below (s₁.setTop (mkF m 30 #[.val (.int p0)] [(.int (16 : Int32)), (.int p0)])) _
            refine XS.icmpYes X0.here hx rfl (pc0 := 30) (pc' := 35) rfl (hb hby d1_30) rfl (tlt hc30_4).1 (by decide) (by decide) ?_
            show Steps p.tables e below (s₁.setTop (mkF m 35 #[.val (.int p0)] [])) _
            refine XS.iloadN X0.here hx rfl (hb hby d1_35) rfl ?_
            show Steps p.tables e below (s₁.setTop (mkF m 36 #[.val (.int p0)] [(.int p0)])) _
            refine XS.bipush X0.here hx rfl (hb hby d1_36) ?_
            exact kt
          by_cases hc38_5 : p0 < (8 : Int32)
          · refine own_back (b := s₁.setTop (mkF m 45 #[.val (.int p0)] [(.int (4 : Int32)), (.int p0)])) (fun t kt => ?_) ?_
            · show Steps p.tables e below (s₁.setTop (mkF m 38 #[.val (.int p0)] [(.int (8 : Int32)), (.int p0)])) _
              refine XS.icmpYes X0.here hx rfl (pc0 := 38) (pc' := 43) rfl (hb hby d1_38) rfl (tlt hc38_5).1 (by decide) (by decide) ?_
              show Steps p.tables e below (s₁.setTop (mkF m 43 #[.val (.int p0)] [])) _
              refine XS.iloadN X0.here hx rfl (hb hby d1_43) rfl ?_
              show Steps p.tables e below (s₁.setTop (mkF m 44 #[.val (.int p0)] [(.int p0)])) _
              refine XS.iconst X0.here hx rfl (hb hby d1_44) ?_
              exact kt
            by_cases hc45_6 : p0 < (4 : Int32)
            · refine own_back (b := s₁.setTop (mkF m 52 #[.val (.int p0)] [(.int (2 : Int32)), (.int p0)])) (fun t kt => ?_) ?_
              · show Steps p.tables e below (s₁.setTop (mkF m 45 #[.val (.int p0)] [(.int (4 : Int32)), (.int p0)])) _
                refine XS.icmpYes X0.here hx rfl (pc0 := 45) (pc' := 50) rfl (hb hby d1_45) rfl (tlt hc45_6).1 (by decide) (by decide) ?_
                show Steps p.tables e below (s₁.setTop (mkF m 50 #[.val (.int p0)] [])) _
                refine XS.iloadN X0.here hx rfl (hb hby d1_50) rfl ?_
                show Steps p.tables e below (s₁.setTop (mkF m 51 #[.val (.int p0)] [(.int p0)])) _
                refine XS.iconst X0.here hx rfl (hb hby d1_51) ?_
                exact kt
              by_cases hc52_7 : p0 < (2 : Int32)
              · refine own_back (b := s₁.setTop (mkF m 58 #[.val (.int p0)] [(.int (0 : Int32))])) (fun t kt => ?_) ?_
                · show Steps p.tables e below (s₁.setTop (mkF m 52 #[.val (.int p0)] [(.int (2 : Int32)), (.int p0)])) _
                  refine XS.icmpYes X0.here hx rfl (pc0 := 52) (pc' := 57) rfl (hb hby d1_52) rfl (tlt hc52_7).1 (by decide) (by decide) ?_
                  show Steps p.tables e below (s₁.setTop (mkF m 57 #[.val (.int p0)] [])) _
                  refine XS.iconst X0.here hx rfl (hb hby d1_57) ?_
                  exact kt
                obtain ⟨fs, hr, hrun, hended, hW, hsame⟩ := X0.leave (v := some (.int (0 : Int32))) (fun h => by rw [Bd.returns] at h; cases h) (BodyLoose.notSynchronized Bd)
                refine ⟨_, _, ?_, hrun, hended, _, _, rfl, ?_, ⟨_, rfl⟩, hW, hsame.mono (by decide) (by decide)⟩
                · show Steps p.tables e below (s₁.setTop (mkF m 58 #[.val (.int p0)] [(.int (0 : Int32))])) _
                  exact retI X0 hx Bd.returns (hb hby d1_58) hr
                · show Q1 Z p0 h0 n0 _ s₁.heap _
                  rw [e0]
                  exact ⟨by rw [show f1 p0 = (0 : Int32) from by unfold f1; rw [if_pos hc4_1, if_pos hc13_2, if_pos hc22_3, if_pos hc30_4, if_pos hc38_5, if_pos hc45_6, if_pos hc52_7]], N0, rfl⟩
              · refine own_back (b := s₁.setTop (mkF m 56 #[.val (.int p0)] [(.int (1 : Int32))])) (fun t kt => ?_) ?_
                · show Steps p.tables e below (s₁.setTop (mkF m 52 #[.val (.int p0)] [(.int (2 : Int32)), (.int p0)])) _
                  refine XS.icmpNo X0.here hx rfl (hb hby d1_52) rfl (flt hc52_7).1 ?_
                  show Steps p.tables e below (s₁.setTop (mkF m 55 #[.val (.int p0)] [])) _
                  refine XS.iconst X0.here hx rfl (hb hby d1_55) ?_
                  exact kt
                obtain ⟨fs, hr, hrun, hended, hW, hsame⟩ := X0.leave (v := some (.int (1 : Int32))) (fun h => by rw [Bd.returns] at h; cases h) (BodyLoose.notSynchronized Bd)
                refine ⟨_, _, ?_, hrun, hended, _, _, rfl, ?_, ⟨_, rfl⟩, hW, hsame.mono (by decide) (by decide)⟩
                · show Steps p.tables e below (s₁.setTop (mkF m 56 #[.val (.int p0)] [(.int (1 : Int32))])) _
                  exact retI X0 hx Bd.returns (hb hby d1_56) hr
                · show Q1 Z p0 h0 n0 _ s₁.heap _
                  rw [e0]
                  exact ⟨by rw [show f1 p0 = (1 : Int32) from by unfold f1; rw [if_pos hc4_1, if_pos hc13_2, if_pos hc22_3, if_pos hc30_4, if_pos hc38_5, if_pos hc45_6, if_neg hc52_7]], N0, rfl⟩
            · refine own_back (b := s₁.setTop (mkF m 49 #[.val (.int p0)] [(.int (2 : Int32))])) (fun t kt => ?_) ?_
              · show Steps p.tables e below (s₁.setTop (mkF m 45 #[.val (.int p0)] [(.int (4 : Int32)), (.int p0)])) _
                refine XS.icmpNo X0.here hx rfl (hb hby d1_45) rfl (flt hc45_6).1 ?_
                show Steps p.tables e below (s₁.setTop (mkF m 48 #[.val (.int p0)] [])) _
                refine XS.iconst X0.here hx rfl (hb hby d1_48) ?_
                exact kt
              obtain ⟨fs, hr, hrun, hended, hW, hsame⟩ := X0.leave (v := some (.int (2 : Int32))) (fun h => by rw [Bd.returns] at h; cases h) (BodyLoose.notSynchronized Bd)
              refine ⟨_, _, ?_, hrun, hended, _, _, rfl, ?_, ⟨_, rfl⟩, hW, hsame.mono (by decide) (by decide)⟩
              · show Steps p.tables e below (s₁.setTop (mkF m 49 #[.val (.int p0)] [(.int (2 : Int32))])) _
                exact retI X0 hx Bd.returns (hb hby d1_49) hr
              · show Q1 Z p0 h0 n0 _ s₁.heap _
                rw [e0]
                exact ⟨by rw [show f1 p0 = (2 : Int32) from by unfold f1; rw [if_pos hc4_1, if_pos hc13_2, if_pos hc22_3, if_pos hc30_4, if_pos hc38_5, if_neg hc45_6]], N0, rfl⟩
          · refine own_back (b := s₁.setTop (mkF m 42 #[.val (.int p0)] [(.int (3 : Int32))])) (fun t kt => ?_) ?_
            · show Steps p.tables e below (s₁.setTop (mkF m 38 #[.val (.int p0)] [(.int (8 : Int32)), (.int p0)])) _
              refine XS.icmpNo X0.here hx rfl (hb hby d1_38) rfl (flt hc38_5).1 ?_
              show Steps p.tables e below (s₁.setTop (mkF m 41 #[.val (.int p0)] [])) _
              refine XS.iconst X0.here hx rfl (hb hby d1_41) ?_
              exact kt
            obtain ⟨fs, hr, hrun, hended, hW, hsame⟩ := X0.leave (v := some (.int (3 : Int32))) (fun h => by rw [Bd.returns] at h; cases h) (BodyLoose.notSynchronized Bd)
            refine ⟨_, _, ?_, hrun, hended, _, _, rfl, ?_, ⟨_, rfl⟩, hW, hsame.mono (by decide) (by decide)⟩
            · show Steps p.tables e below (s₁.setTop (mkF m 42 #[.val (.int p0)] [(.int (3 : Int32))])) _
              exact retI X0 hx Bd.returns (hb hby d1_42) hr
            · show Q1 Z p0 h0 n0 _ s₁.heap _
              rw [e0]
              exact ⟨by rw [show f1 p0 = (3 : Int32) from by unfold f1; rw [if_pos hc4_1, if_pos hc13_2, if_pos hc22_3, if_pos hc30_4, if_neg hc38_5]], N0, rfl⟩
        · refine own_back (b := s₁.setTop (mkF m 34 #[.val (.int p0)] [(.int (4 : Int32))])) (fun t kt => ?_) ?_
          · show Steps p.tables e below (s₁.setTop (mkF m 30 #[.val (.int p0)] [(.int (16 : Int32)), (.int p0)])) _
            refine XS.icmpNo X0.here hx rfl (hb hby d1_30) rfl (flt hc30_4).1 ?_
            show Steps p.tables e below (s₁.setTop (mkF m 33 #[.val (.int p0)] [])) _
            refine XS.iconst X0.here hx rfl (hb hby d1_33) ?_
            exact kt
          obtain ⟨fs, hr, hrun, hended, hW, hsame⟩ := X0.leave (v := some (.int (4 : Int32))) (fun h => by rw [Bd.returns] at h; cases h) (BodyLoose.notSynchronized Bd)
          refine ⟨_, _, ?_, hrun, hended, _, _, rfl, ?_, ⟨_, rfl⟩, hW, hsame.mono (by decide) (by decide)⟩
          · show Steps p.tables e below (s₁.setTop (mkF m 34 #[.val (.int p0)] [(.int (4 : Int32))])) _
            exact retI X0 hx Bd.returns (hb hby d1_34) hr
          · show Q1 Z p0 h0 n0 _ s₁.heap _
            rw [e0]
            exact ⟨by rw [show f1 p0 = (4 : Int32) from by unfold f1; rw [if_pos hc4_1, if_pos hc13_2, if_pos hc22_3, if_neg hc30_4]], N0, rfl⟩
      · refine own_back (b := s₁.setTop (mkF m 26 #[.val (.int p0)] [(.int (5 : Int32))])) (fun t kt => ?_) ?_
        · show Steps p.tables e below (s₁.setTop (mkF m 22 #[.val (.int p0)] [(.int (32 : Int32)), (.int p0)])) _
          refine XS.icmpNo X0.here hx rfl (hb hby d1_22) rfl (flt hc22_3).1 ?_
          show Steps p.tables e below (s₁.setTop (mkF m 25 #[.val (.int p0)] [])) _
          refine XS.iconst X0.here hx rfl (hb hby d1_25) ?_
          exact kt
        obtain ⟨fs, hr, hrun, hended, hW, hsame⟩ := X0.leave (v := some (.int (5 : Int32))) (fun h => by rw [Bd.returns] at h; cases h) (BodyLoose.notSynchronized Bd)
        refine ⟨_, _, ?_, hrun, hended, _, _, rfl, ?_, ⟨_, rfl⟩, hW, hsame.mono (by decide) (by decide)⟩
        · show Steps p.tables e below (s₁.setTop (mkF m 26 #[.val (.int p0)] [(.int (5 : Int32))])) _
          exact retI X0 hx Bd.returns (hb hby d1_26) hr
        · show Q1 Z p0 h0 n0 _ s₁.heap _
          rw [e0]
          exact ⟨by rw [show f1 p0 = (5 : Int32) from by unfold f1; rw [if_pos hc4_1, if_pos hc13_2, if_neg hc22_3]], N0, rfl⟩
    · refine own_back (b := s₁.setTop (mkF m 18 #[.val (.int p0)] [(.int (6 : Int32))])) (fun t kt => ?_) ?_
      · show Steps p.tables e below (s₁.setTop (mkF m 13 #[.val (.int p0)] [(.int (64 : Int32)), (.int p0)])) _
        refine XS.icmpNo X0.here hx rfl (hb hby d1_13) rfl (flt hc13_2).1 ?_
        show Steps p.tables e below (s₁.setTop (mkF m 16 #[.val (.int p0)] [])) _
        refine XS.bipush X0.here hx rfl (hb hby d1_16) ?_
        exact kt
      obtain ⟨fs, hr, hrun, hended, hW, hsame⟩ := X0.leave (v := some (.int (6 : Int32))) (fun h => by rw [Bd.returns] at h; cases h) (BodyLoose.notSynchronized Bd)
      refine ⟨_, _, ?_, hrun, hended, _, _, rfl, ?_, ⟨_, rfl⟩, hW, hsame.mono (by decide) (by decide)⟩
      · show Steps p.tables e below (s₁.setTop (mkF m 18 #[.val (.int p0)] [(.int (6 : Int32))])) _
        exact retI X0 hx Bd.returns (hb hby d1_18) hr
      · show Q1 Z p0 h0 n0 _ s₁.heap _
        rw [e0]
        exact ⟨by rw [show f1 p0 = (6 : Int32) from by unfold f1; rw [if_pos hc4_1, if_neg hc13_2]], N0, rfl⟩
  · refine own_back (b := s₁.setTop (mkF m 9 #[.val (.int p0)] [(.int (7 : Int32))])) (fun t kt => ?_) ?_
    · show Steps p.tables e below (s₁.setTop (mkF m 4 #[.val (.int p0)] [(.int (128 : Int32)), (.int p0)])) _
      refine XS.icmpNo X0.here hx rfl (hb hby d1_4) rfl (flt hc4_1).1 ?_
      show Steps p.tables e below (s₁.setTop (mkF m 7 #[.val (.int p0)] [])) _
      refine XS.bipush X0.here hx rfl (hb hby d1_7) ?_
      exact kt
    obtain ⟨fs, hr, hrun, hended, hW, hsame⟩ := X0.leave (v := some (.int (7 : Int32))) (fun h => by rw [Bd.returns] at h; cases h) (BodyLoose.notSynchronized Bd)
    refine ⟨_, _, ?_, hrun, hended, _, _, rfl, ?_, ⟨_, rfl⟩, hW, hsame.mono (by decide) (by decide)⟩
    · show Steps p.tables e below (s₁.setTop (mkF m 9 #[.val (.int p0)] [(.int (7 : Int32))])) _
      exact retI X0 hx Bd.returns (hb hby d1_9) hr
    · show Q1 Z p0 h0 n0 _ s₁.heap _
      rw [e0]
      exact ⟨by rw [show f1 p0 = (7 : Int32) from by unfold f1; rw [if_neg hc4_1]], N0, rfl⟩
theorem d4_0 : decode jdk_33_method_47_code 0 = .ok (.iload_n 0, 1) := by decide +kernel
theorem d4_1 : decode jdk_33_method_47_code 1 = .ok (.ifCond .gt 14, 3) := by decide +kernel
theorem d4_4 : decode jdk_33_method_47_code 4 = .ok (.iload_n 0, 1) := by decide +kernel
theorem d4_5 : decode jdk_33_method_47_code 5 = .ok (.ifCond .ne 8, 3) := by decide +kernel
theorem d4_8 : decode jdk_33_method_47_code 8 = .ok (.bipush 32, 2) := by decide +kernel
theorem d4_10 : decode jdk_33_method_47_code 10 = .ok (.goto 4, 3) := by decide +kernel
theorem d4_13 : decode jdk_33_method_47_code 13 = .ok (.iconst 0, 1) := by decide +kernel
theorem d4_14 : decode jdk_33_method_47_code 14 = .ok (.ireturn, 1) := by decide +kernel
theorem d4_15 : decode jdk_33_method_47_code 15 = .ok (.bipush 31, 2) := by decide +kernel
theorem d4_17 : decode jdk_33_method_47_code 17 = .ok (.istore_n 1, 1) := by decide +kernel
theorem d4_18 : decode jdk_33_method_47_code 18 = .ok (.iload_n 0, 1) := by decide +kernel
theorem d4_19 : decode jdk_33_method_47_code 19 = .ok (.ldc_w 264, 3) := by decide +kernel
theorem d4_22 : decode jdk_33_method_47_code 22 = .ok (.if_icmp .lt 11, 3) := by decide +kernel
theorem d4_25 : decode jdk_33_method_47_code 25 = .ok (.iinc 1 (-16), 3) := by decide +kernel
theorem d4_28 : decode jdk_33_method_47_code 28 = .ok (.iload_n 0, 1) := by decide +kernel
theorem d4_29 : decode jdk_33_method_47_code 29 = .ok (.bipush 16, 2) := by decide +kernel
theorem d4_31 : decode jdk_33_method_47_code 31 = .ok (.iushr, 1) := by decide +kernel
theorem d4_32 : decode jdk_33_method_47_code 32 = .ok (.istore_n 0, 1) := by decide +kernel
theorem d4_33 : decode jdk_33_method_47_code 33 = .ok (.iload_n 0, 1) := by decide +kernel
theorem d4_34 : decode jdk_33_method_47_code 34 = .ok (.sipush 256, 3) := by decide +kernel
theorem d4_37 : decode jdk_33_method_47_code 37 = .ok (.if_icmp .lt 11, 3) := by decide +kernel
theorem d4_40 : decode jdk_33_method_47_code 40 = .ok (.iinc 1 (-8), 3) := by decide +kernel
theorem d4_43 : decode jdk_33_method_47_code 43 = .ok (.iload_n 0, 1) := by decide +kernel
theorem d4_44 : decode jdk_33_method_47_code 44 = .ok (.bipush 8, 2) := by decide +kernel
theorem d4_46 : decode jdk_33_method_47_code 46 = .ok (.iushr, 1) := by decide +kernel
theorem d4_47 : decode jdk_33_method_47_code 47 = .ok (.istore_n 0, 1) := by decide +kernel
theorem d4_48 : decode jdk_33_method_47_code 48 = .ok (.iload_n 0, 1) := by decide +kernel
theorem d4_49 : decode jdk_33_method_47_code 49 = .ok (.bipush 16, 2) := by decide +kernel
theorem d4_51 : decode jdk_33_method_47_code 51 = .ok (.if_icmp .lt 10, 3) := by decide +kernel
theorem d4_54 : decode jdk_33_method_47_code 54 = .ok (.iinc 1 (-4), 3) := by decide +kernel
theorem d4_57 : decode jdk_33_method_47_code 57 = .ok (.iload_n 0, 1) := by decide +kernel
theorem d4_58 : decode jdk_33_method_47_code 58 = .ok (.iconst 4, 1) := by decide +kernel
theorem d4_59 : decode jdk_33_method_47_code 59 = .ok (.iushr, 1) := by decide +kernel
theorem d4_60 : decode jdk_33_method_47_code 60 = .ok (.istore_n 0, 1) := by decide +kernel
theorem d4_61 : decode jdk_33_method_47_code 61 = .ok (.iload_n 0, 1) := by decide +kernel
theorem d4_62 : decode jdk_33_method_47_code 62 = .ok (.iconst 4, 1) := by decide +kernel
theorem d4_63 : decode jdk_33_method_47_code 63 = .ok (.if_icmp .lt 10, 3) := by decide +kernel
theorem d4_66 : decode jdk_33_method_47_code 66 = .ok (.iinc 1 (-2), 3) := by decide +kernel
theorem d4_69 : decode jdk_33_method_47_code 69 = .ok (.iload_n 0, 1) := by decide +kernel
theorem d4_70 : decode jdk_33_method_47_code 70 = .ok (.iconst 2, 1) := by decide +kernel
theorem d4_71 : decode jdk_33_method_47_code 71 = .ok (.iushr, 1) := by decide +kernel
theorem d4_72 : decode jdk_33_method_47_code 72 = .ok (.istore_n 0, 1) := by decide +kernel
theorem d4_73 : decode jdk_33_method_47_code 73 = .ok (.iload_n 1, 1) := by decide +kernel
theorem d4_74 : decode jdk_33_method_47_code 74 = .ok (.iload_n 0, 1) := by decide +kernel
theorem d4_75 : decode jdk_33_method_47_code 75 = .ok (.iconst 1, 1) := by decide +kernel
theorem d4_76 : decode jdk_33_method_47_code 76 = .ok (.iushr, 1) := by decide +kernel
theorem d4_77 : decode jdk_33_method_47_code 77 = .ok (.isub, 1) := by decide +kernel
theorem d4_78 : decode jdk_33_method_47_code 78 = .ok (.ireturn, 1) := by decide +kernel
theorem pn_4 : plainName "java/lang/Integer" = true := by first | (simp [plainName, overriddenIn]; done) | decide +kernel
theorem ef_4 (m : MethodId) (x0 : Int32) : entryFrame m #[(.int x0)] 2 = mkF m 0 #[.val (.int x0), .unset] [] := by first | (simp [entryFrame, mkF, argsToLocals, Value.category]; done) | rfl
def m4_0 (p0 : Int32) : Int32 := (if p0 < (65536 : Int32) then p0 else ((p0.toUInt32 >>> ((16 : Int32) &&& 31).toUInt32).toInt32))
def m4_1 (p0 : Int32) : Int32 := (if p0 < (65536 : Int32) then (31 : Int32) else ((31 : Int32) + (-16 : Int32)))
def m4_2 (p0 : Int32) : Int32 := (if (m4_0 p0) < (256 : Int32) then (m4_0 p0) else (((m4_0 p0).toUInt32 >>> ((8 : Int32) &&& 31).toUInt32).toInt32))
def m4_3 (p0 : Int32) : Int32 := (if (m4_0 p0) < (256 : Int32) then (m4_1 p0) else ((m4_1 p0) + (-8 : Int32)))
def m4_4 (p0 : Int32) : Int32 := (if (m4_2 p0) < (16 : Int32) then (m4_2 p0) else (((m4_2 p0).toUInt32 >>> ((4 : Int32) &&& 31).toUInt32).toInt32))
def m4_5 (p0 : Int32) : Int32 := (if (m4_2 p0) < (16 : Int32) then (m4_3 p0) else ((m4_3 p0) + (-4 : Int32)))
def m4_6 (p0 : Int32) : Int32 := (if (m4_4 p0) < (4 : Int32) then (m4_4 p0) else (((m4_4 p0).toUInt32 >>> ((2 : Int32) &&& 31).toUInt32).toInt32))
def m4_7 (p0 : Int32) : Int32 := (if (m4_4 p0) < (4 : Int32) then (m4_5 p0) else ((m4_5 p0) + (-2 : Int32)))
def f4 (p0 : Int32) : Int32 := (if (0 : Int32) < p0 then ((m4_7 p0) - (((m4_6 p0).toUInt32 >>> ((1 : Int32) &&& 31).toUInt32).toInt32)) else (if p0 = (0 : Int32) then (32 : Int32) else (0 : Int32)))
def Q4 (Z : State) (p0 : Int32) (h0 : Heap) (n0 : Nat) (v : Option Value) (h : Heap) (L : List Loc) : Prop := v = some (.int (f4 p0)) ∧ Fr n0 L ∧ h = h0
set_option maxRecDepth 65536 in
set_option maxHeartbeats 40000000 in
theorem rm4 (l : Launch) (Z : State) (aw : Array Value) (hw : ∀ d ∈ tables_1, d.before aw Z = true) (ws : List Jvm.Cond) (p0 : Int32) (h0 : Heap) (n0 : Nat) (Z0 : n0 ≤ h0.size) :
    MetFree l (⟨"java/lang/Integer", "numberOfLeadingZeros", "(I)I"⟩ : MethodName) (head1 (Jvm.Cond.code (⟨"java/lang/Integer", "numberOfLeadingZeros", "(I)I"⟩ : MethodName) jdk_33_method_47_code 2 (some .int) :: ws) ({ frames := 0, cells := 0, slots := 0, locals := 0 } : Room)) (fun a U => a = #[(.int p0)] ∧ Z.Warmed39 U.vm ∧ U.heap = h0) (fun _ _ _ _ _ => True) (fun _ U o U' => ∃ v L, o = .returned v ∧ Q4 Z p0 h0 n0 v U'.heap L ∧ FrameEnd U o U' L ({ frames := 0, cells := 0, slots := 0, locals := 0 } : Room).cells ({ frames := 0, cells := 0, slots := 0, locals := 0 } : Room).slots) := by
  refine MetFree.of_bodySF (plainFor_of_name pn_4) hisR ?_
  intro p e s m args below meth c s₁ Bd hml0 hP hK
  obtain ⟨rfl, hZ, hh⟩ := hP
  have hx := Bd.exec
  have hby := Bd.bytes
  have hml : c.maxLocals = 2 := hml0
  have hown : s.vm.findClass "java/lang/Integer" = some m.cls := findClass_of_methodNamed Bd.named
  have hnm := (name_of_methodNamed Bd.named Bd.method).1
  have X0 : Stand p l e ({ frames := 0, cells := 0, slots := 0, locals := 0 } : Room) s m #[(.int p0)] below meth c s₁ [] 0 0 := Stand.of_body Bd
  have e0 : s₁.heap = h0 := by rw [← hh, Bd.state]; rfl
  have N0 := Fr.nil n0
  refine own_back (b := s₁.setTop (mkF m 0 #[.val (.int p0), .unset] [])) (fun t kt => castTop (ef_4 m p0) kt) ?_
  refine own_back (b := s₁.setTop (mkF m 1 #[.val (.int p0), .unset] [(.int p0)])) (fun t kt => ?_) ?_
  · show Steps p.tables e below (s₁.setTop (mkF m 0 #[.val (.int p0), .unset] [])) _
    refine XS.iloadN X0.here hx rfl (hb hby d4_0) rfl ?_
    exact kt
  by_cases hc1_1 : (0 : Int32) < p0
  · refine own_back (b := s₁.setTop (mkF m 22 #[.val (.int p0), .val (.int (31 : Int32))] [(.int (65536 : Int32)), (.int p0)])) (fun t kt => ?_) ?_
    · show Steps p.tables e below (s₁.setTop (mkF m 1 #[.val (.int p0), .unset] [(.int p0)])) _
      refine XS.ifYes X0.here hx rfl (pc0 := 1) (pc' := 15) rfl (hb hby d4_1) rfl ((if0 _ _).trans (tlt hc1_1).2.2.1) (by decide) (by decide) ?_
      show Steps p.tables e below (s₁.setTop (mkF m 15 #[.val (.int p0), .unset] [])) _
      refine XS.bipush X0.here hx rfl (hb hby d4_15) ?_
      show Steps p.tables e below (s₁.setTop (mkF m 17 #[.val (.int p0), .unset] [(.int (31 : Int32))])) _
      refine XS.istoreN X0.here hx rfl (hb hby d4_17) rfl (l' := #[.val (.int p0), .val (.int (31 : Int32))]) rfl ?_
      show Steps p.tables e below (s₁.setTop (mkF m 18 #[.val (.int p0), .val (.int (31 : Int32))] [])) _
      refine XS.iloadN X0.here hx rfl (hb hby d4_18) rfl ?_
      show Steps p.tables e below (s₁.setTop (mkF m 19 #[.val (.int p0), .val (.int (31 : Int32))] [(.int p0)])) _
      refine X0.ldcwInt hx hown (mvT hZ (hw _ (List.mem_of_getElem? (i := 27) rfl))) (g := (mkF m 19 #[.val (.int p0), .val (.int (31 : Int32))] [(.int p0)])) rfl (hb hby d4_19) _ ?_
      exact kt
    refine own_back (b := s₁.setTop (mkF m 33 #[.val (.int (m4_0 p0)), .val (.int (m4_1 p0))] [])) (fun t kt => ?_) ?_
    · by_cases hm22_2 : p0 < (65536 : Int32)
      · rw [show (m4_0 p0) = p0 from by unfold m4_0; rw [if_pos hm22_2]] at kt
        rw [show (m4_1 p0) = (31 : Int32) from by unfold m4_1; rw [if_pos hm22_2]] at kt
        show Steps p.tables e below (s₁.setTop (mkF m 22 #[.val (.int p0), .val (.int (31 : Int32))] [(.int (65536 : Int32)), (.int p0)])) _
        refine XS.icmpYes X0.here hx rfl (pc0 := 22) (pc' := 33) rfl (hb hby d4_22) rfl (tlt hm22_2).1 (by decide) (by decide) ?_
        exact kt
      · rw [show (m4_0 p0) = ((p0.toUInt32 >>> ((16 : Int32) &&& 31).toUInt32).toInt32) from by unfold m4_0; rw [if_neg hm22_2]] at kt
        rw [show (m4_1 p0) = ((31 : Int32) + (-16 : Int32)) from by unfold m4_1; rw [if_neg hm22_2]] at kt
        show Steps p.tables e below (s₁.setTop (mkF m 22 #[.val (.int p0), .val (.int (31 : Int32))] [(.int (65536 : Int32)), (.int p0)])) _
        refine XS.icmpNo X0.here hx rfl (hb hby d4_22) rfl (flt hm22_2).1 ?_
        show Steps p.tables e below (s₁.setTop (mkF m 25 #[.val (.int p0), .val (.int (31 : Int32))] [])) _
        refine XS.iinc X0.here hx rfl (hb hby d4_25) rfl (l' := #[.val (.int p0), .val (.int ((31 : Int32) + (-16 : Int32)))]) rfl ?_
        show Steps p.tables e below (s₁.setTop (mkF m 28 #[.val (.int p0), .val (.int ((31 : Int32) + (-16 : Int32)))] [])) _
        refine XS.iloadN X0.here hx rfl (hb hby d4_28) rfl ?_
        show Steps p.tables e below (s₁.setTop (mkF m 29 #[.val (.int p0), .val (.int ((31 : Int32) + (-16 : Int32)))] [(.int p0)])) _
        refine XS.bipush X0.here hx rfl (hb hby d4_29) ?_
        show Steps p.tables e below (s₁.setTop (mkF m 31 #[.val (.int p0), .val (.int ((31 : Int32) + (-16 : Int32)))] [(.int (16 : Int32)), (.int p0)])) _
        refine XS.iushr X0.here hx rfl (hb hby d4_31) rfl ?_
        show Steps p.tables e below (s₁.setTop (mkF m 32 #[.val (.int p0), .val (.int ((31 : Int32) + (-16 : Int32)))] [(.int ((p0.toUInt32 >>> ((16 : Int32) &&& 31).toUInt32).toInt32))])) _
        refine XS.istoreN X0.here hx rfl (hb hby d4_32) rfl (l' := #[.val (.int ((p0.toUInt32 >>> ((16 : Int32) &&& 31).toUInt32).toInt32)), .val (.int ((31 : Int32) + (-16 : Int32)))]) rfl ?_
        exact kt
    refine own_back (b := s₁.setTop (mkF m 37 #[.val (.int (m4_0 p0)), .val (.int (m4_1 p0))] [(.int (256 : Int32)), (.int (m4_0 p0))])) (fun t kt => ?_) ?_
    · show Steps p.tables e below (s₁.setTop (mkF m 33 #[.val (.int (m4_0 p0)), .val (.int (m4_1 p0))] [])) _
      refine XS.iloadN X0.here hx rfl (hb hby d4_33) rfl ?_
      show Steps p.tables e below (s₁.setTop (mkF m 34 #[.val (.int (m4_0 p0)), .val (.int (m4_1 p0))] [(.int (m4_0 p0))])) _
      refine XS.sipush X0.here hx rfl (hb hby d4_34) ?_
      exact kt
    refine own_back (b := s₁.setTop (mkF m 48 #[.val (.int (m4_2 p0)), .val (.int (m4_3 p0))] [])) (fun t kt => ?_) ?_
    · by_cases hm37_3 : (m4_0 p0) < (256 : Int32)
      · rw [show (m4_2 p0) = (m4_0 p0) from by unfold m4_2; rw [if_pos hm37_3]] at kt
        rw [show (m4_3 p0) = (m4_1 p0) from by unfold m4_3; rw [if_pos hm37_3]] at kt
        show Steps p.tables e below (s₁.setTop (mkF m 37 #[.val (.int (m4_0 p0)), .val (.int (m4_1 p0))] [(.int (256 : Int32)), (.int (m4_0 p0))])) _
        refine XS.icmpYes X0.here hx rfl (pc0 := 37) (pc' := 48) rfl (hb hby d4_37) rfl (tlt hm37_3).1 (by decide) (by decide) ?_
        exact kt
      · rw [show (m4_2 p0) = (((m4_0 p0).toUInt32 >>> ((8 : Int32) &&& 31).toUInt32).toInt32) from by unfold m4_2; rw [if_neg hm37_3]] at kt
        rw [show (m4_3 p0) = ((m4_1 p0) + (-8 : Int32)) from by unfold m4_3; rw [if_neg hm37_3]] at kt
        show Steps p.tables e below (s₁.setTop (mkF m 37 #[.val (.int (m4_0 p0)), .val (.int (m4_1 p0))] [(.int (256 : Int32)), (.int (m4_0 p0))])) _
        refine XS.icmpNo X0.here hx rfl (hb hby d4_37) rfl (flt hm37_3).1 ?_
        show Steps p.tables e below (s₁.setTop (mkF m 40 #[.val (.int (m4_0 p0)), .val (.int (m4_1 p0))] [])) _
        refine XS.iinc X0.here hx rfl (hb hby d4_40) rfl (l' := #[.val (.int (m4_0 p0)), .val (.int ((m4_1 p0) + (-8 : Int32)))]) rfl ?_
        show Steps p.tables e below (s₁.setTop (mkF m 43 #[.val (.int (m4_0 p0)), .val (.int ((m4_1 p0) + (-8 : Int32)))] [])) _
        refine XS.iloadN X0.here hx rfl (hb hby d4_43) rfl ?_
        show Steps p.tables e below (s₁.setTop (mkF m 44 #[.val (.int (m4_0 p0)), .val (.int ((m4_1 p0) + (-8 : Int32)))] [(.int (m4_0 p0))])) _
        refine XS.bipush X0.here hx rfl (hb hby d4_44) ?_
        show Steps p.tables e below (s₁.setTop (mkF m 46 #[.val (.int (m4_0 p0)), .val (.int ((m4_1 p0) + (-8 : Int32)))] [(.int (8 : Int32)), (.int (m4_0 p0))])) _
        refine XS.iushr X0.here hx rfl (hb hby d4_46) rfl ?_
        show Steps p.tables e below (s₁.setTop (mkF m 47 #[.val (.int (m4_0 p0)), .val (.int ((m4_1 p0) + (-8 : Int32)))] [(.int (((m4_0 p0).toUInt32 >>> ((8 : Int32) &&& 31).toUInt32).toInt32))])) _
        refine XS.istoreN X0.here hx rfl (hb hby d4_47) rfl (l' := #[.val (.int (((m4_0 p0).toUInt32 >>> ((8 : Int32) &&& 31).toUInt32).toInt32)), .val (.int ((m4_1 p0) + (-8 : Int32)))]) rfl ?_
        exact kt
    refine own_back (b := s₁.setTop (mkF m 51 #[.val (.int (m4_2 p0)), .val (.int (m4_3 p0))] [(.int (16 : Int32)), (.int (m4_2 p0))])) (fun t kt => ?_) ?_
    · show Steps p.tables e below (s₁.setTop (mkF m 48 #[.val (.int (m4_2 p0)), .val (.int (m4_3 p0))] [])) _
      refine XS.iloadN X0.here hx rfl (hb hby d4_48) rfl ?_
      show Steps p.tables e below (s₁.setTop (mkF m 49 #[.val (.int (m4_2 p0)), .val (.int (m4_3 p0))] [(.int (m4_2 p0))])) _
      refine XS.bipush X0.here hx rfl (hb hby d4_49) ?_
      exact kt
    refine own_back (b := s₁.setTop (mkF m 61 #[.val (.int (m4_4 p0)), .val (.int (m4_5 p0))] [])) (fun t kt => ?_) ?_
    · by_cases hm51_4 : (m4_2 p0) < (16 : Int32)
      · rw [show (m4_4 p0) = (m4_2 p0) from by unfold m4_4; rw [if_pos hm51_4]] at kt
        rw [show (m4_5 p0) = (m4_3 p0) from by unfold m4_5; rw [if_pos hm51_4]] at kt
        show Steps p.tables e below (s₁.setTop (mkF m 51 #[.val (.int (m4_2 p0)), .val (.int (m4_3 p0))] [(.int (16 : Int32)), (.int (m4_2 p0))])) _
        refine XS.icmpYes X0.here hx rfl (pc0 := 51) (pc' := 61) rfl (hb hby d4_51) rfl (tlt hm51_4).1 (by decide) (by decide) ?_
        exact kt
      · rw [show (m4_4 p0) = (((m4_2 p0).toUInt32 >>> ((4 : Int32) &&& 31).toUInt32).toInt32) from by unfold m4_4; rw [if_neg hm51_4]] at kt
        rw [show (m4_5 p0) = ((m4_3 p0) + (-4 : Int32)) from by unfold m4_5; rw [if_neg hm51_4]] at kt
        show Steps p.tables e below (s₁.setTop (mkF m 51 #[.val (.int (m4_2 p0)), .val (.int (m4_3 p0))] [(.int (16 : Int32)), (.int (m4_2 p0))])) _
        refine XS.icmpNo X0.here hx rfl (hb hby d4_51) rfl (flt hm51_4).1 ?_
        show Steps p.tables e below (s₁.setTop (mkF m 54 #[.val (.int (m4_2 p0)), .val (.int (m4_3 p0))] [])) _
        refine XS.iinc X0.here hx rfl (hb hby d4_54) rfl (l' := #[.val (.int (m4_2 p0)), .val (.int ((m4_3 p0) + (-4 : Int32)))]) rfl ?_
        show Steps p.tables e below (s₁.setTop (mkF m 57 #[.val (.int (m4_2 p0)), .val (.int ((m4_3 p0) + (-4 : Int32)))] [])) _
        refine XS.iloadN X0.here hx rfl (hb hby d4_57) rfl ?_
        show Steps p.tables e below (s₁.setTop (mkF m 58 #[.val (.int (m4_2 p0)), .val (.int ((m4_3 p0) + (-4 : Int32)))] [(.int (m4_2 p0))])) _
        refine XS.iconst X0.here hx rfl (hb hby d4_58) ?_
        show Steps p.tables e below (s₁.setTop (mkF m 59 #[.val (.int (m4_2 p0)), .val (.int ((m4_3 p0) + (-4 : Int32)))] [(.int (4 : Int32)), (.int (m4_2 p0))])) _
        refine XS.iushr X0.here hx rfl (hb hby d4_59) rfl ?_
        show Steps p.tables e below (s₁.setTop (mkF m 60 #[.val (.int (m4_2 p0)), .val (.int ((m4_3 p0) + (-4 : Int32)))] [(.int (((m4_2 p0).toUInt32 >>> ((4 : Int32) &&& 31).toUInt32).toInt32))])) _
        refine XS.istoreN X0.here hx rfl (hb hby d4_60) rfl (l' := #[.val (.int (((m4_2 p0).toUInt32 >>> ((4 : Int32) &&& 31).toUInt32).toInt32)), .val (.int ((m4_3 p0) + (-4 : Int32)))]) rfl ?_
        exact kt
    refine own_back (b := s₁.setTop (mkF m 63 #[.val (.int (m4_4 p0)), .val (.int (m4_5 p0))] [(.int (4 : Int32)), (.int (m4_4 p0))])) (fun t kt => ?_) ?_
    · show Steps p.tables e below (s₁.setTop (mkF m 61 #[.val (.int (m4_4 p0)), .val (.int (m4_5 p0))] [])) _
      refine XS.iloadN X0.here hx rfl (hb hby d4_61) rfl ?_
      show Steps p.tables e below (s₁.setTop (mkF m 62 #[.val (.int (m4_4 p0)), .val (.int (m4_5 p0))] [(.int (m4_4 p0))])) _
      refine XS.iconst X0.here hx rfl (hb hby d4_62) ?_
      exact kt
    refine own_back (b := s₁.setTop (mkF m 73 #[.val (.int (m4_6 p0)), .val (.int (m4_7 p0))] [])) (fun t kt => ?_) ?_
    · by_cases hm63_5 : (m4_4 p0) < (4 : Int32)
      · rw [show (m4_6 p0) = (m4_4 p0) from by unfold m4_6; rw [if_pos hm63_5]] at kt
        rw [show (m4_7 p0) = (m4_5 p0) from by unfold m4_7; rw [if_pos hm63_5]] at kt
        show Steps p.tables e below (s₁.setTop (mkF m 63 #[.val (.int (m4_4 p0)), .val (.int (m4_5 p0))] [(.int (4 : Int32)), (.int (m4_4 p0))])) _
        refine XS.icmpYes X0.here hx rfl (pc0 := 63) (pc' := 73) rfl (hb hby d4_63) rfl (tlt hm63_5).1 (by decide) (by decide) ?_
        exact kt
      · rw [show (m4_6 p0) = (((m4_4 p0).toUInt32 >>> ((2 : Int32) &&& 31).toUInt32).toInt32) from by unfold m4_6; rw [if_neg hm63_5]] at kt
        rw [show (m4_7 p0) = ((m4_5 p0) + (-2 : Int32)) from by unfold m4_7; rw [if_neg hm63_5]] at kt
        show Steps p.tables e below (s₁.setTop (mkF m 63 #[.val (.int (m4_4 p0)), .val (.int (m4_5 p0))] [(.int (4 : Int32)), (.int (m4_4 p0))])) _
        refine XS.icmpNo X0.here hx rfl (hb hby d4_63) rfl (flt hm63_5).1 ?_
        show Steps p.tables e below (s₁.setTop (mkF m 66 #[.val (.int (m4_4 p0)), .val (.int (m4_5 p0))] [])) _
        refine XS.iinc X0.here hx rfl (hb hby d4_66) rfl (l' := #[.val (.int (m4_4 p0)), .val (.int ((m4_5 p0) + (-2 : Int32)))]) rfl ?_
        show Steps p.tables e below (s₁.setTop (mkF m 69 #[.val (.int (m4_4 p0)), .val (.int ((m4_5 p0) + (-2 : Int32)))] [])) _
        refine XS.iloadN X0.here hx rfl (hb hby d4_69) rfl ?_
        show Steps p.tables e below (s₁.setTop (mkF m 70 #[.val (.int (m4_4 p0)), .val (.int ((m4_5 p0) + (-2 : Int32)))] [(.int (m4_4 p0))])) _
        refine XS.iconst X0.here hx rfl (hb hby d4_70) ?_
        show Steps p.tables e below (s₁.setTop (mkF m 71 #[.val (.int (m4_4 p0)), .val (.int ((m4_5 p0) + (-2 : Int32)))] [(.int (2 : Int32)), (.int (m4_4 p0))])) _
        refine XS.iushr X0.here hx rfl (hb hby d4_71) rfl ?_
        show Steps p.tables e below (s₁.setTop (mkF m 72 #[.val (.int (m4_4 p0)), .val (.int ((m4_5 p0) + (-2 : Int32)))] [(.int (((m4_4 p0).toUInt32 >>> ((2 : Int32) &&& 31).toUInt32).toInt32))])) _
        refine XS.istoreN X0.here hx rfl (hb hby d4_72) rfl (l' := #[.val (.int (((m4_4 p0).toUInt32 >>> ((2 : Int32) &&& 31).toUInt32).toInt32)), .val (.int ((m4_5 p0) + (-2 : Int32)))]) rfl ?_
        exact kt
    refine own_back (b := s₁.setTop (mkF m 78 #[.val (.int (m4_6 p0)), .val (.int (m4_7 p0))] [(.int ((m4_7 p0) - (((m4_6 p0).toUInt32 >>> ((1 : Int32) &&& 31).toUInt32).toInt32)))])) (fun t kt => ?_) ?_
    · show Steps p.tables e below (s₁.setTop (mkF m 73 #[.val (.int (m4_6 p0)), .val (.int (m4_7 p0))] [])) _
      refine XS.iloadN X0.here hx rfl (hb hby d4_73) rfl ?_
      show Steps p.tables e below (s₁.setTop (mkF m 74 #[.val (.int (m4_6 p0)), .val (.int (m4_7 p0))] [(.int (m4_7 p0))])) _
      refine XS.iloadN X0.here hx rfl (hb hby d4_74) rfl ?_
      show Steps p.tables e below (s₁.setTop (mkF m 75 #[.val (.int (m4_6 p0)), .val (.int (m4_7 p0))] [(.int (m4_6 p0)), (.int (m4_7 p0))])) _
      refine XS.iconst X0.here hx rfl (hb hby d4_75) ?_
      show Steps p.tables e below (s₁.setTop (mkF m 76 #[.val (.int (m4_6 p0)), .val (.int (m4_7 p0))] [(.int (1 : Int32)), (.int (m4_6 p0)), (.int (m4_7 p0))])) _
      refine XS.iushr X0.here hx rfl (hb hby d4_76) rfl ?_
      show Steps p.tables e below (s₁.setTop (mkF m 77 #[.val (.int (m4_6 p0)), .val (.int (m4_7 p0))] [(.int (((m4_6 p0).toUInt32 >>> ((1 : Int32) &&& 31).toUInt32).toInt32)), (.int (m4_7 p0))])) _
      refine XS.isub X0.here hx rfl (hb hby d4_77) rfl ?_
      exact kt
    obtain ⟨fs, hr, hrun, hended, hW, hsame⟩ := X0.leave (v := some (.int ((m4_7 p0) - (((m4_6 p0).toUInt32 >>> ((1 : Int32) &&& 31).toUInt32).toInt32)))) (fun h => by rw [Bd.returns] at h; cases h) (BodyLoose.notSynchronized Bd)
    refine ⟨_, _, ?_, hrun, hended, _, _, rfl, ?_, ⟨_, rfl⟩, hW, hsame.mono (by decide) (by decide)⟩
    · show Steps p.tables e below (s₁.setTop (mkF m 78 #[.val (.int (m4_6 p0)), .val (.int (m4_7 p0))] [(.int ((m4_7 p0) - (((m4_6 p0).toUInt32 >>> ((1 : Int32) &&& 31).toUInt32).toInt32)))])) _
      exact retI X0 hx Bd.returns (hb hby d4_78) hr
    · show Q4 Z p0 h0 n0 _ s₁.heap _
      rw [e0]
      exact ⟨by rw [show f4 p0 = ((m4_7 p0) - (((m4_6 p0).toUInt32 >>> ((1 : Int32) &&& 31).toUInt32).toInt32)) from by unfold f4; rw [if_pos hc1_1]], N0, rfl⟩
  · refine own_back (b := s₁.setTop (mkF m 5 #[.val (.int p0), .unset] [(.int p0)])) (fun t kt => ?_) ?_
    · show Steps p.tables e below (s₁.setTop (mkF m 1 #[.val (.int p0), .unset] [(.int p0)])) _
      refine XS.ifNo X0.here hx rfl (hb hby d4_1) rfl ((if0 _ _).trans (flt hc1_1).2.2.1) ?_
      show Steps p.tables e below (s₁.setTop (mkF m 4 #[.val (.int p0), .unset] [])) _
      refine XS.iloadN X0.here hx rfl (hb hby d4_4) rfl ?_
      exact kt
    by_cases hc5_6 : p0 = (0 : Int32)
    · refine own_back (b := s₁.setTop (mkF m 14 #[.val (.int p0), .unset] [(.int (32 : Int32))])) (fun t kt => ?_) ?_
      · show Steps p.tables e below (s₁.setTop (mkF m 5 #[.val (.int p0), .unset] [(.int p0)])) _
        refine XS.ifNo X0.here hx rfl (hb hby d4_5) rfl ((if0 _ _).trans (teq hc5_6).2) ?_
        show Steps p.tables e below (s₁.setTop (mkF m 8 #[.val (.int p0), .unset] [])) _
        refine XS.bipush X0.here hx rfl (hb hby d4_8) ?_
        show Steps p.tables e below (s₁.setTop (mkF m 10 #[.val (.int p0), .unset] [(.int (32 : Int32))])) _
        refine XS.goto X0.here hx rfl (pc0 := 10) (pc' := 14) rfl (hb hby d4_10) (by decide) (by decide) ?_
        exact kt
      obtain ⟨fs, hr, hrun, hended, hW, hsame⟩ := X0.leave (v := some (.int (32 : Int32))) (fun h => by rw [Bd.returns] at h; cases h) (BodyLoose.notSynchronized Bd)
      refine ⟨_, _, ?_, hrun, hended, _, _, rfl, ?_, ⟨_, rfl⟩, hW, hsame.mono (by decide) (by decide)⟩
      · show Steps p.tables e below (s₁.setTop (mkF m 14 #[.val (.int p0), .unset] [(.int (32 : Int32))])) _
        exact retI X0 hx Bd.returns (hb hby d4_14) hr
      · show Q4 Z p0 h0 n0 _ s₁.heap _
        rw [e0]
        exact ⟨by rw [show f4 p0 = (32 : Int32) from by unfold f4; rw [if_neg hc1_1, if_pos hc5_6]], N0, rfl⟩
    · refine own_back (b := s₁.setTop (mkF m 14 #[.val (.int p0), .unset] [(.int (0 : Int32))])) (fun t kt => ?_) ?_
      · show Steps p.tables e below (s₁.setTop (mkF m 5 #[.val (.int p0), .unset] [(.int p0)])) _
        refine XS.ifYes X0.here hx rfl (pc0 := 5) (pc' := 13) rfl (hb hby d4_5) rfl ((if0 _ _).trans (feq hc5_6).2) (by decide) (by decide) ?_
        show Steps p.tables e below (s₁.setTop (mkF m 13 #[.val (.int p0), .unset] [])) _
        refine XS.iconst X0.here hx rfl (hb hby d4_13) ?_
        exact kt
      obtain ⟨fs, hr, hrun, hended, hW, hsame⟩ := X0.leave (v := some (.int (0 : Int32))) (fun h => by rw [Bd.returns] at h; cases h) (BodyLoose.notSynchronized Bd)
      refine ⟨_, _, ?_, hrun, hended, _, _, rfl, ?_, ⟨_, rfl⟩, hW, hsame.mono (by decide) (by decide)⟩
      · show Steps p.tables e below (s₁.setTop (mkF m 14 #[.val (.int p0), .unset] [(.int (0 : Int32))])) _
        exact retI X0 hx Bd.returns (hb hby d4_14) hr
      · show Q4 Z p0 h0 n0 _ s₁.heap _
        rw [e0]
        exact ⟨by rw [show f4 p0 = (0 : Int32) from by unfold f4; rw [if_neg hc1_1, if_neg hc5_6]], N0, rfl⟩
theorem d2_0 : decode prog_51_method_1_code 0 = .ok (.aload_n 0, 1) := by decide +kernel
theorem d2_1 : decode prog_51_method_1_code 1 = .ok (.invokespecial 1, 3) := by decide +kernel
theorem d2_4 : decode prog_51_method_1_code 4 = .ok (.iload_n 3, 1) := by decide +kernel
theorem d2_5 : decode prog_51_method_1_code 5 = .ok (.iload_n 2, 1) := by decide +kernel
theorem d2_6 : decode prog_51_method_1_code 6 = .ok (.if_icmp .le 11, 3) := by decide +kernel
theorem d2_9 : decode prog_51_method_1_code 9 = .ok (.aload_n 1, 1) := by decide +kernel
theorem d2_10 : decode prog_51_method_1_code 10 = .ok (.iload_n 3, 1) := by decide +kernel
theorem d2_11 : decode prog_51_method_1_code 11 = .ok (.iconst 1, 1) := by decide +kernel
theorem d2_12 : decode prog_51_method_1_code 12 = .ok (.isub, 1) := by decide +kernel
theorem d2_13 : decode prog_51_method_1_code 13 = .ok (.baload, 1) := by decide +kernel
theorem d2_14 : decode prog_51_method_1_code 14 = .ok (.ifCond .ne 13, 3) := by decide +kernel
theorem d2_27 : decode prog_51_method_1_code 27 = .ok (.aload_n 0, 1) := by decide +kernel
theorem d2_28 : decode prog_51_method_1_code 28 = .ok (.aload_n 1, 1) := by decide +kernel
theorem d2_29 : decode prog_51_method_1_code 29 = .ok (.putfield 14, 3) := by decide +kernel
theorem d2_32 : decode prog_51_method_1_code 32 = .ok (.aload_n 0, 1) := by decide +kernel
theorem d2_33 : decode prog_51_method_1_code 33 = .ok (.iload_n 2, 1) := by decide +kernel
theorem d2_34 : decode prog_51_method_1_code 34 = .ok (.putfield 20, 3) := by decide +kernel
theorem d2_37 : decode prog_51_method_1_code 37 = .ok (.aload_n 0, 1) := by decide +kernel
theorem d2_38 : decode prog_51_method_1_code 38 = .ok (.iload_n 3, 1) := by decide +kernel
theorem d2_39 : decode prog_51_method_1_code 39 = .ok (.putfield 24, 3) := by decide +kernel
theorem d2_42 : decode prog_51_method_1_code 42 = .ok (.aload_n 0, 1) := by decide +kernel
theorem d2_43 : decode prog_51_method_1_code 43 = .ok (.iload_n 3, 1) := by decide +kernel
theorem d2_44 : decode prog_51_method_1_code 44 = .ok (.iload_n 2, 1) := by decide +kernel
theorem d2_45 : decode prog_51_method_1_code 45 = .ok (.isub, 1) := by decide +kernel
theorem d2_46 : decode prog_51_method_1_code 46 = .ok (.i2l, 1) := by decide +kernel
theorem d2_47 : decode prog_51_method_1_code 47 = .ok (.ldc2_w 27, 3) := by decide +kernel
theorem d2_50 : decode prog_51_method_1_code 50 = .ok (.lmul, 1) := by decide +kernel
theorem d2_51 : decode prog_51_method_1_code 51 = .ok (.aload_n 1, 1) := by decide +kernel
theorem d2_52 : decode prog_51_method_1_code 52 = .ok (.iload_n 3, 1) := by decide +kernel
theorem d2_53 : decode prog_51_method_1_code 53 = .ok (.iconst 1, 1) := by decide +kernel
theorem d2_54 : decode prog_51_method_1_code 54 = .ok (.isub, 1) := by decide +kernel
theorem d2_55 : decode prog_51_method_1_code 55 = .ok (.baload, 1) := by decide +kernel
theorem d2_56 : decode prog_51_method_1_code 56 = .ok (.sipush 255, 3) := by decide +kernel
theorem d2_59 : decode prog_51_method_1_code 59 = .ok (.iand, 1) := by decide +kernel
theorem d2_60 : decode prog_51_method_1_code 60 = .ok (.invokestatic 29, 3) := by decide +kernel
theorem d2_63 : decode prog_51_method_1_code 63 = .ok (.i2l, 1) := by decide +kernel
theorem d2_64 : decode prog_51_method_1_code 64 = .ok (.lsub, 1) := by decide +kernel
theorem d2_65 : decode prog_51_method_1_code 65 = .ok (.ldc2_w 35, 3) := by decide +kernel
theorem d2_68 : decode prog_51_method_1_code 68 = .ok (.ladd, 1) := by decide +kernel
theorem d2_69 : decode prog_51_method_1_code 69 = .ok (.lconst 1, 1) := by decide +kernel
theorem d2_70 : decode prog_51_method_1_code 70 = .ok (.lsub, 1) := by decide +kernel
theorem d2_71 : decode prog_51_method_1_code 71 = .ok (.putfield 37, 3) := by decide +kernel
theorem d2_74 : decode prog_51_method_1_code 74 = .ok (.return_, 1) := by decide +kernel
theorem pn_2 : plainName "com/example/urial/urial/protocol/BackwardBitReader" = true := by first | (simp [plainName, overriddenIn]; done) | decide +kernel
theorem pd_2_0 : parseMethodDescriptor "(I)I" = some ⟨[.int], some .int⟩ := by decide +kernel
theorem ef_2 (m : MethodId) (x0 : Addr) (x1 : Addr) (x2 : Int32) (x3 : Int32) : entryFrame m #[(.ref x0), (.ref x1), (.int x2), (.int x3)] 4 = mkF m 0 #[.val (.ref x0), .val (.ref x1), .val (.int x2), .val (.int x3)] [] := by first | (simp [entryFrame, mkF, argsToLocals, Value.category]; done) | rfl
def Q2 (Z : State) (a0 : Addr) (a1 : Addr) (p2 : Int32) (p3 : Int32) (wb : Int32) (h0 : Heap) (n0 : Nat) (v : Option Value) (h : Heap) (L : List Loc) : Prop := v = none ∧ Fr n0 L ∧ Keep h0 h [a0] ∧ Exa Z h a0 "com/example/urial/urial/protocol/BackwardBitReader" ∧ Fld Z h a0 "com/example/urial/urial/protocol/BackwardBitReader" "left" "J" (.long ((((((p3 - p2).toInt64) * (8 : Int64)) - ((f4 (wb &&& (255 : Int32))).toInt64)) + (24 : Int64)) - (1 : Int64)))
set_option maxRecDepth 65536 in
set_option maxHeartbeats 40000000 in
theorem rm2 (l : Launch) (Z : State) (aw : Array Value) (hw : ∀ d ∈ tables_1, d.before aw Z = true) (ws : List Jvm.Cond) (a0 : Addr) (a1 : Addr) (p2 : Int32) (p3 : Int32) (wb : Int32) (h0 : Heap) (n0 : Nat) (Z0 : n0 ≤ h0.size) (F_bytes_a0 : Fld Z h0 a0 "com/example/urial/urial/protocol/BackwardBitReader" "bytes" "[B" .null) (F_start_a0 : Fld Z h0 a0 "com/example/urial/urial/protocol/BackwardBitReader" "start" "I" (.int (0 : Int32))) (F_end_a0 : Fld Z h0 a0 "com/example/urial/urial/protocol/BackwardBitReader" "end" "I" (.int (0 : Int32))) (F_left_a0 : Fld Z h0 a0 "com/example/urial/urial/protocol/BackwardBitReader" "left" "J" (.long (0 : Int64))) (E_a0 : Exa Z h0 a0 "com/example/urial/urial/protocol/BackwardBitReader") (g_a0 : n0 ≤ a0) (L_a1 : ElA Z h0 a1 .byte (p3 - (1 : Int32)) (.int wb)) (ne_a1_a0 : a1 ≠ a0) (hlt : p2 < p3) (hwb : ¬ (wb = (0 : Int32))) :
    MetFree l (⟨"com/example/urial/urial/protocol/BackwardBitReader", "<init>", "([BII)V"⟩ : MethodName) (head1 (Jvm.Cond.code (⟨"com/example/urial/urial/protocol/BackwardBitReader", "<init>", "([BII)V"⟩ : MethodName) prog_51_method_1_code 4 none :: ws) ({ frames := 1, cells := 0, slots := 0, locals := 16 } : Room)) (fun a U => a = #[(.ref a0), (.ref a1), (.int p2), (.int p3)] ∧ Z.Warmed39 U.vm ∧ U.heap = h0) (fun _ _ _ _ _ => True) (fun _ U o U' => ∃ v L, o = .returned v ∧ Q2 Z a0 a1 p2 p3 wb h0 n0 v U'.heap L ∧ FrameEnd U o U' L ({ frames := 1, cells := 0, slots := 0, locals := 16 } : Room).cells ({ frames := 1, cells := 0, slots := 0, locals := 16 } : Room).slots) := by
  refine MetFree.of_bodySF (plainFor_of_name pn_2) hisR ?_
  intro p e s m args below meth c s₁ Bd hml0 hP hK
  obtain ⟨rfl, hZ, hh⟩ := hP
  have hx := Bd.exec
  have hby := Bd.bytes
  have hml : c.maxLocals = 4 := hml0
  have hown : s.vm.findClass "com/example/urial/urial/protocol/BackwardBitReader" = some m.cls := findClass_of_methodNamed Bd.named
  have hnm := (name_of_methodNamed Bd.named Bd.method).1
  have X0 : Stand p l e ({ frames := 1, cells := 0, slots := 0, locals := 16 } : Room) s m #[(.ref a0), (.ref a1), (.int p2), (.int p3)] below meth c s₁ [] 0 0 := Stand.of_body Bd
  have e0 : s₁.heap = h0 := by rw [← hh, Bd.state]; rfl
  have N0 := Fr.nil n0
  refine own_back (b := s₁.setTop (mkF m 0 #[.val (.ref a0), .val (.ref a1), .val (.int p2), .val (.int p3)] [])) (fun t kt => castTop (ef_2 m a0 a1 p2 p3) kt) ?_
  obtain ⟨T1, X1, e1, st1⟩ := initO X0 hx hZ hown (hw _ (List.mem_of_getElem? (i := 13) rfl)) (hw _ (List.mem_of_getElem? (i := 14) rfl)) (hw _ (List.mem_of_getElem? (i := 15) rfl)) e0 (g := (mkF m 1 #[.val (.ref a0), .val (.ref a1), .val (.int p2), .val (.int p3)] [(.ref a0)])) rfl (by rw [hml]; rfl) rfl (hb hby d2_1) (by decide) (W := 0) (by show 2 * 0 + _ ≤ _; exact Nat.le_of_eq rfl) (by decide)
  obtain ⟨cl2, Ar2, hin2, hat2⟩ := own_same L_a1
  obtain ⟨T3, h3, X3, e3, W3, st3⟩ := putF X1 hx hZ hown (host := "") (Or.inl (hw _ (List.mem_of_getElem? (i := 16) rfl))) Via.refl e1 F_bytes_a0 E_a0 (Or.inr ⟨(hw _ (List.mem_of_getElem? (i := 17) rfl)), rfl, hnm⟩) (hw _ (List.mem_of_getElem? (i := 8) rfl)) (ty := (.array .byte)) (by decide) rfl rfl (g := (mkF m 29 #[.val (.ref a0), .val (.ref a1), .val (.int p2), .val (.int p3)] [(.ref a1), (.ref a0)])) rfl rfl (hb hby d2_29)
  have Fw3 := F_bytes_a0.same W3
  have f3_0 := F_start_a0.other W3 (Or.inr (slot_ne (Or.inr (hw _ (List.mem_of_getElem? (i := 19) rfl))) (Or.inr (hw _ (List.mem_of_getElem? (i := 17) rfl))) (by decide) (t := .int) (t' := (.array .byte)) (by decide) (by decide)))
  have f3_1 := F_end_a0.other W3 (Or.inr (slot_ne (Or.inr (hw _ (List.mem_of_getElem? (i := 21) rfl))) (Or.inr (hw _ (List.mem_of_getElem? (i := 17) rfl))) (by decide) (t := .int) (t' := (.array .byte)) (by decide) (by decide)))
  have f3_2 := F_left_a0.other W3 (Or.inr (slot_ne (Or.inl (hw _ (List.mem_of_getElem? (i := 30) rfl))) (Or.inr (hw _ (List.mem_of_getElem? (i := 17) rfl))) (by decide) (t := .long) (t' := (.array .byte)) (by decide) (by decide)))
  have f3_3 := E_a0.wr W3
  have f3_4 := L_a1.other W3 ne_a1_a0
  have K3 : Keep h0 h3 [a0] := (Keep.refl h0 _).wr W3 (Or.inl (List.mem_of_getElem? (i := 0) rfl))
  have Z3 : n0 ≤ h3.size := Nat.le_trans Z0 (Keep.of_wr W3).1
  have N3 := Fr.snoc X3 N0 g_a0
  obtain ⟨T4, h4, X4, e4, W4, st4⟩ := putF X3 hx hZ hown (host := "") (Or.inl (hw _ (List.mem_of_getElem? (i := 18) rfl))) Via.refl e3 f3_0 f3_3 (Or.inr ⟨(hw _ (List.mem_of_getElem? (i := 19) rfl)), rfl, hnm⟩) (hw _ (List.mem_of_getElem? (i := 8) rfl)) (ty := .int) (by decide) rfl rfl (g := (mkF m 34 #[.val (.ref a0), .val (.ref a1), .val (.int p2), .val (.int p3)] [(.int p2), (.ref a0)])) rfl rfl (hb hby d2_34)
  have Fw4 := f3_0.same W4
  have f4_0 := f3_1.other W4 (Or.inr (slot_ne (Or.inr (hw _ (List.mem_of_getElem? (i := 21) rfl))) (Or.inr (hw _ (List.mem_of_getElem? (i := 19) rfl))) (by decide) (t := .int) (t' := .int) (by decide) (by decide)))
  have f4_1 := f3_2.other W4 (Or.inr (slot_ne (Or.inl (hw _ (List.mem_of_getElem? (i := 30) rfl))) (Or.inr (hw _ (List.mem_of_getElem? (i := 19) rfl))) (by decide) (t := .long) (t' := .int) (by decide) (by decide)))
  have f4_2 := f3_3.wr W4
  have f4_3 := f3_4.other W4 ne_a1_a0
  have f4_4 := Fw3.other W4 (Or.inr (slot_ne (Or.inr (hw _ (List.mem_of_getElem? (i := 17) rfl))) (Or.inr (hw _ (List.mem_of_getElem? (i := 19) rfl))) (by decide) (t := (.array .byte)) (t' := .int) (by decide) (by decide)))
  have K4 : Keep h0 h4 [a0] := K3.wr W4 (Or.inl (List.mem_of_getElem? (i := 0) rfl))
  have Z4 : n0 ≤ h4.size := Nat.le_trans Z3 (Keep.of_wr W4).1
  have N4 := Fr.snoc X4 N3 g_a0
  obtain ⟨T5, h5, X5, e5, W5, st5⟩ := putF X4 hx hZ hown (host := "") (Or.inl (hw _ (List.mem_of_getElem? (i := 20) rfl))) Via.refl e4 f4_0 f4_2 (Or.inr ⟨(hw _ (List.mem_of_getElem? (i := 21) rfl)), rfl, hnm⟩) (hw _ (List.mem_of_getElem? (i := 8) rfl)) (ty := .int) (by decide) rfl rfl (g := (mkF m 39 #[.val (.ref a0), .val (.ref a1), .val (.int p2), .val (.int p3)] [(.int p3), (.ref a0)])) rfl rfl (hb hby d2_39)
  have Fw5 := f4_0.same W5
  have f5_0 := f4_1.other W5 (Or.inr (slot_ne (Or.inl (hw _ (List.mem_of_getElem? (i := 30) rfl))) (Or.inr (hw _ (List.mem_of_getElem? (i := 21) rfl))) (by decide) (t := .long) (t' := .int) (by decide) (by decide)))
  have f5_1 := f4_2.wr W5
  have f5_2 := f4_3.other W5 ne_a1_a0
  have f5_3 := f4_4.other W5 (Or.inr (slot_ne (Or.inr (hw _ (List.mem_of_getElem? (i := 17) rfl))) (Or.inr (hw _ (List.mem_of_getElem? (i := 21) rfl))) (by decide) (t := (.array .byte)) (t' := .int) (by decide) (by decide)))
  have f5_4 := Fw4.other W5 (Or.inr (slot_ne (Or.inr (hw _ (List.mem_of_getElem? (i := 19) rfl))) (Or.inr (hw _ (List.mem_of_getElem? (i := 21) rfl))) (by decide) (t := .int) (t' := .int) (by decide) (by decide)))
  have K5 : Keep h0 h5 [a0] := K4.wr W5 (Or.inl (List.mem_of_getElem? (i := 0) rfl))
  have Z5 : n0 ≤ h5.size := Nat.le_trans Z4 (Keep.of_wr W5).1
  have N5 := Fr.snoc X5 N4 g_a0
  obtain ⟨cl6, Ar6, hin6, hat6⟩ := own_same f5_2
  obtain ⟨_, _, ⟨T7, L7, k7, n7⟩, -, X7, ⟨Lc7, hQ7, l7, y7, z7⟩, st7⟩ := Jvm.LawKit.callS X5 hx (y := (⟨"java/lang/Integer", "numberOfLeadingZeros", "(I)I"⟩ : MethodName)) hown (mvT hZ (hw _ (List.mem_of_getElem? (i := 23) rfl))) (mvT hZ (hw _ (List.mem_of_getElem? (i := 24) rfl))) (mvT hZ (hw _ (List.mem_of_getElem? (i := 25) rfl))) (mvT hZ (hw _ (List.mem_of_getElem? (i := 26) rfl))) (by decide) (backOf (W := 3) (rm4 l Z aw hw [] (wb &&& (255 : Int32)) h5 n0 Z5 ) hZ (hw _ (List.mem_of_getElem? (i := 26) rfl)) (hw _ (List.mem_of_getElem? (i := 25) rfl)) (by decide) (by decide)) (g := (mkF m 60 #[.val (.ref a0), .val (.ref a1), .val (.int p2), .val (.int p3)] [(.int (wb &&& (255 : Int32))), (.long (((p3 - p2).toInt64) * (8 : Int64))), (.ref a0)])) rfl (by rw [hml]; rfl) (argsL := [(.int (wb &&& (255 : Int32)))]) (rest := [(.long (((p3 - p2).toInt64) * (8 : Int64))), (.ref a0)]) (lenOf pd_2_0 rfl) rfl (by show 2 * 0 + _ ≤ _; exact Nat.le_of_eq rfl) (hb hby d2_60) (fun _ _ => ⟨rfl, e5, (by decide : 0 + 0 ≤ _), (by decide : 0 + 0 ≤ _)⟩)
  dsimp only [Pt.U, Pt.locs, Pt.cells, Pt.slots] at X7 l7 y7 z7 st7 hQ7
  subst l7 y7 z7
  obtain ⟨rfl, Nq7, e7⟩ := hQ7
  have N7 := Fr.app N5 Nq7
  obtain ⟨T8, h8, X8, e8, W8, st8⟩ := putF X7 hx hZ hown (host := "") (Or.inl (hw _ (List.mem_of_getElem? (i := 29) rfl))) Via.refl e7 f5_0 f5_1 (Or.inl (hw _ (List.mem_of_getElem? (i := 30) rfl))) (hw _ (List.mem_of_getElem? (i := 8) rfl)) (ty := .long) (by decide) rfl rfl (g := (mkF m 71 #[.val (.ref a0), .val (.ref a1), .val (.int p2), .val (.int p3)] [(.long ((((((p3 - p2).toInt64) * (8 : Int64)) - ((f4 (wb &&& (255 : Int32))).toInt64)) + (24 : Int64)) - (1 : Int64))), (.ref a0)])) rfl rfl (hb hby d2_71)
  have Fw8 := f5_0.same W8
  have f8_0 := f5_1.wr W8
  have f8_1 := f5_2.other W8 ne_a1_a0
  have f8_2 := f5_3.other W8 (Or.inr (slot_ne (Or.inr (hw _ (List.mem_of_getElem? (i := 17) rfl))) (Or.inl (hw _ (List.mem_of_getElem? (i := 30) rfl))) (by decide) (t := (.array .byte)) (t' := .long) (by decide) (by decide)))
  have f8_3 := f5_4.other W8 (Or.inr (slot_ne (Or.inr (hw _ (List.mem_of_getElem? (i := 19) rfl))) (Or.inl (hw _ (List.mem_of_getElem? (i := 30) rfl))) (by decide) (t := .int) (t' := .long) (by decide) (by decide)))
  have f8_4 := Fw5.other W8 (Or.inr (slot_ne (Or.inr (hw _ (List.mem_of_getElem? (i := 21) rfl))) (Or.inl (hw _ (List.mem_of_getElem? (i := 30) rfl))) (by decide) (t := .int) (t' := .long) (by decide) (by decide)))
  have K8 : Keep h0 h8 [a0] := K5.wr W8 (Or.inl (List.mem_of_getElem? (i := 0) rfl))
  have Z8 : n0 ≤ h8.size := Nat.le_trans Z5 (Keep.of_wr W8).1
  have N8 := Fr.snoc X8 N7 g_a0
  refine own_back (b := T8.setTop (mkF m 74 #[.val (.ref a0), .val (.ref a1), .val (.int p2), .val (.int p3)] [])) (fun t kt => ?_) ?_
  · show Steps p.tables e below (s₁.setTop (mkF m 0 #[.val (.ref a0), .val (.ref a1), .val (.int p2), .val (.int p3)] [])) _
    refine XS.aloadN X0.here hx rfl (hb hby d2_0) rfl rfl ?_
    show Steps p.tables e below (s₁.setTop (mkF m 1 #[.val (.ref a0), .val (.ref a1), .val (.int p2), .val (.int p3)] [(.ref a0)])) _
    refine st1 _ ?_
    show Steps p.tables e below (T1.setTop (mkF m 4 #[.val (.ref a0), .val (.ref a1), .val (.int p2), .val (.int p3)] [])) _
    refine XS.iloadN X1.here hx rfl (hb hby d2_4) rfl ?_
    show Steps p.tables e below (T1.setTop (mkF m 5 #[.val (.ref a0), .val (.ref a1), .val (.int p2), .val (.int p3)] [(.int p3)])) _
    refine XS.iloadN X1.here hx rfl (hb hby d2_5) rfl ?_
    show Steps p.tables e below (T1.setTop (mkF m 6 #[.val (.ref a0), .val (.ref a1), .val (.int p2), .val (.int p3)] [(.int p2), (.int p3)])) _
    refine XS.icmpNo X1.here hx rfl (hb hby d2_6) rfl (tlt hlt).2.2.2 ?_
    show Steps p.tables e below (T1.setTop (mkF m 9 #[.val (.ref a0), .val (.ref a1), .val (.int p2), .val (.int p3)] [])) _
    refine XS.aloadN X1.here hx rfl (hb hby d2_9) rfl rfl ?_
    show Steps p.tables e below (T1.setTop (mkF m 10 #[.val (.ref a0), .val (.ref a1), .val (.int p2), .val (.int p3)] [(.ref a1)])) _
    refine XS.iloadN X1.here hx rfl (hb hby d2_10) rfl ?_
    show Steps p.tables e below (T1.setTop (mkF m 11 #[.val (.ref a0), .val (.ref a1), .val (.int p2), .val (.int p3)] [(.int p3), (.ref a1)])) _
    refine XS.iconst X1.here hx rfl (hb hby d2_11) ?_
    show Steps p.tables e below (T1.setTop (mkF m 12 #[.val (.ref a0), .val (.ref a1), .val (.int p2), .val (.int p3)] [(.int (1 : Int32)), (.int p3), (.ref a1)])) _
    refine XS.isub X1.here hx rfl (hb hby d2_12) rfl ?_
    show Steps p.tables e below (T1.setTop (mkF m 13 #[.val (.ref a0), .val (.ref a1), .val (.int p2), .val (.int p3)] [(.int (p3 - (1 : Int32))), (.ref a1)])) _
    refine X1.baloadBytes hx (j := (p3 - (1 : Int32))) (v := (.int wb)) (by rw [e1]; exact Ar2.1) (State.isArrayOf_alike hZ.alike Ar2.2.1) Ar2.2.2 hin2 hat2 (g := (mkF m 13 #[.val (.ref a0), .val (.ref a1), .val (.int p2), .val (.int p3)] [(.int (p3 - (1 : Int32))), (.ref a1)])) rfl rfl (hb hby d2_13) _ ?_
    show Steps p.tables e below (T1.setTop (mkF m 14 #[.val (.ref a0), .val (.ref a1), .val (.int p2), .val (.int p3)] [(.int wb)])) _
    refine XS.ifYes X1.here hx rfl (pc0 := 14) (pc' := 27) rfl (hb hby d2_14) rfl ((if0 _ _).trans (feq hwb).2) (by decide) (by decide) ?_
    show Steps p.tables e below (T1.setTop (mkF m 27 #[.val (.ref a0), .val (.ref a1), .val (.int p2), .val (.int p3)] [])) _
    refine XS.aloadN X1.here hx rfl (hb hby d2_27) rfl rfl ?_
    show Steps p.tables e below (T1.setTop (mkF m 28 #[.val (.ref a0), .val (.ref a1), .val (.int p2), .val (.int p3)] [(.ref a0)])) _
    refine XS.aloadN X1.here hx rfl (hb hby d2_28) rfl rfl ?_
    show Steps p.tables e below (T1.setTop (mkF m 29 #[.val (.ref a0), .val (.ref a1), .val (.int p2), .val (.int p3)] [(.ref a1), (.ref a0)])) _
    refine st3 _ ?_
    show Steps p.tables e below (T3.setTop (mkF m 32 #[.val (.ref a0), .val (.ref a1), .val (.int p2), .val (.int p3)] [])) _
    refine XS.aloadN X3.here hx rfl (hb hby d2_32) rfl rfl ?_
    show Steps p.tables e below (T3.setTop (mkF m 33 #[.val (.ref a0), .val (.ref a1), .val (.int p2), .val (.int p3)] [(.ref a0)])) _
    refine XS.iloadN X3.here hx rfl (hb hby d2_33) rfl ?_
    show Steps p.tables e below (T3.setTop (mkF m 34 #[.val (.ref a0), .val (.ref a1), .val (.int p2), .val (.int p3)] [(.int p2), (.ref a0)])) _
    refine st4 _ ?_
    show Steps p.tables e below (T4.setTop (mkF m 37 #[.val (.ref a0), .val (.ref a1), .val (.int p2), .val (.int p3)] [])) _
    refine XS.aloadN X4.here hx rfl (hb hby d2_37) rfl rfl ?_
    show Steps p.tables e below (T4.setTop (mkF m 38 #[.val (.ref a0), .val (.ref a1), .val (.int p2), .val (.int p3)] [(.ref a0)])) _
    refine XS.iloadN X4.here hx rfl (hb hby d2_38) rfl ?_
    show Steps p.tables e below (T4.setTop (mkF m 39 #[.val (.ref a0), .val (.ref a1), .val (.int p2), .val (.int p3)] [(.int p3), (.ref a0)])) _
    refine st5 _ ?_
    show Steps p.tables e below (T5.setTop (mkF m 42 #[.val (.ref a0), .val (.ref a1), .val (.int p2), .val (.int p3)] [])) _
    refine XS.aloadN X5.here hx rfl (hb hby d2_42) rfl rfl ?_
    show Steps p.tables e below (T5.setTop (mkF m 43 #[.val (.ref a0), .val (.ref a1), .val (.int p2), .val (.int p3)] [(.ref a0)])) _
    refine XS.iloadN X5.here hx rfl (hb hby d2_43) rfl ?_
    show Steps p.tables e below (T5.setTop (mkF m 44 #[.val (.ref a0), .val (.ref a1), .val (.int p2), .val (.int p3)] [(.int p3), (.ref a0)])) _
    refine XS.iloadN X5.here hx rfl (hb hby d2_44) rfl ?_
    show Steps p.tables e below (T5.setTop (mkF m 45 #[.val (.ref a0), .val (.ref a1), .val (.int p2), .val (.int p3)] [(.int p2), (.int p3), (.ref a0)])) _
    refine XS.isub X5.here hx rfl (hb hby d2_45) rfl ?_
    show Steps p.tables e below (T5.setTop (mkF m 46 #[.val (.ref a0), .val (.ref a1), .val (.int p2), .val (.int p3)] [(.int (p3 - p2)), (.ref a0)])) _
    refine XS.i2l X5.here hx rfl (hb hby d2_46) rfl ?_
    show Steps p.tables e below (T5.setTop (mkF m 47 #[.val (.ref a0), .val (.ref a1), .val (.int p2), .val (.int p3)] [(.long ((p3 - p2).toInt64)), (.ref a0)])) _
    refine X5.ldc2Long hx hown (mvT hZ (hw _ (List.mem_of_getElem? (i := 22) rfl))) (g := (mkF m 47 #[.val (.ref a0), .val (.ref a1), .val (.int p2), .val (.int p3)] [(.long ((p3 - p2).toInt64)), (.ref a0)])) rfl (hb hby d2_47) _ ?_
    show Steps p.tables e below (T5.setTop (mkF m 50 #[.val (.ref a0), .val (.ref a1), .val (.int p2), .val (.int p3)] [(.long (8 : Int64)), (.long ((p3 - p2).toInt64)), (.ref a0)])) _
    refine XS.lmul X5.here hx rfl (hb hby d2_50) rfl ?_
    show Steps p.tables e below (T5.setTop (mkF m 51 #[.val (.ref a0), .val (.ref a1), .val (.int p2), .val (.int p3)] [(.long (((p3 - p2).toInt64) * (8 : Int64))), (.ref a0)])) _
    refine XS.aloadN X5.here hx rfl (hb hby d2_51) rfl rfl ?_
    show Steps p.tables e below (T5.setTop (mkF m 52 #[.val (.ref a0), .val (.ref a1), .val (.int p2), .val (.int p3)] [(.ref a1), (.long (((p3 - p2).toInt64) * (8 : Int64))), (.ref a0)])) _
    refine XS.iloadN X5.here hx rfl (hb hby d2_52) rfl ?_
    show Steps p.tables e below (T5.setTop (mkF m 53 #[.val (.ref a0), .val (.ref a1), .val (.int p2), .val (.int p3)] [(.int p3), (.ref a1), (.long (((p3 - p2).toInt64) * (8 : Int64))), (.ref a0)])) _
    refine XS.iconst X5.here hx rfl (hb hby d2_53) ?_
    show Steps p.tables e below (T5.setTop (mkF m 54 #[.val (.ref a0), .val (.ref a1), .val (.int p2), .val (.int p3)] [(.int (1 : Int32)), (.int p3), (.ref a1), (.long (((p3 - p2).toInt64) * (8 : Int64))), (.ref a0)])) _
    refine XS.isub X5.here hx rfl (hb hby d2_54) rfl ?_
    show Steps p.tables e below (T5.setTop (mkF m 55 #[.val (.ref a0), .val (.ref a1), .val (.int p2), .val (.int p3)] [(.int (p3 - (1 : Int32))), (.ref a1), (.long (((p3 - p2).toInt64) * (8 : Int64))), (.ref a0)])) _
    refine X5.baloadBytes hx (j := (p3 - (1 : Int32))) (v := (.int wb)) (by rw [e5]; exact Ar6.1) (State.isArrayOf_alike hZ.alike Ar6.2.1) Ar6.2.2 hin6 hat6 (g := (mkF m 55 #[.val (.ref a0), .val (.ref a1), .val (.int p2), .val (.int p3)] [(.int (p3 - (1 : Int32))), (.ref a1), (.long (((p3 - p2).toInt64) * (8 : Int64))), (.ref a0)])) rfl rfl (hb hby d2_55) _ ?_
    show Steps p.tables e below (T5.setTop (mkF m 56 #[.val (.ref a0), .val (.ref a1), .val (.int p2), .val (.int p3)] [(.int wb), (.long (((p3 - p2).toInt64) * (8 : Int64))), (.ref a0)])) _
    refine XS.sipush X5.here hx rfl (hb hby d2_56) ?_
    show Steps p.tables e below (T5.setTop (mkF m 59 #[.val (.ref a0), .val (.ref a1), .val (.int p2), .val (.int p3)] [(.int (255 : Int32)), (.int wb), (.long (((p3 - p2).toInt64) * (8 : Int64))), (.ref a0)])) _
    refine XS.iand X5.here hx rfl (hb hby d2_59) rfl ?_
    show Steps p.tables e below (T5.setTop (mkF m 60 #[.val (.ref a0), .val (.ref a1), .val (.int p2), .val (.int p3)] [(.int (wb &&& (255 : Int32))), (.long (((p3 - p2).toInt64) * (8 : Int64))), (.ref a0)])) _
    refine st7 _ ?_
    show Steps p.tables e below (T7.setTop (mkF m 63 #[.val (.ref a0), .val (.ref a1), .val (.int p2), .val (.int p3)] [(.int (f4 (wb &&& (255 : Int32)))), (.long (((p3 - p2).toInt64) * (8 : Int64))), (.ref a0)])) _
    refine XS.i2l X7.here hx rfl (hb hby d2_63) rfl ?_
    show Steps p.tables e below (T7.setTop (mkF m 64 #[.val (.ref a0), .val (.ref a1), .val (.int p2), .val (.int p3)] [(.long ((f4 (wb &&& (255 : Int32))).toInt64)), (.long (((p3 - p2).toInt64) * (8 : Int64))), (.ref a0)])) _
    refine XS.lsub X7.here hx rfl (hb hby d2_64) rfl ?_
    show Steps p.tables e below (T7.setTop (mkF m 65 #[.val (.ref a0), .val (.ref a1), .val (.int p2), .val (.int p3)] [(.long ((((p3 - p2).toInt64) * (8 : Int64)) - ((f4 (wb &&& (255 : Int32))).toInt64))), (.ref a0)])) _
    refine X7.ldc2Long hx hown (mvT hZ (hw _ (List.mem_of_getElem? (i := 28) rfl))) (g := (mkF m 65 #[.val (.ref a0), .val (.ref a1), .val (.int p2), .val (.int p3)] [(.long ((((p3 - p2).toInt64) * (8 : Int64)) - ((f4 (wb &&& (255 : Int32))).toInt64))), (.ref a0)])) rfl (hb hby d2_65) _ ?_
    show Steps p.tables e below (T7.setTop (mkF m 68 #[.val (.ref a0), .val (.ref a1), .val (.int p2), .val (.int p3)] [(.long (24 : Int64)), (.long ((((p3 - p2).toInt64) * (8 : Int64)) - ((f4 (wb &&& (255 : Int32))).toInt64))), (.ref a0)])) _
    refine XS.ladd X7.here hx rfl (hb hby d2_68) rfl ?_
    show Steps p.tables e below (T7.setTop (mkF m 69 #[.val (.ref a0), .val (.ref a1), .val (.int p2), .val (.int p3)] [(.long (((((p3 - p2).toInt64) * (8 : Int64)) - ((f4 (wb &&& (255 : Int32))).toInt64)) + (24 : Int64))), (.ref a0)])) _
    refine XS.lconst X7.here hx rfl (hb hby d2_69) ?_
    show Steps p.tables e below (T7.setTop (mkF m 70 #[.val (.ref a0), .val (.ref a1), .val (.int p2), .val (.int p3)] [(.long (1 : Int64)), (.long (((((p3 - p2).toInt64) * (8 : Int64)) - ((f4 (wb &&& (255 : Int32))).toInt64)) + (24 : Int64))), (.ref a0)])) _
    refine XS.lsub X7.here hx rfl (hb hby d2_70) rfl ?_
    show Steps p.tables e below (T7.setTop (mkF m 71 #[.val (.ref a0), .val (.ref a1), .val (.int p2), .val (.int p3)] [(.long ((((((p3 - p2).toInt64) * (8 : Int64)) - ((f4 (wb &&& (255 : Int32))).toInt64)) + (24 : Int64)) - (1 : Int64))), (.ref a0)])) _
    refine st8 _ ?_
    exact kt
  obtain ⟨fs, hr, hrun, hended, hW, hsame⟩ := X8.leave (v := none) (fun _ => rfl) (BodyLoose.notSynchronized Bd)
  refine ⟨_, _, ?_, hrun, hended, _, _, rfl, ?_, ⟨_, rfl⟩, hW, hsame.mono (by decide) (by decide)⟩
  · show Steps p.tables e below (T8.setTop (mkF m 74 #[.val (.ref a0), .val (.ref a1), .val (.int p2), .val (.int p3)] [])) _
    exact X8.returnOut hx Bd.returns (hb hby d2_74) hr
  · show Q2 Z a0 a1 p2 p3 wb h0 n0 _ T8.heap _
    rw [e8]
    exact ⟨rfl, N8, K8, f8_0, Fw8⟩
theorem d5_0 : decode prog_51_method_5_code 0 = .ok (.aload_n 0, 1) := by decide +kernel
theorem d5_1 : decode prog_51_method_5_code 1 = .ok (.getfield 37, 3) := by decide +kernel
theorem d5_4 : decode prog_51_method_5_code 4 = .ok (.lconst 0, 1) := by decide +kernel
theorem d5_5 : decode prog_51_method_5_code 5 = .ok (.lcmp, 1) := by decide +kernel
theorem d5_6 : decode prog_51_method_5_code 6 = .ok (.ifCond .ge 7, 3) := by decide +kernel
theorem d5_9 : decode prog_51_method_5_code 9 = .ok (.iconst 1, 1) := by decide +kernel
theorem d5_10 : decode prog_51_method_5_code 10 = .ok (.goto 4, 3) := by decide +kernel
theorem d5_13 : decode prog_51_method_5_code 13 = .ok (.iconst 0, 1) := by decide +kernel
theorem d5_14 : decode prog_51_method_5_code 14 = .ok (.ireturn, 1) := by decide +kernel
theorem pn_5 : plainName "com/example/urial/urial/protocol/BackwardBitReader" = true := by first | (simp [plainName, overriddenIn]; done) | decide +kernel
theorem ef_5 (m : MethodId) (x0 : Addr) : entryFrame m #[(.ref x0)] 1 = mkF m 0 #[.val (.ref x0)] [] := by first | (simp [entryFrame, mkF, argsToLocals, Value.category]; done) | rfl
def f5 (w : Int64) : Int32 := (if w < (0 : Int64) then (1 : Int32) else (0 : Int32))
def Q5 (Z : State) (a0 : Addr) (w : Int64) (h0 : Heap) (n0 : Nat) (v : Option Value) (h : Heap) (L : List Loc) : Prop := v = some (.int (f5 w)) ∧ Fr n0 L ∧ h = h0
set_option maxRecDepth 65536 in
set_option maxHeartbeats 40000000 in
theorem rm5 (l : Launch) (Z : State) (aw : Array Value) (hw : ∀ d ∈ tables_1, d.before aw Z = true) (ws : List Jvm.Cond) (a0 : Addr) (w : Int64) (h0 : Heap) (n0 : Nat) (Z0 : n0 ≤ h0.size) (F_left_a0 : Fld Z h0 a0 "com/example/urial/urial/protocol/BackwardBitReader" "left" "J" (.long w)) :
    MetFree l (⟨"com/example/urial/urial/protocol/BackwardBitReader", "overflowed", "()Z"⟩ : MethodName) (head1 (Jvm.Cond.code (⟨"com/example/urial/urial/protocol/BackwardBitReader", "overflowed", "()Z"⟩ : MethodName) prog_51_method_5_code 1 (some .boolean) :: ws) ({ frames := 0, cells := 0, slots := 0, locals := 0 } : Room)) (fun a U => a = #[(.ref a0)] ∧ Z.Warmed39 U.vm ∧ U.heap = h0) (fun _ _ _ _ _ => True) (fun _ U o U' => ∃ v L, o = .returned v ∧ Q5 Z a0 w h0 n0 v U'.heap L ∧ FrameEnd U o U' L ({ frames := 0, cells := 0, slots := 0, locals := 0 } : Room).cells ({ frames := 0, cells := 0, slots := 0, locals := 0 } : Room).slots) := by
  refine MetFree.of_bodySF (plainFor_of_name pn_5) hisR ?_
  intro p e s m args below meth c s₁ Bd hml0 hP hK
  obtain ⟨rfl, hZ, hh⟩ := hP
  have hx := Bd.exec
  have hby := Bd.bytes
  have hml : c.maxLocals = 1 := hml0
  have hown : s.vm.findClass "com/example/urial/urial/protocol/BackwardBitReader" = some m.cls := findClass_of_methodNamed Bd.named
  have hnm := (name_of_methodNamed Bd.named Bd.method).1
  have X0 : Stand p l e ({ frames := 0, cells := 0, slots := 0, locals := 0 } : Room) s m #[(.ref a0)] below meth c s₁ [] 0 0 := Stand.of_body Bd
  have e0 : s₁.heap = h0 := by rw [← hh, Bd.state]; rfl
  have N0 := Fr.nil n0
  refine own_back (b := s₁.setTop (mkF m 0 #[.val (.ref a0)] [])) (fun t kt => castTop (ef_5 m a0) kt) ?_
  obtain ⟨T1, X1, e1, st1⟩ := getF X0 hx hZ hown (host := "") (Or.inl (hw _ (List.mem_of_getElem? (i := 29) rfl))) Via.refl e0 F_left_a0 (g := (mkF m 1 #[.val (.ref a0)] [(.ref a0)])) rfl rfl (hb hby d5_1)
  refine own_back (b := T1.setTop (mkF m 6 #[.val (.ref a0)] [(.int (lcmpW w (0 : Int64)))])) (fun t kt => ?_) ?_
  · show Steps p.tables e below (s₁.setTop (mkF m 0 #[.val (.ref a0)] [])) _
    refine XS.aloadN X0.here hx rfl (hb hby d5_0) rfl rfl ?_
    show Steps p.tables e below (s₁.setTop (mkF m 1 #[.val (.ref a0)] [(.ref a0)])) _
    refine st1 _ ?_
    show Steps p.tables e below (T1.setTop (mkF m 4 #[.val (.ref a0)] [(.long w)])) _
    refine XS.lconst X1.here hx rfl (hb hby d5_4) ?_
    show Steps p.tables e below (T1.setTop (mkF m 5 #[.val (.ref a0)] [(.long (0 : Int64)), (.long w)])) _
    refine XS.lcmp X1.here hx rfl (hb hby d5_5) rfl ?_
    exact kt
  by_cases hc6_2 : w < (0 : Int64)
  · refine own_back (b := T1.setTop (mkF m 14 #[.val (.ref a0)] [(.int (1 : Int32))])) (fun t kt => ?_) ?_
    · show Steps p.tables e below (T1.setTop (mkF m 6 #[.val (.ref a0)] [(.int (lcmpW w (0 : Int64)))])) _
      refine XS.ifNo X1.here hx rfl (hb hby d5_6) rfl ((if0 _ _).trans (tlt ((lw_lt _ _).mpr hc6_2)).2.1) ?_
      show Steps p.tables e below (T1.setTop (mkF m 9 #[.val (.ref a0)] [])) _
      refine XS.iconst X1.here hx rfl (hb hby d5_9) ?_
      show Steps p.tables e below (T1.setTop (mkF m 10 #[.val (.ref a0)] [(.int (1 : Int32))])) _
      refine XS.goto X1.here hx rfl (pc0 := 10) (pc' := 14) rfl (hb hby d5_10) (by decide) (by decide) ?_
      exact kt
    obtain ⟨fs, hr, hrun, hended, hW, hsame⟩ := X1.leave (v := some (.int (1 : Int32))) (fun h => by rw [Bd.returns] at h; cases h) (BodyLoose.notSynchronized Bd)
    refine ⟨_, _, ?_, hrun, hended, _, _, rfl, ?_, ⟨_, rfl⟩, hW, hsame.mono (by decide) (by decide)⟩
    · show Steps p.tables e below (T1.setTop (mkF m 14 #[.val (.ref a0)] [(.int (1 : Int32))])) _
      exact retN X1 hx (t := .boolean) Bd.returns (by simp) (hb hby d5_14) hr
    · show Q5 Z a0 w h0 n0 _ T1.heap _
      rw [e1]
      exact ⟨by rw [show f5 w = (1 : Int32) from by unfold f5; rw [if_pos hc6_2]], N0, rfl⟩
  · refine own_back (b := T1.setTop (mkF m 14 #[.val (.ref a0)] [(.int (0 : Int32))])) (fun t kt => ?_) ?_
    · show Steps p.tables e below (T1.setTop (mkF m 6 #[.val (.ref a0)] [(.int (lcmpW w (0 : Int64)))])) _
      refine XS.ifYes X1.here hx rfl (pc0 := 6) (pc' := 13) rfl (hb hby d5_6) rfl ((if0 _ _).trans (flt (fun q => hc6_2 ((lw_lt _ _).mp q))).2.1) (by decide) (by decide) ?_
      show Steps p.tables e below (T1.setTop (mkF m 13 #[.val (.ref a0)] [])) _
      refine XS.iconst X1.here hx rfl (hb hby d5_13) ?_
      exact kt
    obtain ⟨fs, hr, hrun, hended, hW, hsame⟩ := X1.leave (v := some (.int (0 : Int32))) (fun h => by rw [Bd.returns] at h; cases h) (BodyLoose.notSynchronized Bd)
    refine ⟨_, _, ?_, hrun, hended, _, _, rfl, ?_, ⟨_, rfl⟩, hW, hsame.mono (by decide) (by decide)⟩
    · show Steps p.tables e below (T1.setTop (mkF m 14 #[.val (.ref a0)] [(.int (0 : Int32))])) _
      exact retN X1 hx (t := .boolean) Bd.returns (by simp) (hb hby d5_14) hr
    · show Q5 Z a0 w h0 n0 _ T1.heap _
      rw [e1]
      exact ⟨by rw [show f5 w = (0 : Int32) from by unfold f5; rw [if_neg hc6_2]], N0, rfl⟩
theorem d6_0 : decode prog_51_method_4_code 0 = .ok (.aload_n 0, 1) := by decide +kernel
theorem d6_1 : decode prog_51_method_4_code 1 = .ok (.dup, 1) := by decide +kernel
theorem d6_2 : decode prog_51_method_4_code 2 = .ok (.getfield 37, 3) := by decide +kernel
theorem d6_5 : decode prog_51_method_4_code 5 = .ok (.iload_n 1, 1) := by decide +kernel
theorem d6_6 : decode prog_51_method_4_code 6 = .ok (.i2l, 1) := by decide +kernel
theorem d6_7 : decode prog_51_method_4_code 7 = .ok (.lsub, 1) := by decide +kernel
theorem d6_8 : decode prog_51_method_4_code 8 = .ok (.putfield 37, 3) := by decide +kernel
theorem d6_11 : decode prog_51_method_4_code 11 = .ok (.return_, 1) := by decide +kernel
theorem pn_6 : plainName "com/example/urial/urial/protocol/BackwardBitReader" = true := by first | (simp [plainName, overriddenIn]; done) | decide +kernel
theorem ef_6 (m : MethodId) (x0 : Addr) (x1 : Int32) : entryFrame m #[(.ref x0), (.int x1)] 2 = mkF m 0 #[.val (.ref x0), .val (.int x1)] [] := by first | (simp [entryFrame, mkF, argsToLocals, Value.category]; done) | rfl
def Q6 (Z : State) (a0 : Addr) (p1 : Int32) (w : Int64) (h0 : Heap) (n0 : Nat) (v : Option Value) (h : Heap) (L : List Loc) : Prop := v = none ∧ Fr n0 L ∧ Keep h0 h [a0] ∧ Exa Z h a0 "com/example/urial/urial/protocol/BackwardBitReader" ∧ Fld Z h a0 "com/example/urial/urial/protocol/BackwardBitReader" "left" "J" (.long (w - (p1.toInt64)))
set_option maxRecDepth 65536 in
set_option maxHeartbeats 40000000 in
theorem rm6 (l : Launch) (Z : State) (aw : Array Value) (hw : ∀ d ∈ tables_1, d.before aw Z = true) (ws : List Jvm.Cond) (a0 : Addr) (p1 : Int32) (w : Int64) (h0 : Heap) (n0 : Nat) (Z0 : n0 ≤ h0.size) (F_left_a0 : Fld Z h0 a0 "com/example/urial/urial/protocol/BackwardBitReader" "left" "J" (.long w)) (E_a0 : Exa Z h0 a0 "com/example/urial/urial/protocol/BackwardBitReader") (g_a0 : n0 ≤ a0) :
    MetFree l (⟨"com/example/urial/urial/protocol/BackwardBitReader", "skip", "(I)V"⟩ : MethodName) (head1 (Jvm.Cond.code (⟨"com/example/urial/urial/protocol/BackwardBitReader", "skip", "(I)V"⟩ : MethodName) prog_51_method_4_code 2 none :: ws) ({ frames := 0, cells := 0, slots := 0, locals := 0 } : Room)) (fun a U => a = #[(.ref a0), (.int p1)] ∧ Z.Warmed39 U.vm ∧ U.heap = h0) (fun _ _ _ _ _ => True) (fun _ U o U' => ∃ v L, o = .returned v ∧ Q6 Z a0 p1 w h0 n0 v U'.heap L ∧ FrameEnd U o U' L ({ frames := 0, cells := 0, slots := 0, locals := 0 } : Room).cells ({ frames := 0, cells := 0, slots := 0, locals := 0 } : Room).slots) := by
  refine MetFree.of_bodySF (plainFor_of_name pn_6) hisR ?_
  intro p e s m args below meth c s₁ Bd hml0 hP hK
  obtain ⟨rfl, hZ, hh⟩ := hP
  have hx := Bd.exec
  have hby := Bd.bytes
  have hml : c.maxLocals = 2 := hml0
  have hown : s.vm.findClass "com/example/urial/urial/protocol/BackwardBitReader" = some m.cls := findClass_of_methodNamed Bd.named
  have hnm := (name_of_methodNamed Bd.named Bd.method).1
  have X0 : Stand p l e ({ frames := 0, cells := 0, slots := 0, locals := 0 } : Room) s m #[(.ref a0), (.int p1)] below meth c s₁ [] 0 0 := Stand.of_body Bd
  have e0 : s₁.heap = h0 := by rw [← hh, Bd.state]; rfl
  have N0 := Fr.nil n0
  refine own_back (b := s₁.setTop (mkF m 0 #[.val (.ref a0), .val (.int p1)] [])) (fun t kt => castTop (ef_6 m a0 p1) kt) ?_
  obtain ⟨T1, X1, e1, st1⟩ := getF X0 hx hZ hown (host := "") (Or.inl (hw _ (List.mem_of_getElem? (i := 29) rfl))) Via.refl e0 F_left_a0 (g := (mkF m 2 #[.val (.ref a0), .val (.int p1)] [(.ref a0), (.ref a0)])) rfl rfl (hb hby d6_2)
  obtain ⟨T2, h2, X2, e2, W2, st2⟩ := putF X1 hx hZ hown (host := "") (Or.inl (hw _ (List.mem_of_getElem? (i := 29) rfl))) Via.refl e1 F_left_a0 E_a0 (Or.inl (hw _ (List.mem_of_getElem? (i := 30) rfl))) (hw _ (List.mem_of_getElem? (i := 8) rfl)) (ty := .long) (by decide) rfl rfl (g := (mkF m 8 #[.val (.ref a0), .val (.int p1)] [(.long (w - (p1.toInt64))), (.ref a0)])) rfl rfl (hb hby d6_8)
  have Fw2 := F_left_a0.same W2
  have f2_0 := E_a0.wr W2
  have K2 : Keep h0 h2 [a0] := (Keep.refl h0 _).wr W2 (Or.inl (List.mem_of_getElem? (i := 0) rfl))
  have Z2 : n0 ≤ h2.size := Nat.le_trans Z0 (Keep.of_wr W2).1
  have N2 := Fr.snoc X2 N0 g_a0
  refine own_back (b := T2.setTop (mkF m 11 #[.val (.ref a0), .val (.int p1)] [])) (fun t kt => ?_) ?_
  · show Steps p.tables e below (s₁.setTop (mkF m 0 #[.val (.ref a0), .val (.int p1)] [])) _
    refine XS.aloadN X0.here hx rfl (hb hby d6_0) rfl rfl ?_
    show Steps p.tables e below (s₁.setTop (mkF m 1 #[.val (.ref a0), .val (.int p1)] [(.ref a0)])) _
    refine XS.dup X0.here hx rfl (hb hby d6_1) rfl rfl ?_
    show Steps p.tables e below (s₁.setTop (mkF m 2 #[.val (.ref a0), .val (.int p1)] [(.ref a0), (.ref a0)])) _
    refine st1 _ ?_
    show Steps p.tables e below (T1.setTop (mkF m 5 #[.val (.ref a0), .val (.int p1)] [(.long w), (.ref a0)])) _
    refine XS.iloadN X1.here hx rfl (hb hby d6_5) rfl ?_
    show Steps p.tables e below (T1.setTop (mkF m 6 #[.val (.ref a0), .val (.int p1)] [(.int p1), (.long w), (.ref a0)])) _
    refine XS.i2l X1.here hx rfl (hb hby d6_6) rfl ?_
    show Steps p.tables e below (T1.setTop (mkF m 7 #[.val (.ref a0), .val (.int p1)] [(.long (p1.toInt64)), (.long w), (.ref a0)])) _
    refine XS.lsub X1.here hx rfl (hb hby d6_7) rfl ?_
    show Steps p.tables e below (T1.setTop (mkF m 8 #[.val (.ref a0), .val (.int p1)] [(.long (w - (p1.toInt64))), (.ref a0)])) _
    refine st2 _ ?_
    exact kt
  obtain ⟨fs, hr, hrun, hended, hW, hsame⟩ := X2.leave (v := none) (fun _ => rfl) (BodyLoose.notSynchronized Bd)
  refine ⟨_, _, ?_, hrun, hended, _, _, rfl, ?_, ⟨_, rfl⟩, hW, hsame.mono (by decide) (by decide)⟩
  · show Steps p.tables e below (T2.setTop (mkF m 11 #[.val (.ref a0), .val (.int p1)] [])) _
    exact X2.returnOut hx Bd.returns (hb hby d6_11) hr
  · show Q6 Z a0 p1 w h0 n0 _ T2.heap _
    rw [e2]
    exact ⟨rfl, N2, K2, f2_0, Fw2⟩
theorem pn_0 : plainName "com/example/urial/urial/protocol/BackwardBitReaderOverflowedPinLaw" = true := by first | (simp [plainName, overriddenIn]; done) | decide +kernel
theorem pd_0_0 : parseMethodDescriptor "(I)I" = some ⟨[.int], some .int⟩ := by decide +kernel
theorem pd_0_1 : parseMethodDescriptor "([BII)V" = some ⟨[(.array .byte), .int, .int], none⟩ := by decide +kernel
theorem pd_0_2 : parseMethodDescriptor "()Z" = some ⟨[], some .boolean⟩ := by decide +kernel
theorem pd_0_3 : parseMethodDescriptor "(I)V" = some ⟨[.int], none⟩ := by decide +kernel
theorem ef_0 (m : MethodId) (x0 : Int32) (x1 : Int32) (x2 : Int32) (x3 : Int32) : entryFrame m #[(.int x0), (.int x1), (.int x2), (.int x3)] maxLocals = mkF m 0 #[.val (.int x0), .val (.int x1), .val (.int x2), .val (.int x3), .unset, .unset, .unset, .unset, .unset, .unset, .unset, .unset, .unset, .unset, .unset, .unset, .unset] [] := by first | (simp [entryFrame, mkF, argsToLocals, Value.category, maxLocals]; done) | rfl
def m0_0 (p0 : Int32) (p1 : Int32) (p2 : Int32) (p3 : Int32) : Int32 := ((1 : Int32) + (((p0.toUInt32 >>> ((1 : Int32) &&& 31).toUInt32).toInt32) &&& (3 : Int32)))
def m0_1 (p0 : Int32) (p1 : Int32) (p2 : Int32) (p3 : Int32) : Int32 := ((p0 &&& (1 : Int32)) + (m0_0 p0 p1 p2 p3))
def m0_2 (p0 : Int32) (p1 : Int32) (p2 : Int32) (p3 : Int32) : Int32 := (if (p1 &&& (255 : Int32)) = (0 : Int32) then (1 : Int32) else (p1 &&& (255 : Int32)))
def m0_3 (p0 : Int32) (p1 : Int32) (p2 : Int32) (p3 : Int32) : Int64 := (((8 : Int64) * (((m0_0 p0 p1 p2 p3) - (1 : Int32)).toInt64)) + ((f1 (m0_2 p0 p1 p2 p3)).toInt64))
def m0_4 (p0 : Int32) (p1 : Int32) (p2 : Int32) (p3 : Int32) : Int32 := ((p2 &&& (2147483647 : Int32)) % (33 : Int32))
def m0_5 (p0 : Int32) (p1 : Int32) (p2 : Int32) (p3 : Int32) : Int32 := ((p3 &&& (2147483647 : Int32)) % (33 : Int32))
def m0_6 (p0 : Int32) (p1 : Int32) (p2 : Int32) (p3 : Int32) : Int32 := (if (m0_3 p0 p1 p2 p3) < ((m0_4 p0 p1 p2 p3).toInt64) then (1 : Int32) else (0 : Int32))
def m0_7 (p0 : Int32) (p1 : Int32) (p2 : Int32) (p3 : Int32) : Int32 := (if (m0_3 p0 p1 p2 p3) < (((m0_4 p0 p1 p2 p3).toInt64) + ((m0_5 p0 p1 p2 p3).toInt64)) then (1 : Int32) else (0 : Int32))
theorem own_n (p0 p1 p2 p3 : Int32) : 1 ≤ (m0_0 p0 p1 p2 p3).toInt ∧ (m0_0 p0 p1 p2 p3).toInt ≤ 4 := by
  unfold m0_0
  generalize ((p0.toUInt32 >>> ((1 : Int32) &&& 31).toUInt32).toInt32) = z
  have h := c_mask z 3 2 (by decide) (by decide)
  have h3 := c_iadd 1 (z &&& 3)
  have r := rng32 ((1 : Int32) + (z &&& 3))
  have k1 : (1 : Int32).toInt = 1 := rfl
  have : (2 ^ 2 : Nat) = 4 := by decide
  omega
theorem own_s (p0 : Int32) : 0 ≤ (p0 &&& (1 : Int32)).toInt ∧ (p0 &&& (1 : Int32)).toInt ≤ 1 := by
  have h := c_mask p0 1 1 (by decide) (by decide)
  have : (2 ^ 1 : Nat) = 2 := by decide
  omega
theorem own_e (p0 p1 p2 p3 : Int32) : (m0_1 p0 p1 p2 p3).toInt = (p0 &&& (1 : Int32)).toInt + (m0_0 p0 p1 p2 p3).toInt := by
  unfold m0_1
  have h1 := own_n p0 p1 p2 p3
  have h2 := own_s p0
  have h3 := c_iadd (p0 &&& (1 : Int32)) (m0_0 p0 p1 p2 p3)
  have r := rng32 ((p0 &&& (1 : Int32)) + (m0_0 p0 p1 p2 p3))
  omega
theorem own_in (p0 p1 p2 p3 : Int32) : ¬ ((m0_1 p0 p1 p2 p3) - (1 : Int32)) < 0 ∧ ((m0_1 p0 p1 p2 p3) - (1 : Int32)) < (6 : Int32) := by
  have h0 := own_e p0 p1 p2 p3
  have h1 := own_n p0 p1 p2 p3
  have h2 := own_s p0
  have h3 := c_isub (m0_1 p0 p1 p2 p3) 1
  have r := rng32 ((m0_1 p0 p1 p2 p3) - (1 : Int32))
  have k1 : (1 : Int32).toInt = 1 := rfl
  have k0 : (0 : Int32).toInt = 0 := rfl
  have k4 : (6 : Int32).toInt = 6 := rfl
  rw [Int32.lt_iff_toInt_lt, Int32.lt_iff_toInt_lt, k0, k4]
  omega
theorem own_lt (p0 p1 p2 p3 : Int32) : (p0 &&& (1 : Int32)) < (m0_1 p0 p1 p2 p3) := by
  have h0 := own_e p0 p1 p2 p3
  have h1 := own_n p0 p1 p2 p3
  rw [Int32.lt_iff_toInt_lt]
  omega
theorem own_v (p0 p1 p2 p3 : Int32) : 1 ≤ (m0_2 p0 p1 p2 p3).toInt ∧ (m0_2 p0 p1 p2 p3).toInt ≤ 255 := by
  unfold m0_2
  have h := c_mask p1 255 8 (by decide) (by decide)
  have k1 : (1 : Int32).toInt = 1 := rfl
  have k0 : (0 : Int32).toInt = 0 := rfl
  have : (2 ^ 8 : Nat) = 256 := by decide
  split
  · rw [k1]; decide
  · rename_i q
    rw [← Int32.toInt_inj, k0] at q
    omega
theorem own_255 (P : Int32 → Prop) (k : Int32) (h : 1 ≤ k.toInt ∧ k.toInt ≤ 255) (hP : ∀ n : Fin 255, P (Int32.ofNat (n.val + 1))) : P k := by
  have e : k = Int32.ofNat ((k.toInt - 1).toNat + 1) := by
    apply Int32.toInt_inj.mp
    rw [Int32.toInt_ofNat_of_lt (by omega)]; omega
  rw [e]
  exact hP ⟨(k.toInt - 1).toNat, by omega⟩
theorem own_wb (k : Int32) (h : 1 ≤ k.toInt ∧ k.toInt ≤ 255) : ¬ ((k.toInt8.toInt32).toInt8.toInt32) = (0 : Int32) := own_255 (fun k => ¬ ((k.toInt8.toInt32).toInt8.toInt32) = (0 : Int32)) k h (by decide +kernel)
theorem own_nlz (k : Int32) (h : 1 ≤ k.toInt ∧ k.toInt ≤ 255) : f4 (((k.toInt8.toInt32).toInt8.toInt32) &&& (255 : Int32)) = 31 - f1 k ∧ 0 ≤ (f1 k).toInt ∧ (f1 k).toInt ≤ 7 := own_255 (fun k => f4 (((k.toInt8.toInt32).toInt8.toInt32) &&& (255 : Int32)) = 31 - f1 k ∧ 0 ≤ (f1 k).toInt ∧ (f1 k).toInt ≤ 7) k h (by decide +kernel)
def f0 (p0 : Int32) (p1 : Int32) (p2 : Int32) (p3 : Int32) : Int32 := (if (f5 (((((((m0_1 p0 p1 p2 p3) - (p0 &&& (1 : Int32))).toInt64) * (8 : Int64)) - ((f4 ((((m0_2 p0 p1 p2 p3).toInt8.toInt32).toInt8.toInt32) &&& (255 : Int32))).toInt64)) + (24 : Int64)) - (1 : Int64))) = (0 : Int32) then (if (f5 ((((((((m0_1 p0 p1 p2 p3) - (p0 &&& (1 : Int32))).toInt64) * (8 : Int64)) - ((f4 ((((m0_2 p0 p1 p2 p3).toInt8.toInt32).toInt8.toInt32) &&& (255 : Int32))).toInt64)) + (24 : Int64)) - (1 : Int64)) - ((m0_4 p0 p1 p2 p3).toInt64))) = (m0_6 p0 p1 p2 p3) then (if (f5 (((((((((m0_1 p0 p1 p2 p3) - (p0 &&& (1 : Int32))).toInt64) * (8 : Int64)) - ((f4 ((((m0_2 p0 p1 p2 p3).toInt8.toInt32).toInt8.toInt32) &&& (255 : Int32))).toInt64)) + (24 : Int64)) - (1 : Int64)) - ((m0_4 p0 p1 p2 p3).toInt64)) - ((m0_5 p0 p1 p2 p3).toInt64))) = (m0_7 p0 p1 p2 p3) then (1 : Int32) else (0 : Int32)) else (0 : Int32)) else (0 : Int32))
def Q0 (Z : State) (p0 : Int32) (p1 : Int32) (p2 : Int32) (p3 : Int32) (h0 : Heap) (n0 : Nat) (v : Option Value) (h : Heap) (L : List Loc) : Prop := v = some (.int (f0 p0 p1 p2 p3)) ∧ Fr n0 L
set_option maxRecDepth 65536 in
set_option maxHeartbeats 40000000 in
theorem rm0 (l : Launch) (Z : State) (aw : Array Value) (hw : ∀ d ∈ tables_1, d.before aw Z = true) (ws : List Jvm.Cond) (p0 : Int32) (p1 : Int32) (p2 : Int32) (p3 : Int32) (h0 : Heap) (n0 : Nat) (Z0 : n0 ≤ h0.size) :
    MetFree l x (head1 (Jvm.Cond.code x code maxLocals ret :: ws) room_1) (fun a U => a = #[(.int p0), (.int p1), (.int p2), (.int p3)] ∧ Z.Warmed39 U.vm ∧ U.heap = h0) (fun _ _ _ _ _ => True) (fun _ U o U' => ∃ v L, o = .returned v ∧ Q0 Z p0 p1 p2 p3 h0 n0 v U'.heap L ∧ FrameEnd U o U' L room_1.cells room_1.slots) := by
  refine MetFree.of_bodySF (plainFor_of_name pn_0) hisR ?_
  intro p e s m args below meth c s₁ Bd hml0 hP hK
  obtain ⟨rfl, hZ, hh⟩ := hP
  have hx := Bd.exec
  have hby := Bd.bytes
  have hml : c.maxLocals = 17 := hml0
  have hown : s.vm.findClass "com/example/urial/urial/protocol/BackwardBitReaderOverflowedPinLaw" = some m.cls := findClass_of_methodNamed Bd.named
  have hnm := (name_of_methodNamed Bd.named Bd.method).1
  have X0 : Stand p l e room_1 s m #[(.int p0), (.int p1), (.int p2), (.int p3)] below meth c s₁ [] 0 0 := Stand.of_body Bd
  have e0 : s₁.heap = h0 := by rw [← hh, Bd.state]; rfl
  have N0 := Fr.nil n0
  refine own_back (b := s₁.setTop (mkF m 0 #[.val (.int p0), .val (.int p1), .val (.int p2), .val (.int p3), .unset, .unset, .unset, .unset, .unset, .unset, .unset, .unset, .unset, .unset, .unset, .unset, .unset] [])) (fun t kt => castTop (ef_0 m p0 p1 p2 p3) kt) ?_
  refine own_back (b := s₁.setTop (mkF m 30 #[.val (.int p0), .val (.int p1), .val (.int p2), .val (.int p3), .val (.int (p0 &&& (1 : Int32))), .val (.int (m0_0 p0 p1 p2 p3)), .val (.int (m0_1 p0 p1 p2 p3)), .val (.int (p1 &&& (255 : Int32))), .unset, .unset, .unset, .unset, .unset, .unset, .unset, .unset, .unset] [(.int (p1 &&& (255 : Int32)))])) (fun t kt => ?_) ?_
  · show Steps p.tables e below (s₁.setTop (mkF m 0 #[.val (.int p0), .val (.int p1), .val (.int p2), .val (.int p3), .unset, .unset, .unset, .unset, .unset, .unset, .unset, .unset, .unset, .unset, .unset, .unset, .unset] [])) _
    refine XS.iloadN X0.here hx rfl (hb hby at_0) rfl ?_
    show Steps p.tables e below (s₁.setTop (mkF m 1 #[.val (.int p0), .val (.int p1), .val (.int p2), .val (.int p3), .unset, .unset, .unset, .unset, .unset, .unset, .unset, .unset, .unset, .unset, .unset, .unset, .unset] [(.int p0)])) _
    refine XS.iconst X0.here hx rfl (hb hby at_1) ?_
    show Steps p.tables e below (s₁.setTop (mkF m 2 #[.val (.int p0), .val (.int p1), .val (.int p2), .val (.int p3), .unset, .unset, .unset, .unset, .unset, .unset, .unset, .unset, .unset, .unset, .unset, .unset, .unset] [(.int (1 : Int32)), (.int p0)])) _
    refine XS.iand X0.here hx rfl (hb hby at_2) rfl ?_
    show Steps p.tables e below (s₁.setTop (mkF m 3 #[.val (.int p0), .val (.int p1), .val (.int p2), .val (.int p3), .unset, .unset, .unset, .unset, .unset, .unset, .unset, .unset, .unset, .unset, .unset, .unset, .unset] [(.int (p0 &&& (1 : Int32)))])) _
    refine XS.istore X0.here hx rfl (hb hby at_3) rfl (l' := #[.val (.int p0), .val (.int p1), .val (.int p2), .val (.int p3), .val (.int (p0 &&& (1 : Int32))), .unset, .unset, .unset, .unset, .unset, .unset, .unset, .unset, .unset, .unset, .unset, .unset]) rfl ?_
    show Steps p.tables e below (s₁.setTop (mkF m 5 #[.val (.int p0), .val (.int p1), .val (.int p2), .val (.int p3), .val (.int (p0 &&& (1 : Int32))), .unset, .unset, .unset, .unset, .unset, .unset, .unset, .unset, .unset, .unset, .unset, .unset] [])) _
    refine XS.iconst X0.here hx rfl (hb hby at_5) ?_
    show Steps p.tables e below (s₁.setTop (mkF m 6 #[.val (.int p0), .val (.int p1), .val (.int p2), .val (.int p3), .val (.int (p0 &&& (1 : Int32))), .unset, .unset, .unset, .unset, .unset, .unset, .unset, .unset, .unset, .unset, .unset, .unset] [(.int (1 : Int32))])) _
    refine XS.iloadN X0.here hx rfl (hb hby at_6) rfl ?_
    show Steps p.tables e below (s₁.setTop (mkF m 7 #[.val (.int p0), .val (.int p1), .val (.int p2), .val (.int p3), .val (.int (p0 &&& (1 : Int32))), .unset, .unset, .unset, .unset, .unset, .unset, .unset, .unset, .unset, .unset, .unset, .unset] [(.int p0), (.int (1 : Int32))])) _
    refine XS.iconst X0.here hx rfl (hb hby at_7) ?_
    show Steps p.tables e below (s₁.setTop (mkF m 8 #[.val (.int p0), .val (.int p1), .val (.int p2), .val (.int p3), .val (.int (p0 &&& (1 : Int32))), .unset, .unset, .unset, .unset, .unset, .unset, .unset, .unset, .unset, .unset, .unset, .unset] [(.int (1 : Int32)), (.int p0), (.int (1 : Int32))])) _
    refine XS.iushr X0.here hx rfl (hb hby at_8) rfl ?_
    show Steps p.tables e below (s₁.setTop (mkF m 9 #[.val (.int p0), .val (.int p1), .val (.int p2), .val (.int p3), .val (.int (p0 &&& (1 : Int32))), .unset, .unset, .unset, .unset, .unset, .unset, .unset, .unset, .unset, .unset, .unset, .unset] [(.int ((p0.toUInt32 >>> ((1 : Int32) &&& 31).toUInt32).toInt32)), (.int (1 : Int32))])) _
    refine XS.iconst X0.here hx rfl (hb hby at_9) ?_
    show Steps p.tables e below (s₁.setTop (mkF m 10 #[.val (.int p0), .val (.int p1), .val (.int p2), .val (.int p3), .val (.int (p0 &&& (1 : Int32))), .unset, .unset, .unset, .unset, .unset, .unset, .unset, .unset, .unset, .unset, .unset, .unset] [(.int (3 : Int32)), (.int ((p0.toUInt32 >>> ((1 : Int32) &&& 31).toUInt32).toInt32)), (.int (1 : Int32))])) _
    refine XS.iand X0.here hx rfl (hb hby at_10) rfl ?_
    show Steps p.tables e below (s₁.setTop (mkF m 11 #[.val (.int p0), .val (.int p1), .val (.int p2), .val (.int p3), .val (.int (p0 &&& (1 : Int32))), .unset, .unset, .unset, .unset, .unset, .unset, .unset, .unset, .unset, .unset, .unset, .unset] [(.int (((p0.toUInt32 >>> ((1 : Int32) &&& 31).toUInt32).toInt32) &&& (3 : Int32))), (.int (1 : Int32))])) _
    refine XS.iadd X0.here hx rfl (hb hby at_11) rfl ?_
    show Steps p.tables e below (s₁.setTop (mkF m 12 #[.val (.int p0), .val (.int p1), .val (.int p2), .val (.int p3), .val (.int (p0 &&& (1 : Int32))), .unset, .unset, .unset, .unset, .unset, .unset, .unset, .unset, .unset, .unset, .unset, .unset] [(.int ((1 : Int32) + (((p0.toUInt32 >>> ((1 : Int32) &&& 31).toUInt32).toInt32) &&& (3 : Int32))))])) _
    refine XS.istore X0.here hx rfl (hb hby at_12) rfl (l' := #[.val (.int p0), .val (.int p1), .val (.int p2), .val (.int p3), .val (.int (p0 &&& (1 : Int32))), .val (.int (m0_0 p0 p1 p2 p3)), .unset, .unset, .unset, .unset, .unset, .unset, .unset, .unset, .unset, .unset, .unset]) rfl ?_
    show Steps p.tables e below (s₁.setTop (mkF m 14 #[.val (.int p0), .val (.int p1), .val (.int p2), .val (.int p3), .val (.int (p0 &&& (1 : Int32))), .val (.int (m0_0 p0 p1 p2 p3)), .unset, .unset, .unset, .unset, .unset, .unset, .unset, .unset, .unset, .unset, .unset] [])) _
    refine XS.iload X0.here hx rfl (hb hby at_14) rfl ?_
    show Steps p.tables e below (s₁.setTop (mkF m 16 #[.val (.int p0), .val (.int p1), .val (.int p2), .val (.int p3), .val (.int (p0 &&& (1 : Int32))), .val (.int (m0_0 p0 p1 p2 p3)), .unset, .unset, .unset, .unset, .unset, .unset, .unset, .unset, .unset, .unset, .unset] [(.int (p0 &&& (1 : Int32)))])) _
    refine XS.iload X0.here hx rfl (hb hby at_16) rfl ?_
    show Steps p.tables e below (s₁.setTop (mkF m 18 #[.val (.int p0), .val (.int p1), .val (.int p2), .val (.int p3), .val (.int (p0 &&& (1 : Int32))), .val (.int (m0_0 p0 p1 p2 p3)), .unset, .unset, .unset, .unset, .unset, .unset, .unset, .unset, .unset, .unset, .unset] [(.int (m0_0 p0 p1 p2 p3)), (.int (p0 &&& (1 : Int32)))])) _
    refine XS.iadd X0.here hx rfl (hb hby at_18) rfl ?_
    show Steps p.tables e below (s₁.setTop (mkF m 19 #[.val (.int p0), .val (.int p1), .val (.int p2), .val (.int p3), .val (.int (p0 &&& (1 : Int32))), .val (.int (m0_0 p0 p1 p2 p3)), .unset, .unset, .unset, .unset, .unset, .unset, .unset, .unset, .unset, .unset, .unset] [(.int ((p0 &&& (1 : Int32)) + (m0_0 p0 p1 p2 p3)))])) _
    refine XS.istore X0.here hx rfl (hb hby at_19) rfl (l' := #[.val (.int p0), .val (.int p1), .val (.int p2), .val (.int p3), .val (.int (p0 &&& (1 : Int32))), .val (.int (m0_0 p0 p1 p2 p3)), .val (.int (m0_1 p0 p1 p2 p3)), .unset, .unset, .unset, .unset, .unset, .unset, .unset, .unset, .unset, .unset]) rfl ?_
    show Steps p.tables e below (s₁.setTop (mkF m 21 #[.val (.int p0), .val (.int p1), .val (.int p2), .val (.int p3), .val (.int (p0 &&& (1 : Int32))), .val (.int (m0_0 p0 p1 p2 p3)), .val (.int (m0_1 p0 p1 p2 p3)), .unset, .unset, .unset, .unset, .unset, .unset, .unset, .unset, .unset, .unset] [])) _
    refine XS.iloadN X0.here hx rfl (hb hby at_21) rfl ?_
    show Steps p.tables e below (s₁.setTop (mkF m 22 #[.val (.int p0), .val (.int p1), .val (.int p2), .val (.int p3), .val (.int (p0 &&& (1 : Int32))), .val (.int (m0_0 p0 p1 p2 p3)), .val (.int (m0_1 p0 p1 p2 p3)), .unset, .unset, .unset, .unset, .unset, .unset, .unset, .unset, .unset, .unset] [(.int p1)])) _
    refine XS.sipush X0.here hx rfl (hb hby at_22) ?_
    show Steps p.tables e below (s₁.setTop (mkF m 25 #[.val (.int p0), .val (.int p1), .val (.int p2), .val (.int p3), .val (.int (p0 &&& (1 : Int32))), .val (.int (m0_0 p0 p1 p2 p3)), .val (.int (m0_1 p0 p1 p2 p3)), .unset, .unset, .unset, .unset, .unset, .unset, .unset, .unset, .unset, .unset] [(.int (255 : Int32)), (.int p1)])) _
    refine XS.iand X0.here hx rfl (hb hby at_25) rfl ?_
    show Steps p.tables e below (s₁.setTop (mkF m 26 #[.val (.int p0), .val (.int p1), .val (.int p2), .val (.int p3), .val (.int (p0 &&& (1 : Int32))), .val (.int (m0_0 p0 p1 p2 p3)), .val (.int (m0_1 p0 p1 p2 p3)), .unset, .unset, .unset, .unset, .unset, .unset, .unset, .unset, .unset, .unset] [(.int (p1 &&& (255 : Int32)))])) _
    refine XS.istore X0.here hx rfl (hb hby at_26) rfl (l' := #[.val (.int p0), .val (.int p1), .val (.int p2), .val (.int p3), .val (.int (p0 &&& (1 : Int32))), .val (.int (m0_0 p0 p1 p2 p3)), .val (.int (m0_1 p0 p1 p2 p3)), .val (.int (p1 &&& (255 : Int32))), .unset, .unset, .unset, .unset, .unset, .unset, .unset, .unset, .unset]) rfl ?_
    show Steps p.tables e below (s₁.setTop (mkF m 28 #[.val (.int p0), .val (.int p1), .val (.int p2), .val (.int p3), .val (.int (p0 &&& (1 : Int32))), .val (.int (m0_0 p0 p1 p2 p3)), .val (.int (m0_1 p0 p1 p2 p3)), .val (.int (p1 &&& (255 : Int32))), .unset, .unset, .unset, .unset, .unset, .unset, .unset, .unset, .unset] [])) _
    refine XS.iload X0.here hx rfl (hb hby at_28) rfl ?_
    exact kt
  refine own_back (b := s₁.setTop (mkF m 36 #[.val (.int p0), .val (.int p1), .val (.int p2), .val (.int p3), .val (.int (p0 &&& (1 : Int32))), .val (.int (m0_0 p0 p1 p2 p3)), .val (.int (m0_1 p0 p1 p2 p3)), .val (.int (m0_2 p0 p1 p2 p3)), .unset, .unset, .unset, .unset, .unset, .unset, .unset, .unset, .unset] [])) (fun t kt => ?_) ?_
  · by_cases hm30_1 : (p1 &&& (255 : Int32)) = (0 : Int32)
    · rw [show (m0_2 p0 p1 p2 p3) = (1 : Int32) from by unfold m0_2; rw [if_pos hm30_1]] at kt
      show Steps p.tables e below (s₁.setTop (mkF m 30 #[.val (.int p0), .val (.int p1), .val (.int p2), .val (.int p3), .val (.int (p0 &&& (1 : Int32))), .val (.int (m0_0 p0 p1 p2 p3)), .val (.int (m0_1 p0 p1 p2 p3)), .val (.int (p1 &&& (255 : Int32))), .unset, .unset, .unset, .unset, .unset, .unset, .unset, .unset, .unset] [(.int (p1 &&& (255 : Int32)))])) _
      refine XS.ifNo X0.here hx rfl (hb hby at_30) rfl ((if0 _ _).trans (teq hm30_1).2) ?_
      show Steps p.tables e below (s₁.setTop (mkF m 33 #[.val (.int p0), .val (.int p1), .val (.int p2), .val (.int p3), .val (.int (p0 &&& (1 : Int32))), .val (.int (m0_0 p0 p1 p2 p3)), .val (.int (m0_1 p0 p1 p2 p3)), .val (.int (p1 &&& (255 : Int32))), .unset, .unset, .unset, .unset, .unset, .unset, .unset, .unset, .unset] [])) _
      refine XS.iconst X0.here hx rfl (hb hby at_33) ?_
      show Steps p.tables e below (s₁.setTop (mkF m 34 #[.val (.int p0), .val (.int p1), .val (.int p2), .val (.int p3), .val (.int (p0 &&& (1 : Int32))), .val (.int (m0_0 p0 p1 p2 p3)), .val (.int (m0_1 p0 p1 p2 p3)), .val (.int (p1 &&& (255 : Int32))), .unset, .unset, .unset, .unset, .unset, .unset, .unset, .unset, .unset] [(.int (1 : Int32))])) _
      refine XS.istore X0.here hx rfl (hb hby at_34) rfl (l' := #[.val (.int p0), .val (.int p1), .val (.int p2), .val (.int p3), .val (.int (p0 &&& (1 : Int32))), .val (.int (m0_0 p0 p1 p2 p3)), .val (.int (m0_1 p0 p1 p2 p3)), .val (.int (1 : Int32)), .unset, .unset, .unset, .unset, .unset, .unset, .unset, .unset, .unset]) rfl ?_
      exact kt
    · rw [show (m0_2 p0 p1 p2 p3) = (p1 &&& (255 : Int32)) from by unfold m0_2; rw [if_neg hm30_1]] at kt
      show Steps p.tables e below (s₁.setTop (mkF m 30 #[.val (.int p0), .val (.int p1), .val (.int p2), .val (.int p3), .val (.int (p0 &&& (1 : Int32))), .val (.int (m0_0 p0 p1 p2 p3)), .val (.int (m0_1 p0 p1 p2 p3)), .val (.int (p1 &&& (255 : Int32))), .unset, .unset, .unset, .unset, .unset, .unset, .unset, .unset, .unset] [(.int (p1 &&& (255 : Int32)))])) _
      refine XS.ifYes X0.here hx rfl (pc0 := 30) (pc' := 36) rfl (hb hby at_30) rfl ((if0 _ _).trans (feq hm30_1).2) (by decide) (by decide) ?_
      exact kt
  obtain ⟨T2, h2, k2, X2, e2, E2, A2, st2⟩ := newP X0 hx hZ (hw _ (List.mem_of_getElem? (i := 0) rfl)) e0 (g := (mkF m 38 #[.val (.int p0), .val (.int p1), .val (.int p2), .val (.int p3), .val (.int (p0 &&& (1 : Int32))), .val (.int (m0_0 p0 p1 p2 p3)), .val (.int (m0_1 p0 p1 p2 p3)), .val (.int (m0_2 p0 p1 p2 p3)), .unset, .unset, .unset, .unset, .unset, .unset, .unset, .unset, .unset] [(.int (6 : Int32))])) rfl (hb hby at_38) rfl (by decide) (cap := 6) (by decide) (by decide) (by decide) (by decide)
  obtain ⟨b2, g2⟩ : ∃ z, z = h0.size := ⟨_, rfl⟩
  rw [← g2] at A2 st2
  have lo2 : n0 ≤ b2 := Nat.le_trans Z0 (Nat.le_of_eq g2.symm)
  have sz2 : h0.size ≤ b2 := Nat.le_trans (Nat.le_refl _) (Nat.le_of_eq g2.symm)
  have K2 : Keep h0 h2 [] := (Keep.refl h0 _).ext E2
  have Z2 : n0 ≤ h2.size := Nat.le_trans Z0 E2.1
  have V2 : Arv Z h2 b2 k2 .byte (6 : Int32) [(.int (0 : Int32)), (.int (0 : Int32)), (.int (0 : Int32)), (.int (0 : Int32)), (.int (0 : Int32)), (.int (0 : Int32))] (.int (0 : Int32)) := (Arv.new A2 (by decide)).pad (pad_rep [] (.int (0 : Int32)) 6)
  obtain ⟨cl3, Ar3, qk3, S3, N3', Hh3, G3⟩ := own_same V2
  have hin3 : ¬ ((0 : Int32) < 0 ∨ cl3.slots.size ≤ ((0 : Int32)).toNatClampNeg) := inb_of S3 ⟨by decide, by decide⟩
  obtain ⟨T4, h4, X4, e4, W4, st4⟩ := stB X2 hx hZ e2 Ar3 (j := (0 : Int32)) hin3 (g := (mkF m 50 #[.val (.int p0), .val (.int p1), .val (.int p2), .val (.int p3), .val (.int (p0 &&& (1 : Int32))), .val (.int (m0_0 p0 p1 p2 p3)), .val (.int (m0_1 p0 p1 p2 p3)), .val (.int (m0_2 p0 p1 p2 p3)), .val (.ref b2), .unset, .unset, .unset, .unset, .unset, .unset, .unset, .unset] [(.int (((p0.toUInt32 >>> ((8 : Int32) &&& 31).toUInt32).toInt32).toInt8.toInt32)), (.int (0 : Int32)), (.ref b2)])) rfl rfl (hb hby at_50)
  have V4 : Arv Z h4 b2 k2 .byte (6 : Int32) [(.int ((((p0.toUInt32 >>> ((8 : Int32) &&& 31).toUInt32).toInt32).toInt8.toInt32).toInt8.toInt32)), (.int (0 : Int32)), (.int (0 : Int32)), (.int (0 : Int32)), (.int (0 : Int32)), (.int (0 : Int32))] (.int (0 : Int32)) := Arv.set Ar3 qk3 S3 N3' Hh3 G3 (fits_nar_byte _) W4 0 rfl (Nat.le_of_ble_eq_true rfl)
  have K4 : Keep h0 h4 [] := K2.wr W4 (Or.inr sz2)
  have Z4 : n0 ≤ h4.size := Nat.le_trans Z2 (Keep.of_wr W4).1
  have N4 := Fr.snoc X4 N0 lo2
  obtain ⟨cl5, Ar5, qk5, S5, N5', Hh5, G5⟩ := own_same V4
  have hin5 : ¬ ((1 : Int32) < 0 ∨ cl5.slots.size ≤ ((1 : Int32)).toNatClampNeg) := inb_of S5 ⟨by decide, by decide⟩
  obtain ⟨T6, h6, X6, e6, W6, st6⟩ := stB X4 hx hZ e4 Ar5 (j := (1 : Int32)) hin5 (g := (mkF m 59 #[.val (.int p0), .val (.int p1), .val (.int p2), .val (.int p3), .val (.int (p0 &&& (1 : Int32))), .val (.int (m0_0 p0 p1 p2 p3)), .val (.int (m0_1 p0 p1 p2 p3)), .val (.int (m0_2 p0 p1 p2 p3)), .val (.ref b2), .unset, .unset, .unset, .unset, .unset, .unset, .unset, .unset] [(.int (((p0.toUInt32 >>> ((16 : Int32) &&& 31).toUInt32).toInt32).toInt8.toInt32)), (.int (1 : Int32)), (.ref b2)])) rfl rfl (hb hby at_59)
  have V6 : Arv Z h6 b2 k2 .byte (6 : Int32) [(.int ((((p0.toUInt32 >>> ((8 : Int32) &&& 31).toUInt32).toInt32).toInt8.toInt32).toInt8.toInt32)), (.int ((((p0.toUInt32 >>> ((16 : Int32) &&& 31).toUInt32).toInt32).toInt8.toInt32).toInt8.toInt32)), (.int (0 : Int32)), (.int (0 : Int32)), (.int (0 : Int32)), (.int (0 : Int32))] (.int (0 : Int32)) := Arv.set Ar5 qk5 S5 N5' Hh5 G5 (fits_nar_byte _) W6 1 rfl (Nat.le_of_ble_eq_true rfl)
  have K6 : Keep h0 h6 [] := K4.wr W6 (Or.inr sz2)
  have Z6 : n0 ≤ h6.size := Nat.le_trans Z4 (Keep.of_wr W6).1
  have N6 := Fr.snoc X6 N4 lo2
  obtain ⟨cl7, Ar7, qk7, S7, N7', Hh7, G7⟩ := own_same V6
  have hin7 : ¬ ((2 : Int32) < 0 ∨ cl7.slots.size ≤ ((2 : Int32)).toNatClampNeg) := inb_of S7 ⟨by decide, by decide⟩
  obtain ⟨T8, h8, X8, e8, W8, st8⟩ := stB X6 hx hZ e6 Ar7 (j := (2 : Int32)) hin7 (g := (mkF m 68 #[.val (.int p0), .val (.int p1), .val (.int p2), .val (.int p3), .val (.int (p0 &&& (1 : Int32))), .val (.int (m0_0 p0 p1 p2 p3)), .val (.int (m0_1 p0 p1 p2 p3)), .val (.int (m0_2 p0 p1 p2 p3)), .val (.ref b2), .unset, .unset, .unset, .unset, .unset, .unset, .unset, .unset] [(.int (((p0.toUInt32 >>> ((24 : Int32) &&& 31).toUInt32).toInt32).toInt8.toInt32)), (.int (2 : Int32)), (.ref b2)])) rfl rfl (hb hby at_68)
  have V8 : Arv Z h8 b2 k2 .byte (6 : Int32) [(.int ((((p0.toUInt32 >>> ((8 : Int32) &&& 31).toUInt32).toInt32).toInt8.toInt32).toInt8.toInt32)), (.int ((((p0.toUInt32 >>> ((16 : Int32) &&& 31).toUInt32).toInt32).toInt8.toInt32).toInt8.toInt32)), (.int ((((p0.toUInt32 >>> ((24 : Int32) &&& 31).toUInt32).toInt32).toInt8.toInt32).toInt8.toInt32)), (.int (0 : Int32)), (.int (0 : Int32)), (.int (0 : Int32))] (.int (0 : Int32)) := Arv.set Ar7 qk7 S7 N7' Hh7 G7 (fits_nar_byte _) W8 2 rfl (Nat.le_of_ble_eq_true rfl)
  have K8 : Keep h0 h8 [] := K6.wr W8 (Or.inr sz2)
  have Z8 : n0 ≤ h8.size := Nat.le_trans Z6 (Keep.of_wr W8).1
  have N8 := Fr.snoc X8 N6 lo2
  obtain ⟨cl9, Ar9, qk9, S9, N9', Hh9, G9⟩ := own_same V8
  have hin9 : ¬ ((3 : Int32) < 0 ∨ cl9.slots.size ≤ ((3 : Int32)).toNatClampNeg) := inb_of S9 ⟨by decide, by decide⟩
  obtain ⟨T10, h10, X10, e10, W10, st10⟩ := stB X8 hx hZ e8 Ar9 (j := (3 : Int32)) hin9 (g := (mkF m 77 #[.val (.int p0), .val (.int p1), .val (.int p2), .val (.int p3), .val (.int (p0 &&& (1 : Int32))), .val (.int (m0_0 p0 p1 p2 p3)), .val (.int (m0_1 p0 p1 p2 p3)), .val (.int (m0_2 p0 p1 p2 p3)), .val (.ref b2), .unset, .unset, .unset, .unset, .unset, .unset, .unset, .unset] [(.int (((p1.toUInt32 >>> ((8 : Int32) &&& 31).toUInt32).toInt32).toInt8.toInt32)), (.int (3 : Int32)), (.ref b2)])) rfl rfl (hb hby at_77)
  have V10 : Arv Z h10 b2 k2 .byte (6 : Int32) [(.int ((((p0.toUInt32 >>> ((8 : Int32) &&& 31).toUInt32).toInt32).toInt8.toInt32).toInt8.toInt32)), (.int ((((p0.toUInt32 >>> ((16 : Int32) &&& 31).toUInt32).toInt32).toInt8.toInt32).toInt8.toInt32)), (.int ((((p0.toUInt32 >>> ((24 : Int32) &&& 31).toUInt32).toInt32).toInt8.toInt32).toInt8.toInt32)), (.int ((((p1.toUInt32 >>> ((8 : Int32) &&& 31).toUInt32).toInt32).toInt8.toInt32).toInt8.toInt32)), (.int (0 : Int32)), (.int (0 : Int32))] (.int (0 : Int32)) := Arv.set Ar9 qk9 S9 N9' Hh9 G9 (fits_nar_byte _) W10 3 rfl (Nat.le_of_ble_eq_true rfl)
  have K10 : Keep h0 h10 [] := K8.wr W10 (Or.inr sz2)
  have Z10 : n0 ≤ h10.size := Nat.le_trans Z8 (Keep.of_wr W10).1
  have N10 := Fr.snoc X10 N8 lo2
  obtain ⟨cl11, Ar11, qk11, S11, N11', Hh11, G11⟩ := own_same V10
  have hin11 : ¬ ((4 : Int32) < 0 ∨ cl11.slots.size ≤ ((4 : Int32)).toNatClampNeg) := inb_of S11 ⟨by decide, by decide⟩
  obtain ⟨T12, h12, X12, e12, W12, st12⟩ := stB X10 hx hZ e10 Ar11 (j := (4 : Int32)) hin11 (g := (mkF m 86 #[.val (.int p0), .val (.int p1), .val (.int p2), .val (.int p3), .val (.int (p0 &&& (1 : Int32))), .val (.int (m0_0 p0 p1 p2 p3)), .val (.int (m0_1 p0 p1 p2 p3)), .val (.int (m0_2 p0 p1 p2 p3)), .val (.ref b2), .unset, .unset, .unset, .unset, .unset, .unset, .unset, .unset] [(.int (((p1.toUInt32 >>> ((16 : Int32) &&& 31).toUInt32).toInt32).toInt8.toInt32)), (.int (4 : Int32)), (.ref b2)])) rfl rfl (hb hby at_86)
  have V12 : Arv Z h12 b2 k2 .byte (6 : Int32) [(.int ((((p0.toUInt32 >>> ((8 : Int32) &&& 31).toUInt32).toInt32).toInt8.toInt32).toInt8.toInt32)), (.int ((((p0.toUInt32 >>> ((16 : Int32) &&& 31).toUInt32).toInt32).toInt8.toInt32).toInt8.toInt32)), (.int ((((p0.toUInt32 >>> ((24 : Int32) &&& 31).toUInt32).toInt32).toInt8.toInt32).toInt8.toInt32)), (.int ((((p1.toUInt32 >>> ((8 : Int32) &&& 31).toUInt32).toInt32).toInt8.toInt32).toInt8.toInt32)), (.int ((((p1.toUInt32 >>> ((16 : Int32) &&& 31).toUInt32).toInt32).toInt8.toInt32).toInt8.toInt32)), (.int (0 : Int32))] (.int (0 : Int32)) := Arv.set Ar11 qk11 S11 N11' Hh11 G11 (fits_nar_byte _) W12 4 rfl (Nat.le_of_ble_eq_true rfl)
  have K12 : Keep h0 h12 [] := K10.wr W12 (Or.inr sz2)
  have Z12 : n0 ≤ h12.size := Nat.le_trans Z10 (Keep.of_wr W12).1
  have N12 := Fr.snoc X12 N10 lo2
  obtain ⟨cl13, Ar13, qk13, S13, N13', Hh13, G13⟩ := own_same V12
  have hin13 : ¬ ((5 : Int32) < 0 ∨ cl13.slots.size ≤ ((5 : Int32)).toNatClampNeg) := inb_of S13 ⟨by decide, by decide⟩
  obtain ⟨T14, h14, X14, e14, W14, st14⟩ := stB X12 hx hZ e12 Ar13 (j := (5 : Int32)) hin13 (g := (mkF m 95 #[.val (.int p0), .val (.int p1), .val (.int p2), .val (.int p3), .val (.int (p0 &&& (1 : Int32))), .val (.int (m0_0 p0 p1 p2 p3)), .val (.int (m0_1 p0 p1 p2 p3)), .val (.int (m0_2 p0 p1 p2 p3)), .val (.ref b2), .unset, .unset, .unset, .unset, .unset, .unset, .unset, .unset] [(.int (((p1.toUInt32 >>> ((24 : Int32) &&& 31).toUInt32).toInt32).toInt8.toInt32)), (.int (5 : Int32)), (.ref b2)])) rfl rfl (hb hby at_95)
  have V14 : Arv Z h14 b2 k2 .byte (6 : Int32) [(.int ((((p0.toUInt32 >>> ((8 : Int32) &&& 31).toUInt32).toInt32).toInt8.toInt32).toInt8.toInt32)), (.int ((((p0.toUInt32 >>> ((16 : Int32) &&& 31).toUInt32).toInt32).toInt8.toInt32).toInt8.toInt32)), (.int ((((p0.toUInt32 >>> ((24 : Int32) &&& 31).toUInt32).toInt32).toInt8.toInt32).toInt8.toInt32)), (.int ((((p1.toUInt32 >>> ((8 : Int32) &&& 31).toUInt32).toInt32).toInt8.toInt32).toInt8.toInt32)), (.int ((((p1.toUInt32 >>> ((16 : Int32) &&& 31).toUInt32).toInt32).toInt8.toInt32).toInt8.toInt32)), (.int ((((p1.toUInt32 >>> ((24 : Int32) &&& 31).toUInt32).toInt32).toInt8.toInt32).toInt8.toInt32))] (.int (0 : Int32)) := Arv.set Ar13 qk13 S13 N13' Hh13 G13 (fits_nar_byte _) W14 5 rfl (Nat.le_of_ble_eq_true rfl)
  have K14 : Keep h0 h14 [] := K12.wr W14 (Or.inr sz2)
  have Z14 : n0 ≤ h14.size := Nat.le_trans Z12 (Keep.of_wr W14).1
  have N14 := Fr.snoc X14 N12 lo2
  obtain ⟨cl15, Ar15, qk15, S15, N15', Hh15, G15⟩ := own_same V14
  have hin15 : ¬ (((m0_1 p0 p1 p2 p3) - (1 : Int32)) < 0 ∨ cl15.slots.size ≤ (((m0_1 p0 p1 p2 p3) - (1 : Int32))).toNatClampNeg) := inb_of S15 (own_in p0 p1 p2 p3)
  obtain ⟨T16, h16, X16, e16, W16, st16⟩ := stB X14 hx hZ e14 Ar15 (j := ((m0_1 p0 p1 p2 p3) - (1 : Int32))) hin15 (g := (mkF m 105 #[.val (.int p0), .val (.int p1), .val (.int p2), .val (.int p3), .val (.int (p0 &&& (1 : Int32))), .val (.int (m0_0 p0 p1 p2 p3)), .val (.int (m0_1 p0 p1 p2 p3)), .val (.int (m0_2 p0 p1 p2 p3)), .val (.ref b2), .unset, .unset, .unset, .unset, .unset, .unset, .unset, .unset] [(.int ((m0_2 p0 p1 p2 p3).toInt8.toInt32)), (.int ((m0_1 p0 p1 p2 p3) - (1 : Int32))), (.ref b2)])) rfl rfl (hb hby at_105)
  have L16 : ElA Z h16 b2 .byte ((m0_1 p0 p1 p2 p3) - (1 : Int32)) (.int (((m0_2 p0 p1 p2 p3).toInt8.toInt32).toInt8.toInt32)) := ElA.store Ar15 hin15 W16
  have K16 : Keep h0 h16 [] := K14.wr W16 (Or.inr sz2)
  have Z16 : n0 ≤ h16.size := Nat.le_trans Z14 (Keep.of_wr W16).1
  have N16 := Fr.snoc X16 N14 lo2
  obtain ⟨_, _, ⟨T17, L17, k17, n17⟩, -, X17, ⟨Lc17, hQ17, l17, y17, z17⟩, st17⟩ := Jvm.LawKit.callS X16 hx (y := (⟨"com/example/urial/urial/protocol/BackwardBitReaderOverflowedPinLaw", "highBit", "(I)I"⟩ : MethodName)) hown (mvT hZ (hw _ (List.mem_of_getElem? (i := 2) rfl))) (mvT hZ (hw _ (List.mem_of_getElem? (i := 3) rfl))) (mvT hZ (hw _ (List.mem_of_getElem? (i := 4) rfl))) (mvT hZ (hw _ (List.mem_of_getElem? (i := 5) rfl))) (by decide) (backOf (W := 2) (rm1 l Z aw hw [] (m0_2 p0 p1 p2 p3) h16 n0 Z16 ) hZ (hw _ (List.mem_of_getElem? (i := 5) rfl)) (hw _ (List.mem_of_getElem? (i := 4) rfl)) (by decide) (by decide)) (g := (mkF m 117 #[.val (.int p0), .val (.int p1), .val (.int p2), .val (.int p3), .val (.int (p0 &&& (1 : Int32))), .val (.int (m0_0 p0 p1 p2 p3)), .val (.int (m0_1 p0 p1 p2 p3)), .val (.int (m0_2 p0 p1 p2 p3)), .val (.ref b2), .unset, .unset, .unset, .unset, .unset, .unset, .unset, .unset] [(.int (m0_2 p0 p1 p2 p3)), (.long ((8 : Int64) * (((m0_0 p0 p1 p2 p3) - (1 : Int32)).toInt64)))])) rfl (by rw [hml]; rfl) (argsL := [(.int (m0_2 p0 p1 p2 p3))]) (rest := [(.long ((8 : Int64) * (((m0_0 p0 p1 p2 p3) - (1 : Int32)).toInt64)))]) (lenOf pd_0_0 rfl) rfl (by show 2 * 0 + _ ≤ _; exact Nat.le_of_eq rfl) (hb hby at_117) (fun _ _ => ⟨rfl, e16, (by decide : 1 + 0 ≤ _), (by decide : 6 + 0 ≤ _)⟩)
  dsimp only [Pt.U, Pt.locs, Pt.cells, Pt.slots] at X17 l17 y17 z17 st17 hQ17
  subst l17 y17 z17
  obtain ⟨rfl, Nq17, e17⟩ := hQ17
  have N17 := Fr.app N16 Nq17
  obtain ⟨T18, h18, X18, e18, E18, A18, D18, -, st18⟩ := newO X17 hx hZ hown (hw _ (List.mem_of_getElem? (i := 7) rfl)) (hw _ (List.mem_of_getElem? (i := 8) rfl)) (hw _ (List.mem_of_getElem? (i := 9) rfl)) e17 (g := (mkF m 142 #[.val (.int p0), .val (.int p1), .val (.int p2), .val (.int p3), .val (.int (p0 &&& (1 : Int32))), .val (.int (m0_0 p0 p1 p2 p3)), .val (.int (m0_1 p0 p1 p2 p3)), .val (.int (m0_2 p0 p1 p2 p3)), .val (.ref b2), .val (.long (m0_3 p0 p1 p2 p3)), .second, .val (.int (m0_4 p0 p1 p2 p3)), .val (.int (m0_5 p0 p1 p2 p3)), .unset, .unset, .unset, .unset] [])) rfl (hb hby at_142) (by decide) (by decide)
  obtain ⟨b18, g18⟩ : ∃ z, z = h16.size := ⟨_, rfl⟩
  rw [← g18] at A18 D18 st18
  have ne18_b2 : b2 ≠ b18 := Nat.ne_of_lt (Nat.lt_of_lt_of_le L16.lt (Nat.le_of_eq g18.symm))
  have lo18 : n0 ≤ b18 := Nat.le_trans Z16 (Nat.le_of_eq g18.symm)
  have sz18 : h0.size ≤ b18 := Nat.le_trans K16.1 (Nat.le_of_eq g18.symm)
  have f18_0 := L16.ext E18
  have K18 := K16.ext E18
  have Z18 : n0 ≤ h18.size := Nat.le_trans Z16 E18.1
  have F18_bytes : Fld Z h18 b18 "com/example/urial/urial/protocol/BackwardBitReader" "bytes" "[B" .null := D18 (Or.inr (hw _ (List.mem_of_getElem? (i := 17) rfl))) (ty := (.array .byte)) (by decide)
  have F18_start : Fld Z h18 b18 "com/example/urial/urial/protocol/BackwardBitReader" "start" "I" (.int (0 : Int32)) := D18 (Or.inr (hw _ (List.mem_of_getElem? (i := 19) rfl))) (ty := .int) (by decide)
  have F18_end : Fld Z h18 b18 "com/example/urial/urial/protocol/BackwardBitReader" "end" "I" (.int (0 : Int32)) := D18 (Or.inr (hw _ (List.mem_of_getElem? (i := 21) rfl))) (ty := .int) (by decide)
  have F18_left : Fld Z h18 b18 "com/example/urial/urial/protocol/BackwardBitReader" "left" "J" (.long (0 : Int64)) := D18 (Or.inl (hw _ (List.mem_of_getElem? (i := 30) rfl))) (ty := .long) (by decide)
  obtain ⟨_, _, ⟨T19, L19, k19, n19⟩, -, X19, ⟨Lc19, hQ19, l19, y19, z19⟩, st19⟩ := X18.specialBack hx (y := (⟨"com/example/urial/urial/protocol/BackwardBitReader", "<init>", "([BII)V"⟩ : MethodName)) rfl hown (mvT hZ (hw _ (List.mem_of_getElem? (i := 10) rfl))) (mvT hZ (hw _ (List.mem_of_getElem? (i := 11) rfl))) (mvT hZ (hw _ (List.mem_of_getElem? (i := 12) rfl))) (by decide) (backOf (W := 1) (rm2 l Z aw hw [] b18 b2 (p0 &&& (1 : Int32)) (m0_1 p0 p1 p2 p3) (((m0_2 p0 p1 p2 p3).toInt8.toInt32).toInt8.toInt32) h18 n0 Z18 F18_bytes F18_start F18_end F18_left A18 lo18 f18_0 ne18_b2 (own_lt p0 p1 p2 p3) (own_wb _ (own_v p0 p1 p2 p3))) hZ (hw _ (List.mem_of_getElem? (i := 12) rfl)) (hw _ (List.mem_of_getElem? (i := 9) rfl)) (by decide) (by decide)) (g := (mkF m 152 #[.val (.int p0), .val (.int p1), .val (.int p2), .val (.int p3), .val (.int (p0 &&& (1 : Int32))), .val (.int (m0_0 p0 p1 p2 p3)), .val (.int (m0_1 p0 p1 p2 p3)), .val (.int (m0_2 p0 p1 p2 p3)), .val (.ref b2), .val (.long (m0_3 p0 p1 p2 p3)), .second, .val (.int (m0_4 p0 p1 p2 p3)), .val (.int (m0_5 p0 p1 p2 p3)), .unset, .unset, .unset, .unset] [(.int (m0_1 p0 p1 p2 p3)), (.int (p0 &&& (1 : Int32))), (.ref b2), (.ref b18), (.ref b18)])) rfl (by rw [hml]; rfl) (Steps.refl _) (a := b18) (argsL := [(.ref b2), (.int (p0 &&& (1 : Int32))), (.int (m0_1 p0 p1 p2 p3))]) (rest := [(.ref b18)]) (lenOf pd_0_1 rfl) rfl (by show 2 * 0 + _ ≤ _; exact Nat.le_of_eq rfl) (hb hby at_152) (fun _ _ => ⟨rfl, e18, (by decide : 2 + 0 ≤ _), (by decide : 10 + 0 ≤ _)⟩)
  dsimp only [Pt.U, Pt.locs, Pt.cells, Pt.slots] at X19 l19 y19 z19 st19 hQ19
  subst l19 y19 z19
  obtain ⟨rfl, Nq19, Kq19, P19_0, P19_1⟩ := hQ19
  have N19 := Fr.app N17 Nq19
  have f19_0 := f18_0.keep Kq19 (ninS ne18_b2 nin0)
  have K19 : Keep h0 T19.heap [] := K18.trans Kq19 (allS (Or.inr sz18) all0)
  have Z19 : n0 ≤ T19.heap.size := Nat.le_trans Z18 Kq19.1
  obtain ⟨cq20, kq20, q20a, q20b, q20c⟩ := isOf hZ rfl P19_0
  obtain ⟨_, _, ⟨T20, L20, k20, n20⟩, -, X20, ⟨Lc20, hQ20, l20, y20, z20⟩, st20⟩ := X19.virtualBack hx (y := (⟨"com/example/urial/urial/protocol/BackwardBitReader", "overflowed", "()Z"⟩ : MethodName)) (z := (⟨"com/example/urial/urial/protocol/BackwardBitReader", "overflowed", "()Z"⟩ : MethodName)) hown (mvT hZ (hw _ (List.mem_of_getElem? (i := 31) rfl))) (mvT hZ (hw _ (List.mem_of_getElem? (i := 32) rfl))) (notFace_of_selects (args := #[]) (mvT hZ (hw _ (List.mem_of_getElem? (i := 34) rfl)))) (mvT hZ (hw _ (List.mem_of_getElem? (i := 34) rfl))) (mvT hZ (hw _ (List.mem_of_getElem? (i := 33) rfl))) (by decide) (backOf (W := 0) (rm5 l Z aw hw [] b18 (((((((m0_1 p0 p1 p2 p3) - (p0 &&& (1 : Int32))).toInt64) * (8 : Int64)) - ((f4 ((((m0_2 p0 p1 p2 p3).toInt8.toInt32).toInt8.toInt32) &&& (255 : Int32))).toInt64)) + (24 : Int64)) - (1 : Int64)) T19.heap n0 Z19 P19_1) hZ (hw _ (List.mem_of_getElem? (i := 35) rfl)) (hw _ (List.mem_of_getElem? (i := 9) rfl)) (by decide) (by decide)) q20a q20c (g := (mkF m 159 #[.val (.int p0), .val (.int p1), .val (.int p2), .val (.int p3), .val (.int (p0 &&& (1 : Int32))), .val (.int (m0_0 p0 p1 p2 p3)), .val (.int (m0_1 p0 p1 p2 p3)), .val (.int (m0_2 p0 p1 p2 p3)), .val (.ref b2), .val (.long (m0_3 p0 p1 p2 p3)), .second, .val (.int (m0_4 p0 p1 p2 p3)), .val (.int (m0_5 p0 p1 p2 p3)), .val (.ref b18), .unset, .unset, .unset] [(.ref b18)])) rfl (by rw [hml]; rfl) (Steps.refl _) (argsL := []) (rest := []) (lenOf pd_0_2 rfl) rfl (by show 2 * 0 + _ ≤ _; exact Nat.le_of_eq rfl) (hb hby at_159) (fun _ _ => ⟨rfl, rfl, (by decide : 2 + 0 ≤ _), (by decide : 10 + 0 ≤ _)⟩)
  dsimp only [Pt.U, Pt.locs, Pt.cells, Pt.slots] at X20 l20 y20 z20 st20 hQ20
  subst l20 y20 z20
  obtain ⟨rfl, Nq20, e20⟩ := hQ20
  have N20 := Fr.app N19 Nq20
  obtain ⟨cq21, kq21, q21a, q21b, q21c⟩ := isOf hZ e20 P19_0
  obtain ⟨_, _, ⟨T21, L21, k21, n21⟩, -, X21, ⟨Lc21, hQ21, l21, y21, z21⟩, st21⟩ := X20.virtualBack hx (y := (⟨"com/example/urial/urial/protocol/BackwardBitReader", "skip", "(I)V"⟩ : MethodName)) (z := (⟨"com/example/urial/urial/protocol/BackwardBitReader", "skip", "(I)V"⟩ : MethodName)) hown (mvT hZ (hw _ (List.mem_of_getElem? (i := 36) rfl))) (mvT hZ (hw _ (List.mem_of_getElem? (i := 37) rfl))) (notFace_of_selects (args := #[]) (mvT hZ (hw _ (List.mem_of_getElem? (i := 39) rfl)))) (mvT hZ (hw _ (List.mem_of_getElem? (i := 39) rfl))) (mvT hZ (hw _ (List.mem_of_getElem? (i := 38) rfl))) (by decide) (backOf (W := 0) (rm6 l Z aw hw [] b18 (m0_4 p0 p1 p2 p3) (((((((m0_1 p0 p1 p2 p3) - (p0 &&& (1 : Int32))).toInt64) * (8 : Int64)) - ((f4 ((((m0_2 p0 p1 p2 p3).toInt8.toInt32).toInt8.toInt32) &&& (255 : Int32))).toInt64)) + (24 : Int64)) - (1 : Int64)) T19.heap n0 Z19 P19_1 P19_0 lo18) hZ (hw _ (List.mem_of_getElem? (i := 40) rfl)) (hw _ (List.mem_of_getElem? (i := 9) rfl)) (by decide) (by decide)) q21a q21c (g := (mkF m 168 #[.val (.int p0), .val (.int p1), .val (.int p2), .val (.int p3), .val (.int (p0 &&& (1 : Int32))), .val (.int (m0_0 p0 p1 p2 p3)), .val (.int (m0_1 p0 p1 p2 p3)), .val (.int (m0_2 p0 p1 p2 p3)), .val (.ref b2), .val (.long (m0_3 p0 p1 p2 p3)), .second, .val (.int (m0_4 p0 p1 p2 p3)), .val (.int (m0_5 p0 p1 p2 p3)), .val (.ref b18), .val (.int (f5 (((((((m0_1 p0 p1 p2 p3) - (p0 &&& (1 : Int32))).toInt64) * (8 : Int64)) - ((f4 ((((m0_2 p0 p1 p2 p3).toInt8.toInt32).toInt8.toInt32) &&& (255 : Int32))).toInt64)) + (24 : Int64)) - (1 : Int64)))), .unset, .unset] [(.int (m0_4 p0 p1 p2 p3)), (.ref b18)])) rfl (by rw [hml]; rfl) (Steps.refl _) (argsL := [(.int (m0_4 p0 p1 p2 p3))]) (rest := []) (lenOf pd_0_3 rfl) rfl (by show 2 * 0 + _ ≤ _; exact Nat.le_of_eq rfl) (hb hby at_168) (fun _ _ => ⟨rfl, e20, (by decide : 2 + 0 ≤ _), (by decide : 10 + 0 ≤ _)⟩)
  dsimp only [Pt.U, Pt.locs, Pt.cells, Pt.slots] at X21 l21 y21 z21 st21 hQ21
  subst l21 y21 z21
  obtain ⟨rfl, Nq21, Kq21, P21_0, P21_1⟩ := hQ21
  have N21 := Fr.app N20 Nq21
  have f21_0 := f19_0.keep Kq21 (ninS ne18_b2 nin0)
  have K21 : Keep h0 T21.heap [] := K19.trans Kq21 (allS (Or.inr sz18) all0)
  have Z21 : n0 ≤ T21.heap.size := Nat.le_trans Z19 Kq21.1
  obtain ⟨cq22, kq22, q22a, q22b, q22c⟩ := isOf hZ rfl P21_0
  obtain ⟨_, _, ⟨T22, L22, k22, n22⟩, -, X22, ⟨Lc22, hQ22, l22, y22, z22⟩, st22⟩ := X21.virtualBack hx (y := (⟨"com/example/urial/urial/protocol/BackwardBitReader", "overflowed", "()Z"⟩ : MethodName)) (z := (⟨"com/example/urial/urial/protocol/BackwardBitReader", "overflowed", "()Z"⟩ : MethodName)) hown (mvT hZ (hw _ (List.mem_of_getElem? (i := 31) rfl))) (mvT hZ (hw _ (List.mem_of_getElem? (i := 32) rfl))) (notFace_of_selects (args := #[]) (mvT hZ (hw _ (List.mem_of_getElem? (i := 34) rfl)))) (mvT hZ (hw _ (List.mem_of_getElem? (i := 34) rfl))) (mvT hZ (hw _ (List.mem_of_getElem? (i := 33) rfl))) (by decide) (backOf (W := 0) (rm5 l Z aw hw [] b18 ((((((((m0_1 p0 p1 p2 p3) - (p0 &&& (1 : Int32))).toInt64) * (8 : Int64)) - ((f4 ((((m0_2 p0 p1 p2 p3).toInt8.toInt32).toInt8.toInt32) &&& (255 : Int32))).toInt64)) + (24 : Int64)) - (1 : Int64)) - ((m0_4 p0 p1 p2 p3).toInt64)) T21.heap n0 Z21 P21_1) hZ (hw _ (List.mem_of_getElem? (i := 35) rfl)) (hw _ (List.mem_of_getElem? (i := 9) rfl)) (by decide) (by decide)) q22a q22c (g := (mkF m 173 #[.val (.int p0), .val (.int p1), .val (.int p2), .val (.int p3), .val (.int (p0 &&& (1 : Int32))), .val (.int (m0_0 p0 p1 p2 p3)), .val (.int (m0_1 p0 p1 p2 p3)), .val (.int (m0_2 p0 p1 p2 p3)), .val (.ref b2), .val (.long (m0_3 p0 p1 p2 p3)), .second, .val (.int (m0_4 p0 p1 p2 p3)), .val (.int (m0_5 p0 p1 p2 p3)), .val (.ref b18), .val (.int (f5 (((((((m0_1 p0 p1 p2 p3) - (p0 &&& (1 : Int32))).toInt64) * (8 : Int64)) - ((f4 ((((m0_2 p0 p1 p2 p3).toInt8.toInt32).toInt8.toInt32) &&& (255 : Int32))).toInt64)) + (24 : Int64)) - (1 : Int64)))), .unset, .unset] [(.ref b18)])) rfl (by rw [hml]; rfl) (Steps.refl _) (argsL := []) (rest := []) (lenOf pd_0_2 rfl) rfl (by show 2 * 0 + _ ≤ _; exact Nat.le_of_eq rfl) (hb hby at_173) (fun _ _ => ⟨rfl, rfl, (by decide : 2 + 0 ≤ _), (by decide : 10 + 0 ≤ _)⟩)
  dsimp only [Pt.U, Pt.locs, Pt.cells, Pt.slots] at X22 l22 y22 z22 st22 hQ22
  subst l22 y22 z22
  obtain ⟨rfl, Nq22, e22⟩ := hQ22
  have N22 := Fr.app N21 Nq22
  obtain ⟨cq23, kq23, q23a, q23b, q23c⟩ := isOf hZ e22 P21_0
  obtain ⟨_, _, ⟨T23, L23, k23, n23⟩, -, X23, ⟨Lc23, hQ23, l23, y23, z23⟩, st23⟩ := X22.virtualBack hx (y := (⟨"com/example/urial/urial/protocol/BackwardBitReader", "skip", "(I)V"⟩ : MethodName)) (z := (⟨"com/example/urial/urial/protocol/BackwardBitReader", "skip", "(I)V"⟩ : MethodName)) hown (mvT hZ (hw _ (List.mem_of_getElem? (i := 36) rfl))) (mvT hZ (hw _ (List.mem_of_getElem? (i := 37) rfl))) (notFace_of_selects (args := #[]) (mvT hZ (hw _ (List.mem_of_getElem? (i := 39) rfl)))) (mvT hZ (hw _ (List.mem_of_getElem? (i := 39) rfl))) (mvT hZ (hw _ (List.mem_of_getElem? (i := 38) rfl))) (by decide) (backOf (W := 0) (rm6 l Z aw hw [] b18 (m0_5 p0 p1 p2 p3) ((((((((m0_1 p0 p1 p2 p3) - (p0 &&& (1 : Int32))).toInt64) * (8 : Int64)) - ((f4 ((((m0_2 p0 p1 p2 p3).toInt8.toInt32).toInt8.toInt32) &&& (255 : Int32))).toInt64)) + (24 : Int64)) - (1 : Int64)) - ((m0_4 p0 p1 p2 p3).toInt64)) T21.heap n0 Z21 P21_1 P21_0 lo18) hZ (hw _ (List.mem_of_getElem? (i := 40) rfl)) (hw _ (List.mem_of_getElem? (i := 9) rfl)) (by decide) (by decide)) q23a q23c (g := (mkF m 182 #[.val (.int p0), .val (.int p1), .val (.int p2), .val (.int p3), .val (.int (p0 &&& (1 : Int32))), .val (.int (m0_0 p0 p1 p2 p3)), .val (.int (m0_1 p0 p1 p2 p3)), .val (.int (m0_2 p0 p1 p2 p3)), .val (.ref b2), .val (.long (m0_3 p0 p1 p2 p3)), .second, .val (.int (m0_4 p0 p1 p2 p3)), .val (.int (m0_5 p0 p1 p2 p3)), .val (.ref b18), .val (.int (f5 (((((((m0_1 p0 p1 p2 p3) - (p0 &&& (1 : Int32))).toInt64) * (8 : Int64)) - ((f4 ((((m0_2 p0 p1 p2 p3).toInt8.toInt32).toInt8.toInt32) &&& (255 : Int32))).toInt64)) + (24 : Int64)) - (1 : Int64)))), .val (.int (f5 ((((((((m0_1 p0 p1 p2 p3) - (p0 &&& (1 : Int32))).toInt64) * (8 : Int64)) - ((f4 ((((m0_2 p0 p1 p2 p3).toInt8.toInt32).toInt8.toInt32) &&& (255 : Int32))).toInt64)) + (24 : Int64)) - (1 : Int64)) - ((m0_4 p0 p1 p2 p3).toInt64)))), .unset] [(.int (m0_5 p0 p1 p2 p3)), (.ref b18)])) rfl (by rw [hml]; rfl) (Steps.refl _) (argsL := [(.int (m0_5 p0 p1 p2 p3))]) (rest := []) (lenOf pd_0_3 rfl) rfl (by show 2 * 0 + _ ≤ _; exact Nat.le_of_eq rfl) (hb hby at_182) (fun _ _ => ⟨rfl, e22, (by decide : 2 + 0 ≤ _), (by decide : 10 + 0 ≤ _)⟩)
  dsimp only [Pt.U, Pt.locs, Pt.cells, Pt.slots] at X23 l23 y23 z23 st23 hQ23
  subst l23 y23 z23
  obtain ⟨rfl, Nq23, Kq23, P23_0, P23_1⟩ := hQ23
  have N23 := Fr.app N22 Nq23
  have f23_0 := f21_0.keep Kq23 (ninS ne18_b2 nin0)
  have K23 : Keep h0 T23.heap [] := K21.trans Kq23 (allS (Or.inr sz18) all0)
  have Z23 : n0 ≤ T23.heap.size := Nat.le_trans Z21 Kq23.1
  obtain ⟨cq24, kq24, q24a, q24b, q24c⟩ := isOf hZ rfl P23_0
  obtain ⟨_, _, ⟨T24, L24, k24, n24⟩, -, X24, ⟨Lc24, hQ24, l24, y24, z24⟩, st24⟩ := X23.virtualBack hx (y := (⟨"com/example/urial/urial/protocol/BackwardBitReader", "overflowed", "()Z"⟩ : MethodName)) (z := (⟨"com/example/urial/urial/protocol/BackwardBitReader", "overflowed", "()Z"⟩ : MethodName)) hown (mvT hZ (hw _ (List.mem_of_getElem? (i := 31) rfl))) (mvT hZ (hw _ (List.mem_of_getElem? (i := 32) rfl))) (notFace_of_selects (args := #[]) (mvT hZ (hw _ (List.mem_of_getElem? (i := 34) rfl)))) (mvT hZ (hw _ (List.mem_of_getElem? (i := 34) rfl))) (mvT hZ (hw _ (List.mem_of_getElem? (i := 33) rfl))) (by decide) (backOf (W := 0) (rm5 l Z aw hw [] b18 (((((((((m0_1 p0 p1 p2 p3) - (p0 &&& (1 : Int32))).toInt64) * (8 : Int64)) - ((f4 ((((m0_2 p0 p1 p2 p3).toInt8.toInt32).toInt8.toInt32) &&& (255 : Int32))).toInt64)) + (24 : Int64)) - (1 : Int64)) - ((m0_4 p0 p1 p2 p3).toInt64)) - ((m0_5 p0 p1 p2 p3).toInt64)) T23.heap n0 Z23 P23_1) hZ (hw _ (List.mem_of_getElem? (i := 35) rfl)) (hw _ (List.mem_of_getElem? (i := 9) rfl)) (by decide) (by decide)) q24a q24c (g := (mkF m 187 #[.val (.int p0), .val (.int p1), .val (.int p2), .val (.int p3), .val (.int (p0 &&& (1 : Int32))), .val (.int (m0_0 p0 p1 p2 p3)), .val (.int (m0_1 p0 p1 p2 p3)), .val (.int (m0_2 p0 p1 p2 p3)), .val (.ref b2), .val (.long (m0_3 p0 p1 p2 p3)), .second, .val (.int (m0_4 p0 p1 p2 p3)), .val (.int (m0_5 p0 p1 p2 p3)), .val (.ref b18), .val (.int (f5 (((((((m0_1 p0 p1 p2 p3) - (p0 &&& (1 : Int32))).toInt64) * (8 : Int64)) - ((f4 ((((m0_2 p0 p1 p2 p3).toInt8.toInt32).toInt8.toInt32) &&& (255 : Int32))).toInt64)) + (24 : Int64)) - (1 : Int64)))), .val (.int (f5 ((((((((m0_1 p0 p1 p2 p3) - (p0 &&& (1 : Int32))).toInt64) * (8 : Int64)) - ((f4 ((((m0_2 p0 p1 p2 p3).toInt8.toInt32).toInt8.toInt32) &&& (255 : Int32))).toInt64)) + (24 : Int64)) - (1 : Int64)) - ((m0_4 p0 p1 p2 p3).toInt64)))), .unset] [(.ref b18)])) rfl (by rw [hml]; rfl) (Steps.refl _) (argsL := []) (rest := []) (lenOf pd_0_2 rfl) rfl (by show 2 * 0 + _ ≤ _; exact Nat.le_of_eq rfl) (hb hby at_187) (fun _ _ => ⟨rfl, rfl, (by decide : 2 + 0 ≤ _), (by decide : 10 + 0 ≤ _)⟩)
  dsimp only [Pt.U, Pt.locs, Pt.cells, Pt.slots] at X24 l24 y24 z24 st24 hQ24
  subst l24 y24 z24
  obtain ⟨rfl, Nq24, e24⟩ := hQ24
  have N24 := Fr.app N23 Nq24
  refine own_back (b := T24.setTop (mkF m 194 #[.val (.int p0), .val (.int p1), .val (.int p2), .val (.int p3), .val (.int (p0 &&& (1 : Int32))), .val (.int (m0_0 p0 p1 p2 p3)), .val (.int (m0_1 p0 p1 p2 p3)), .val (.int (m0_2 p0 p1 p2 p3)), .val (.ref b2), .val (.long (m0_3 p0 p1 p2 p3)), .second, .val (.int (m0_4 p0 p1 p2 p3)), .val (.int (m0_5 p0 p1 p2 p3)), .val (.ref b18), .val (.int (f5 (((((((m0_1 p0 p1 p2 p3) - (p0 &&& (1 : Int32))).toInt64) * (8 : Int64)) - ((f4 ((((m0_2 p0 p1 p2 p3).toInt8.toInt32).toInt8.toInt32) &&& (255 : Int32))).toInt64)) + (24 : Int64)) - (1 : Int64)))), .val (.int (f5 ((((((((m0_1 p0 p1 p2 p3) - (p0 &&& (1 : Int32))).toInt64) * (8 : Int64)) - ((f4 ((((m0_2 p0 p1 p2 p3).toInt8.toInt32).toInt8.toInt32) &&& (255 : Int32))).toInt64)) + (24 : Int64)) - (1 : Int64)) - ((m0_4 p0 p1 p2 p3).toInt64)))), .val (.int (f5 (((((((((m0_1 p0 p1 p2 p3) - (p0 &&& (1 : Int32))).toInt64) * (8 : Int64)) - ((f4 ((((m0_2 p0 p1 p2 p3).toInt8.toInt32).toInt8.toInt32) &&& (255 : Int32))).toInt64)) + (24 : Int64)) - (1 : Int64)) - ((m0_4 p0 p1 p2 p3).toInt64)) - ((m0_5 p0 p1 p2 p3).toInt64))))] [(.int (f5 (((((((m0_1 p0 p1 p2 p3) - (p0 &&& (1 : Int32))).toInt64) * (8 : Int64)) - ((f4 ((((m0_2 p0 p1 p2 p3).toInt8.toInt32).toInt8.toInt32) &&& (255 : Int32))).toInt64)) + (24 : Int64)) - (1 : Int64))))])) (fun t kt => ?_) ?_
  · show Steps p.tables e below (s₁.setTop (mkF m 36 #[.val (.int p0), .val (.int p1), .val (.int p2), .val (.int p3), .val (.int (p0 &&& (1 : Int32))), .val (.int (m0_0 p0 p1 p2 p3)), .val (.int (m0_1 p0 p1 p2 p3)), .val (.int (m0_2 p0 p1 p2 p3)), .unset, .unset, .unset, .unset, .unset, .unset, .unset, .unset, .unset] [])) _
    refine XS.bipush X0.here hx rfl (hb hby at_36) ?_
    show Steps p.tables e below (s₁.setTop (mkF m 38 #[.val (.int p0), .val (.int p1), .val (.int p2), .val (.int p3), .val (.int (p0 &&& (1 : Int32))), .val (.int (m0_0 p0 p1 p2 p3)), .val (.int (m0_1 p0 p1 p2 p3)), .val (.int (m0_2 p0 p1 p2 p3)), .unset, .unset, .unset, .unset, .unset, .unset, .unset, .unset, .unset] [(.int (6 : Int32))])) _
    refine st2 _ ?_
    show Steps p.tables e below (T2.setTop (mkF m 40 #[.val (.int p0), .val (.int p1), .val (.int p2), .val (.int p3), .val (.int (p0 &&& (1 : Int32))), .val (.int (m0_0 p0 p1 p2 p3)), .val (.int (m0_1 p0 p1 p2 p3)), .val (.int (m0_2 p0 p1 p2 p3)), .unset, .unset, .unset, .unset, .unset, .unset, .unset, .unset, .unset] [(.ref b2)])) _
    refine XS.astore X2.here hx rfl (hb hby at_40) rfl rfl (l' := #[.val (.int p0), .val (.int p1), .val (.int p2), .val (.int p3), .val (.int (p0 &&& (1 : Int32))), .val (.int (m0_0 p0 p1 p2 p3)), .val (.int (m0_1 p0 p1 p2 p3)), .val (.int (m0_2 p0 p1 p2 p3)), .val (.ref b2), .unset, .unset, .unset, .unset, .unset, .unset, .unset, .unset]) rfl ?_
    show Steps p.tables e below (T2.setTop (mkF m 42 #[.val (.int p0), .val (.int p1), .val (.int p2), .val (.int p3), .val (.int (p0 &&& (1 : Int32))), .val (.int (m0_0 p0 p1 p2 p3)), .val (.int (m0_1 p0 p1 p2 p3)), .val (.int (m0_2 p0 p1 p2 p3)), .val (.ref b2), .unset, .unset, .unset, .unset, .unset, .unset, .unset, .unset] [])) _
    refine XS.aload X2.here hx rfl (hb hby at_42) rfl rfl ?_
    show Steps p.tables e below (T2.setTop (mkF m 44 #[.val (.int p0), .val (.int p1), .val (.int p2), .val (.int p3), .val (.int (p0 &&& (1 : Int32))), .val (.int (m0_0 p0 p1 p2 p3)), .val (.int (m0_1 p0 p1 p2 p3)), .val (.int (m0_2 p0 p1 p2 p3)), .val (.ref b2), .unset, .unset, .unset, .unset, .unset, .unset, .unset, .unset] [(.ref b2)])) _
    refine XS.iconst X2.here hx rfl (hb hby at_44) ?_
    show Steps p.tables e below (T2.setTop (mkF m 45 #[.val (.int p0), .val (.int p1), .val (.int p2), .val (.int p3), .val (.int (p0 &&& (1 : Int32))), .val (.int (m0_0 p0 p1 p2 p3)), .val (.int (m0_1 p0 p1 p2 p3)), .val (.int (m0_2 p0 p1 p2 p3)), .val (.ref b2), .unset, .unset, .unset, .unset, .unset, .unset, .unset, .unset] [(.int (0 : Int32)), (.ref b2)])) _
    refine XS.iloadN X2.here hx rfl (hb hby at_45) rfl ?_
    show Steps p.tables e below (T2.setTop (mkF m 46 #[.val (.int p0), .val (.int p1), .val (.int p2), .val (.int p3), .val (.int (p0 &&& (1 : Int32))), .val (.int (m0_0 p0 p1 p2 p3)), .val (.int (m0_1 p0 p1 p2 p3)), .val (.int (m0_2 p0 p1 p2 p3)), .val (.ref b2), .unset, .unset, .unset, .unset, .unset, .unset, .unset, .unset] [(.int p0), (.int (0 : Int32)), (.ref b2)])) _
    refine XS.bipush X2.here hx rfl (hb hby at_46) ?_
    show Steps p.tables e below (T2.setTop (mkF m 48 #[.val (.int p0), .val (.int p1), .val (.int p2), .val (.int p3), .val (.int (p0 &&& (1 : Int32))), .val (.int (m0_0 p0 p1 p2 p3)), .val (.int (m0_1 p0 p1 p2 p3)), .val (.int (m0_2 p0 p1 p2 p3)), .val (.ref b2), .unset, .unset, .unset, .unset, .unset, .unset, .unset, .unset] [(.int (8 : Int32)), (.int p0), (.int (0 : Int32)), (.ref b2)])) _
    refine XS.iushr X2.here hx rfl (hb hby at_48) rfl ?_
    show Steps p.tables e below (T2.setTop (mkF m 49 #[.val (.int p0), .val (.int p1), .val (.int p2), .val (.int p3), .val (.int (p0 &&& (1 : Int32))), .val (.int (m0_0 p0 p1 p2 p3)), .val (.int (m0_1 p0 p1 p2 p3)), .val (.int (m0_2 p0 p1 p2 p3)), .val (.ref b2), .unset, .unset, .unset, .unset, .unset, .unset, .unset, .unset] [(.int ((p0.toUInt32 >>> ((8 : Int32) &&& 31).toUInt32).toInt32)), (.int (0 : Int32)), (.ref b2)])) _
    refine XS.i2b X2.here hx rfl (hb hby at_49) rfl ?_
    show Steps p.tables e below (T2.setTop (mkF m 50 #[.val (.int p0), .val (.int p1), .val (.int p2), .val (.int p3), .val (.int (p0 &&& (1 : Int32))), .val (.int (m0_0 p0 p1 p2 p3)), .val (.int (m0_1 p0 p1 p2 p3)), .val (.int (m0_2 p0 p1 p2 p3)), .val (.ref b2), .unset, .unset, .unset, .unset, .unset, .unset, .unset, .unset] [(.int (((p0.toUInt32 >>> ((8 : Int32) &&& 31).toUInt32).toInt32).toInt8.toInt32)), (.int (0 : Int32)), (.ref b2)])) _
    refine st4 _ ?_
    show Steps p.tables e below (T4.setTop (mkF m 51 #[.val (.int p0), .val (.int p1), .val (.int p2), .val (.int p3), .val (.int (p0 &&& (1 : Int32))), .val (.int (m0_0 p0 p1 p2 p3)), .val (.int (m0_1 p0 p1 p2 p3)), .val (.int (m0_2 p0 p1 p2 p3)), .val (.ref b2), .unset, .unset, .unset, .unset, .unset, .unset, .unset, .unset] [])) _
    refine XS.aload X4.here hx rfl (hb hby at_51) rfl rfl ?_
    show Steps p.tables e below (T4.setTop (mkF m 53 #[.val (.int p0), .val (.int p1), .val (.int p2), .val (.int p3), .val (.int (p0 &&& (1 : Int32))), .val (.int (m0_0 p0 p1 p2 p3)), .val (.int (m0_1 p0 p1 p2 p3)), .val (.int (m0_2 p0 p1 p2 p3)), .val (.ref b2), .unset, .unset, .unset, .unset, .unset, .unset, .unset, .unset] [(.ref b2)])) _
    refine XS.iconst X4.here hx rfl (hb hby at_53) ?_
    show Steps p.tables e below (T4.setTop (mkF m 54 #[.val (.int p0), .val (.int p1), .val (.int p2), .val (.int p3), .val (.int (p0 &&& (1 : Int32))), .val (.int (m0_0 p0 p1 p2 p3)), .val (.int (m0_1 p0 p1 p2 p3)), .val (.int (m0_2 p0 p1 p2 p3)), .val (.ref b2), .unset, .unset, .unset, .unset, .unset, .unset, .unset, .unset] [(.int (1 : Int32)), (.ref b2)])) _
    refine XS.iloadN X4.here hx rfl (hb hby at_54) rfl ?_
    show Steps p.tables e below (T4.setTop (mkF m 55 #[.val (.int p0), .val (.int p1), .val (.int p2), .val (.int p3), .val (.int (p0 &&& (1 : Int32))), .val (.int (m0_0 p0 p1 p2 p3)), .val (.int (m0_1 p0 p1 p2 p3)), .val (.int (m0_2 p0 p1 p2 p3)), .val (.ref b2), .unset, .unset, .unset, .unset, .unset, .unset, .unset, .unset] [(.int p0), (.int (1 : Int32)), (.ref b2)])) _
    refine XS.bipush X4.here hx rfl (hb hby at_55) ?_
    show Steps p.tables e below (T4.setTop (mkF m 57 #[.val (.int p0), .val (.int p1), .val (.int p2), .val (.int p3), .val (.int (p0 &&& (1 : Int32))), .val (.int (m0_0 p0 p1 p2 p3)), .val (.int (m0_1 p0 p1 p2 p3)), .val (.int (m0_2 p0 p1 p2 p3)), .val (.ref b2), .unset, .unset, .unset, .unset, .unset, .unset, .unset, .unset] [(.int (16 : Int32)), (.int p0), (.int (1 : Int32)), (.ref b2)])) _
    refine XS.iushr X4.here hx rfl (hb hby at_57) rfl ?_
    show Steps p.tables e below (T4.setTop (mkF m 58 #[.val (.int p0), .val (.int p1), .val (.int p2), .val (.int p3), .val (.int (p0 &&& (1 : Int32))), .val (.int (m0_0 p0 p1 p2 p3)), .val (.int (m0_1 p0 p1 p2 p3)), .val (.int (m0_2 p0 p1 p2 p3)), .val (.ref b2), .unset, .unset, .unset, .unset, .unset, .unset, .unset, .unset] [(.int ((p0.toUInt32 >>> ((16 : Int32) &&& 31).toUInt32).toInt32)), (.int (1 : Int32)), (.ref b2)])) _
    refine XS.i2b X4.here hx rfl (hb hby at_58) rfl ?_
    show Steps p.tables e below (T4.setTop (mkF m 59 #[.val (.int p0), .val (.int p1), .val (.int p2), .val (.int p3), .val (.int (p0 &&& (1 : Int32))), .val (.int (m0_0 p0 p1 p2 p3)), .val (.int (m0_1 p0 p1 p2 p3)), .val (.int (m0_2 p0 p1 p2 p3)), .val (.ref b2), .unset, .unset, .unset, .unset, .unset, .unset, .unset, .unset] [(.int (((p0.toUInt32 >>> ((16 : Int32) &&& 31).toUInt32).toInt32).toInt8.toInt32)), (.int (1 : Int32)), (.ref b2)])) _
    refine st6 _ ?_
    show Steps p.tables e below (T6.setTop (mkF m 60 #[.val (.int p0), .val (.int p1), .val (.int p2), .val (.int p3), .val (.int (p0 &&& (1 : Int32))), .val (.int (m0_0 p0 p1 p2 p3)), .val (.int (m0_1 p0 p1 p2 p3)), .val (.int (m0_2 p0 p1 p2 p3)), .val (.ref b2), .unset, .unset, .unset, .unset, .unset, .unset, .unset, .unset] [])) _
    refine XS.aload X6.here hx rfl (hb hby at_60) rfl rfl ?_
    show Steps p.tables e below (T6.setTop (mkF m 62 #[.val (.int p0), .val (.int p1), .val (.int p2), .val (.int p3), .val (.int (p0 &&& (1 : Int32))), .val (.int (m0_0 p0 p1 p2 p3)), .val (.int (m0_1 p0 p1 p2 p3)), .val (.int (m0_2 p0 p1 p2 p3)), .val (.ref b2), .unset, .unset, .unset, .unset, .unset, .unset, .unset, .unset] [(.ref b2)])) _
    refine XS.iconst X6.here hx rfl (hb hby at_62) ?_
    show Steps p.tables e below (T6.setTop (mkF m 63 #[.val (.int p0), .val (.int p1), .val (.int p2), .val (.int p3), .val (.int (p0 &&& (1 : Int32))), .val (.int (m0_0 p0 p1 p2 p3)), .val (.int (m0_1 p0 p1 p2 p3)), .val (.int (m0_2 p0 p1 p2 p3)), .val (.ref b2), .unset, .unset, .unset, .unset, .unset, .unset, .unset, .unset] [(.int (2 : Int32)), (.ref b2)])) _
    refine XS.iloadN X6.here hx rfl (hb hby at_63) rfl ?_
    show Steps p.tables e below (T6.setTop (mkF m 64 #[.val (.int p0), .val (.int p1), .val (.int p2), .val (.int p3), .val (.int (p0 &&& (1 : Int32))), .val (.int (m0_0 p0 p1 p2 p3)), .val (.int (m0_1 p0 p1 p2 p3)), .val (.int (m0_2 p0 p1 p2 p3)), .val (.ref b2), .unset, .unset, .unset, .unset, .unset, .unset, .unset, .unset] [(.int p0), (.int (2 : Int32)), (.ref b2)])) _
    refine XS.bipush X6.here hx rfl (hb hby at_64) ?_
    show Steps p.tables e below (T6.setTop (mkF m 66 #[.val (.int p0), .val (.int p1), .val (.int p2), .val (.int p3), .val (.int (p0 &&& (1 : Int32))), .val (.int (m0_0 p0 p1 p2 p3)), .val (.int (m0_1 p0 p1 p2 p3)), .val (.int (m0_2 p0 p1 p2 p3)), .val (.ref b2), .unset, .unset, .unset, .unset, .unset, .unset, .unset, .unset] [(.int (24 : Int32)), (.int p0), (.int (2 : Int32)), (.ref b2)])) _
    refine XS.iushr X6.here hx rfl (hb hby at_66) rfl ?_
    show Steps p.tables e below (T6.setTop (mkF m 67 #[.val (.int p0), .val (.int p1), .val (.int p2), .val (.int p3), .val (.int (p0 &&& (1 : Int32))), .val (.int (m0_0 p0 p1 p2 p3)), .val (.int (m0_1 p0 p1 p2 p3)), .val (.int (m0_2 p0 p1 p2 p3)), .val (.ref b2), .unset, .unset, .unset, .unset, .unset, .unset, .unset, .unset] [(.int ((p0.toUInt32 >>> ((24 : Int32) &&& 31).toUInt32).toInt32)), (.int (2 : Int32)), (.ref b2)])) _
    refine XS.i2b X6.here hx rfl (hb hby at_67) rfl ?_
    show Steps p.tables e below (T6.setTop (mkF m 68 #[.val (.int p0), .val (.int p1), .val (.int p2), .val (.int p3), .val (.int (p0 &&& (1 : Int32))), .val (.int (m0_0 p0 p1 p2 p3)), .val (.int (m0_1 p0 p1 p2 p3)), .val (.int (m0_2 p0 p1 p2 p3)), .val (.ref b2), .unset, .unset, .unset, .unset, .unset, .unset, .unset, .unset] [(.int (((p0.toUInt32 >>> ((24 : Int32) &&& 31).toUInt32).toInt32).toInt8.toInt32)), (.int (2 : Int32)), (.ref b2)])) _
    refine st8 _ ?_
    show Steps p.tables e below (T8.setTop (mkF m 69 #[.val (.int p0), .val (.int p1), .val (.int p2), .val (.int p3), .val (.int (p0 &&& (1 : Int32))), .val (.int (m0_0 p0 p1 p2 p3)), .val (.int (m0_1 p0 p1 p2 p3)), .val (.int (m0_2 p0 p1 p2 p3)), .val (.ref b2), .unset, .unset, .unset, .unset, .unset, .unset, .unset, .unset] [])) _
    refine XS.aload X8.here hx rfl (hb hby at_69) rfl rfl ?_
    show Steps p.tables e below (T8.setTop (mkF m 71 #[.val (.int p0), .val (.int p1), .val (.int p2), .val (.int p3), .val (.int (p0 &&& (1 : Int32))), .val (.int (m0_0 p0 p1 p2 p3)), .val (.int (m0_1 p0 p1 p2 p3)), .val (.int (m0_2 p0 p1 p2 p3)), .val (.ref b2), .unset, .unset, .unset, .unset, .unset, .unset, .unset, .unset] [(.ref b2)])) _
    refine XS.iconst X8.here hx rfl (hb hby at_71) ?_
    show Steps p.tables e below (T8.setTop (mkF m 72 #[.val (.int p0), .val (.int p1), .val (.int p2), .val (.int p3), .val (.int (p0 &&& (1 : Int32))), .val (.int (m0_0 p0 p1 p2 p3)), .val (.int (m0_1 p0 p1 p2 p3)), .val (.int (m0_2 p0 p1 p2 p3)), .val (.ref b2), .unset, .unset, .unset, .unset, .unset, .unset, .unset, .unset] [(.int (3 : Int32)), (.ref b2)])) _
    refine XS.iloadN X8.here hx rfl (hb hby at_72) rfl ?_
    show Steps p.tables e below (T8.setTop (mkF m 73 #[.val (.int p0), .val (.int p1), .val (.int p2), .val (.int p3), .val (.int (p0 &&& (1 : Int32))), .val (.int (m0_0 p0 p1 p2 p3)), .val (.int (m0_1 p0 p1 p2 p3)), .val (.int (m0_2 p0 p1 p2 p3)), .val (.ref b2), .unset, .unset, .unset, .unset, .unset, .unset, .unset, .unset] [(.int p1), (.int (3 : Int32)), (.ref b2)])) _
    refine XS.bipush X8.here hx rfl (hb hby at_73) ?_
    show Steps p.tables e below (T8.setTop (mkF m 75 #[.val (.int p0), .val (.int p1), .val (.int p2), .val (.int p3), .val (.int (p0 &&& (1 : Int32))), .val (.int (m0_0 p0 p1 p2 p3)), .val (.int (m0_1 p0 p1 p2 p3)), .val (.int (m0_2 p0 p1 p2 p3)), .val (.ref b2), .unset, .unset, .unset, .unset, .unset, .unset, .unset, .unset] [(.int (8 : Int32)), (.int p1), (.int (3 : Int32)), (.ref b2)])) _
    refine XS.iushr X8.here hx rfl (hb hby at_75) rfl ?_
    show Steps p.tables e below (T8.setTop (mkF m 76 #[.val (.int p0), .val (.int p1), .val (.int p2), .val (.int p3), .val (.int (p0 &&& (1 : Int32))), .val (.int (m0_0 p0 p1 p2 p3)), .val (.int (m0_1 p0 p1 p2 p3)), .val (.int (m0_2 p0 p1 p2 p3)), .val (.ref b2), .unset, .unset, .unset, .unset, .unset, .unset, .unset, .unset] [(.int ((p1.toUInt32 >>> ((8 : Int32) &&& 31).toUInt32).toInt32)), (.int (3 : Int32)), (.ref b2)])) _
    refine XS.i2b X8.here hx rfl (hb hby at_76) rfl ?_
    show Steps p.tables e below (T8.setTop (mkF m 77 #[.val (.int p0), .val (.int p1), .val (.int p2), .val (.int p3), .val (.int (p0 &&& (1 : Int32))), .val (.int (m0_0 p0 p1 p2 p3)), .val (.int (m0_1 p0 p1 p2 p3)), .val (.int (m0_2 p0 p1 p2 p3)), .val (.ref b2), .unset, .unset, .unset, .unset, .unset, .unset, .unset, .unset] [(.int (((p1.toUInt32 >>> ((8 : Int32) &&& 31).toUInt32).toInt32).toInt8.toInt32)), (.int (3 : Int32)), (.ref b2)])) _
    refine st10 _ ?_
    show Steps p.tables e below (T10.setTop (mkF m 78 #[.val (.int p0), .val (.int p1), .val (.int p2), .val (.int p3), .val (.int (p0 &&& (1 : Int32))), .val (.int (m0_0 p0 p1 p2 p3)), .val (.int (m0_1 p0 p1 p2 p3)), .val (.int (m0_2 p0 p1 p2 p3)), .val (.ref b2), .unset, .unset, .unset, .unset, .unset, .unset, .unset, .unset] [])) _
    refine XS.aload X10.here hx rfl (hb hby at_78) rfl rfl ?_
    show Steps p.tables e below (T10.setTop (mkF m 80 #[.val (.int p0), .val (.int p1), .val (.int p2), .val (.int p3), .val (.int (p0 &&& (1 : Int32))), .val (.int (m0_0 p0 p1 p2 p3)), .val (.int (m0_1 p0 p1 p2 p3)), .val (.int (m0_2 p0 p1 p2 p3)), .val (.ref b2), .unset, .unset, .unset, .unset, .unset, .unset, .unset, .unset] [(.ref b2)])) _
    refine XS.iconst X10.here hx rfl (hb hby at_80) ?_
    show Steps p.tables e below (T10.setTop (mkF m 81 #[.val (.int p0), .val (.int p1), .val (.int p2), .val (.int p3), .val (.int (p0 &&& (1 : Int32))), .val (.int (m0_0 p0 p1 p2 p3)), .val (.int (m0_1 p0 p1 p2 p3)), .val (.int (m0_2 p0 p1 p2 p3)), .val (.ref b2), .unset, .unset, .unset, .unset, .unset, .unset, .unset, .unset] [(.int (4 : Int32)), (.ref b2)])) _
    refine XS.iloadN X10.here hx rfl (hb hby at_81) rfl ?_
    show Steps p.tables e below (T10.setTop (mkF m 82 #[.val (.int p0), .val (.int p1), .val (.int p2), .val (.int p3), .val (.int (p0 &&& (1 : Int32))), .val (.int (m0_0 p0 p1 p2 p3)), .val (.int (m0_1 p0 p1 p2 p3)), .val (.int (m0_2 p0 p1 p2 p3)), .val (.ref b2), .unset, .unset, .unset, .unset, .unset, .unset, .unset, .unset] [(.int p1), (.int (4 : Int32)), (.ref b2)])) _
    refine XS.bipush X10.here hx rfl (hb hby at_82) ?_
    show Steps p.tables e below (T10.setTop (mkF m 84 #[.val (.int p0), .val (.int p1), .val (.int p2), .val (.int p3), .val (.int (p0 &&& (1 : Int32))), .val (.int (m0_0 p0 p1 p2 p3)), .val (.int (m0_1 p0 p1 p2 p3)), .val (.int (m0_2 p0 p1 p2 p3)), .val (.ref b2), .unset, .unset, .unset, .unset, .unset, .unset, .unset, .unset] [(.int (16 : Int32)), (.int p1), (.int (4 : Int32)), (.ref b2)])) _
    refine XS.iushr X10.here hx rfl (hb hby at_84) rfl ?_
    show Steps p.tables e below (T10.setTop (mkF m 85 #[.val (.int p0), .val (.int p1), .val (.int p2), .val (.int p3), .val (.int (p0 &&& (1 : Int32))), .val (.int (m0_0 p0 p1 p2 p3)), .val (.int (m0_1 p0 p1 p2 p3)), .val (.int (m0_2 p0 p1 p2 p3)), .val (.ref b2), .unset, .unset, .unset, .unset, .unset, .unset, .unset, .unset] [(.int ((p1.toUInt32 >>> ((16 : Int32) &&& 31).toUInt32).toInt32)), (.int (4 : Int32)), (.ref b2)])) _
    refine XS.i2b X10.here hx rfl (hb hby at_85) rfl ?_
    show Steps p.tables e below (T10.setTop (mkF m 86 #[.val (.int p0), .val (.int p1), .val (.int p2), .val (.int p3), .val (.int (p0 &&& (1 : Int32))), .val (.int (m0_0 p0 p1 p2 p3)), .val (.int (m0_1 p0 p1 p2 p3)), .val (.int (m0_2 p0 p1 p2 p3)), .val (.ref b2), .unset, .unset, .unset, .unset, .unset, .unset, .unset, .unset] [(.int (((p1.toUInt32 >>> ((16 : Int32) &&& 31).toUInt32).toInt32).toInt8.toInt32)), (.int (4 : Int32)), (.ref b2)])) _
    refine st12 _ ?_
    show Steps p.tables e below (T12.setTop (mkF m 87 #[.val (.int p0), .val (.int p1), .val (.int p2), .val (.int p3), .val (.int (p0 &&& (1 : Int32))), .val (.int (m0_0 p0 p1 p2 p3)), .val (.int (m0_1 p0 p1 p2 p3)), .val (.int (m0_2 p0 p1 p2 p3)), .val (.ref b2), .unset, .unset, .unset, .unset, .unset, .unset, .unset, .unset] [])) _
    refine XS.aload X12.here hx rfl (hb hby at_87) rfl rfl ?_
    show Steps p.tables e below (T12.setTop (mkF m 89 #[.val (.int p0), .val (.int p1), .val (.int p2), .val (.int p3), .val (.int (p0 &&& (1 : Int32))), .val (.int (m0_0 p0 p1 p2 p3)), .val (.int (m0_1 p0 p1 p2 p3)), .val (.int (m0_2 p0 p1 p2 p3)), .val (.ref b2), .unset, .unset, .unset, .unset, .unset, .unset, .unset, .unset] [(.ref b2)])) _
    refine XS.iconst X12.here hx rfl (hb hby at_89) ?_
    show Steps p.tables e below (T12.setTop (mkF m 90 #[.val (.int p0), .val (.int p1), .val (.int p2), .val (.int p3), .val (.int (p0 &&& (1 : Int32))), .val (.int (m0_0 p0 p1 p2 p3)), .val (.int (m0_1 p0 p1 p2 p3)), .val (.int (m0_2 p0 p1 p2 p3)), .val (.ref b2), .unset, .unset, .unset, .unset, .unset, .unset, .unset, .unset] [(.int (5 : Int32)), (.ref b2)])) _
    refine XS.iloadN X12.here hx rfl (hb hby at_90) rfl ?_
    show Steps p.tables e below (T12.setTop (mkF m 91 #[.val (.int p0), .val (.int p1), .val (.int p2), .val (.int p3), .val (.int (p0 &&& (1 : Int32))), .val (.int (m0_0 p0 p1 p2 p3)), .val (.int (m0_1 p0 p1 p2 p3)), .val (.int (m0_2 p0 p1 p2 p3)), .val (.ref b2), .unset, .unset, .unset, .unset, .unset, .unset, .unset, .unset] [(.int p1), (.int (5 : Int32)), (.ref b2)])) _
    refine XS.bipush X12.here hx rfl (hb hby at_91) ?_
    show Steps p.tables e below (T12.setTop (mkF m 93 #[.val (.int p0), .val (.int p1), .val (.int p2), .val (.int p3), .val (.int (p0 &&& (1 : Int32))), .val (.int (m0_0 p0 p1 p2 p3)), .val (.int (m0_1 p0 p1 p2 p3)), .val (.int (m0_2 p0 p1 p2 p3)), .val (.ref b2), .unset, .unset, .unset, .unset, .unset, .unset, .unset, .unset] [(.int (24 : Int32)), (.int p1), (.int (5 : Int32)), (.ref b2)])) _
    refine XS.iushr X12.here hx rfl (hb hby at_93) rfl ?_
    show Steps p.tables e below (T12.setTop (mkF m 94 #[.val (.int p0), .val (.int p1), .val (.int p2), .val (.int p3), .val (.int (p0 &&& (1 : Int32))), .val (.int (m0_0 p0 p1 p2 p3)), .val (.int (m0_1 p0 p1 p2 p3)), .val (.int (m0_2 p0 p1 p2 p3)), .val (.ref b2), .unset, .unset, .unset, .unset, .unset, .unset, .unset, .unset] [(.int ((p1.toUInt32 >>> ((24 : Int32) &&& 31).toUInt32).toInt32)), (.int (5 : Int32)), (.ref b2)])) _
    refine XS.i2b X12.here hx rfl (hb hby at_94) rfl ?_
    show Steps p.tables e below (T12.setTop (mkF m 95 #[.val (.int p0), .val (.int p1), .val (.int p2), .val (.int p3), .val (.int (p0 &&& (1 : Int32))), .val (.int (m0_0 p0 p1 p2 p3)), .val (.int (m0_1 p0 p1 p2 p3)), .val (.int (m0_2 p0 p1 p2 p3)), .val (.ref b2), .unset, .unset, .unset, .unset, .unset, .unset, .unset, .unset] [(.int (((p1.toUInt32 >>> ((24 : Int32) &&& 31).toUInt32).toInt32).toInt8.toInt32)), (.int (5 : Int32)), (.ref b2)])) _
    refine st14 _ ?_
    show Steps p.tables e below (T14.setTop (mkF m 96 #[.val (.int p0), .val (.int p1), .val (.int p2), .val (.int p3), .val (.int (p0 &&& (1 : Int32))), .val (.int (m0_0 p0 p1 p2 p3)), .val (.int (m0_1 p0 p1 p2 p3)), .val (.int (m0_2 p0 p1 p2 p3)), .val (.ref b2), .unset, .unset, .unset, .unset, .unset, .unset, .unset, .unset] [])) _
    refine XS.aload X14.here hx rfl (hb hby at_96) rfl rfl ?_
    show Steps p.tables e below (T14.setTop (mkF m 98 #[.val (.int p0), .val (.int p1), .val (.int p2), .val (.int p3), .val (.int (p0 &&& (1 : Int32))), .val (.int (m0_0 p0 p1 p2 p3)), .val (.int (m0_1 p0 p1 p2 p3)), .val (.int (m0_2 p0 p1 p2 p3)), .val (.ref b2), .unset, .unset, .unset, .unset, .unset, .unset, .unset, .unset] [(.ref b2)])) _
    refine XS.iload X14.here hx rfl (hb hby at_98) rfl ?_
    show Steps p.tables e below (T14.setTop (mkF m 100 #[.val (.int p0), .val (.int p1), .val (.int p2), .val (.int p3), .val (.int (p0 &&& (1 : Int32))), .val (.int (m0_0 p0 p1 p2 p3)), .val (.int (m0_1 p0 p1 p2 p3)), .val (.int (m0_2 p0 p1 p2 p3)), .val (.ref b2), .unset, .unset, .unset, .unset, .unset, .unset, .unset, .unset] [(.int (m0_1 p0 p1 p2 p3)), (.ref b2)])) _
    refine XS.iconst X14.here hx rfl (hb hby at_100) ?_
    show Steps p.tables e below (T14.setTop (mkF m 101 #[.val (.int p0), .val (.int p1), .val (.int p2), .val (.int p3), .val (.int (p0 &&& (1 : Int32))), .val (.int (m0_0 p0 p1 p2 p3)), .val (.int (m0_1 p0 p1 p2 p3)), .val (.int (m0_2 p0 p1 p2 p3)), .val (.ref b2), .unset, .unset, .unset, .unset, .unset, .unset, .unset, .unset] [(.int (1 : Int32)), (.int (m0_1 p0 p1 p2 p3)), (.ref b2)])) _
    refine XS.isub X14.here hx rfl (hb hby at_101) rfl ?_
    show Steps p.tables e below (T14.setTop (mkF m 102 #[.val (.int p0), .val (.int p1), .val (.int p2), .val (.int p3), .val (.int (p0 &&& (1 : Int32))), .val (.int (m0_0 p0 p1 p2 p3)), .val (.int (m0_1 p0 p1 p2 p3)), .val (.int (m0_2 p0 p1 p2 p3)), .val (.ref b2), .unset, .unset, .unset, .unset, .unset, .unset, .unset, .unset] [(.int ((m0_1 p0 p1 p2 p3) - (1 : Int32))), (.ref b2)])) _
    refine XS.iload X14.here hx rfl (hb hby at_102) rfl ?_
    show Steps p.tables e below (T14.setTop (mkF m 104 #[.val (.int p0), .val (.int p1), .val (.int p2), .val (.int p3), .val (.int (p0 &&& (1 : Int32))), .val (.int (m0_0 p0 p1 p2 p3)), .val (.int (m0_1 p0 p1 p2 p3)), .val (.int (m0_2 p0 p1 p2 p3)), .val (.ref b2), .unset, .unset, .unset, .unset, .unset, .unset, .unset, .unset] [(.int (m0_2 p0 p1 p2 p3)), (.int ((m0_1 p0 p1 p2 p3) - (1 : Int32))), (.ref b2)])) _
    refine XS.i2b X14.here hx rfl (hb hby at_104) rfl ?_
    show Steps p.tables e below (T14.setTop (mkF m 105 #[.val (.int p0), .val (.int p1), .val (.int p2), .val (.int p3), .val (.int (p0 &&& (1 : Int32))), .val (.int (m0_0 p0 p1 p2 p3)), .val (.int (m0_1 p0 p1 p2 p3)), .val (.int (m0_2 p0 p1 p2 p3)), .val (.ref b2), .unset, .unset, .unset, .unset, .unset, .unset, .unset, .unset] [(.int ((m0_2 p0 p1 p2 p3).toInt8.toInt32)), (.int ((m0_1 p0 p1 p2 p3) - (1 : Int32))), (.ref b2)])) _
    refine st16 _ ?_
    show Steps p.tables e below (T16.setTop (mkF m 106 #[.val (.int p0), .val (.int p1), .val (.int p2), .val (.int p3), .val (.int (p0 &&& (1 : Int32))), .val (.int (m0_0 p0 p1 p2 p3)), .val (.int (m0_1 p0 p1 p2 p3)), .val (.int (m0_2 p0 p1 p2 p3)), .val (.ref b2), .unset, .unset, .unset, .unset, .unset, .unset, .unset, .unset] [])) _
    refine X16.ldc2Long hx hown (mvT hZ (hw _ (List.mem_of_getElem? (i := 1) rfl))) (g := (mkF m 106 #[.val (.int p0), .val (.int p1), .val (.int p2), .val (.int p3), .val (.int (p0 &&& (1 : Int32))), .val (.int (m0_0 p0 p1 p2 p3)), .val (.int (m0_1 p0 p1 p2 p3)), .val (.int (m0_2 p0 p1 p2 p3)), .val (.ref b2), .unset, .unset, .unset, .unset, .unset, .unset, .unset, .unset] [])) rfl (hb hby at_106) _ ?_
    show Steps p.tables e below (T16.setTop (mkF m 109 #[.val (.int p0), .val (.int p1), .val (.int p2), .val (.int p3), .val (.int (p0 &&& (1 : Int32))), .val (.int (m0_0 p0 p1 p2 p3)), .val (.int (m0_1 p0 p1 p2 p3)), .val (.int (m0_2 p0 p1 p2 p3)), .val (.ref b2), .unset, .unset, .unset, .unset, .unset, .unset, .unset, .unset] [(.long (8 : Int64))])) _
    refine XS.iload X16.here hx rfl (hb hby at_109) rfl ?_
    show Steps p.tables e below (T16.setTop (mkF m 111 #[.val (.int p0), .val (.int p1), .val (.int p2), .val (.int p3), .val (.int (p0 &&& (1 : Int32))), .val (.int (m0_0 p0 p1 p2 p3)), .val (.int (m0_1 p0 p1 p2 p3)), .val (.int (m0_2 p0 p1 p2 p3)), .val (.ref b2), .unset, .unset, .unset, .unset, .unset, .unset, .unset, .unset] [(.int (m0_0 p0 p1 p2 p3)), (.long (8 : Int64))])) _
    refine XS.iconst X16.here hx rfl (hb hby at_111) ?_
    show Steps p.tables e below (T16.setTop (mkF m 112 #[.val (.int p0), .val (.int p1), .val (.int p2), .val (.int p3), .val (.int (p0 &&& (1 : Int32))), .val (.int (m0_0 p0 p1 p2 p3)), .val (.int (m0_1 p0 p1 p2 p3)), .val (.int (m0_2 p0 p1 p2 p3)), .val (.ref b2), .unset, .unset, .unset, .unset, .unset, .unset, .unset, .unset] [(.int (1 : Int32)), (.int (m0_0 p0 p1 p2 p3)), (.long (8 : Int64))])) _
    refine XS.isub X16.here hx rfl (hb hby at_112) rfl ?_
    show Steps p.tables e below (T16.setTop (mkF m 113 #[.val (.int p0), .val (.int p1), .val (.int p2), .val (.int p3), .val (.int (p0 &&& (1 : Int32))), .val (.int (m0_0 p0 p1 p2 p3)), .val (.int (m0_1 p0 p1 p2 p3)), .val (.int (m0_2 p0 p1 p2 p3)), .val (.ref b2), .unset, .unset, .unset, .unset, .unset, .unset, .unset, .unset] [(.int ((m0_0 p0 p1 p2 p3) - (1 : Int32))), (.long (8 : Int64))])) _
    refine XS.i2l X16.here hx rfl (hb hby at_113) rfl ?_
    show Steps p.tables e below (T16.setTop (mkF m 114 #[.val (.int p0), .val (.int p1), .val (.int p2), .val (.int p3), .val (.int (p0 &&& (1 : Int32))), .val (.int (m0_0 p0 p1 p2 p3)), .val (.int (m0_1 p0 p1 p2 p3)), .val (.int (m0_2 p0 p1 p2 p3)), .val (.ref b2), .unset, .unset, .unset, .unset, .unset, .unset, .unset, .unset] [(.long (((m0_0 p0 p1 p2 p3) - (1 : Int32)).toInt64)), (.long (8 : Int64))])) _
    refine XS.lmul X16.here hx rfl (hb hby at_114) rfl ?_
    show Steps p.tables e below (T16.setTop (mkF m 115 #[.val (.int p0), .val (.int p1), .val (.int p2), .val (.int p3), .val (.int (p0 &&& (1 : Int32))), .val (.int (m0_0 p0 p1 p2 p3)), .val (.int (m0_1 p0 p1 p2 p3)), .val (.int (m0_2 p0 p1 p2 p3)), .val (.ref b2), .unset, .unset, .unset, .unset, .unset, .unset, .unset, .unset] [(.long ((8 : Int64) * (((m0_0 p0 p1 p2 p3) - (1 : Int32)).toInt64)))])) _
    refine XS.iload X16.here hx rfl (hb hby at_115) rfl ?_
    show Steps p.tables e below (T16.setTop (mkF m 117 #[.val (.int p0), .val (.int p1), .val (.int p2), .val (.int p3), .val (.int (p0 &&& (1 : Int32))), .val (.int (m0_0 p0 p1 p2 p3)), .val (.int (m0_1 p0 p1 p2 p3)), .val (.int (m0_2 p0 p1 p2 p3)), .val (.ref b2), .unset, .unset, .unset, .unset, .unset, .unset, .unset, .unset] [(.int (m0_2 p0 p1 p2 p3)), (.long ((8 : Int64) * (((m0_0 p0 p1 p2 p3) - (1 : Int32)).toInt64)))])) _
    refine st17 _ ?_
    show Steps p.tables e below (T17.setTop (mkF m 120 #[.val (.int p0), .val (.int p1), .val (.int p2), .val (.int p3), .val (.int (p0 &&& (1 : Int32))), .val (.int (m0_0 p0 p1 p2 p3)), .val (.int (m0_1 p0 p1 p2 p3)), .val (.int (m0_2 p0 p1 p2 p3)), .val (.ref b2), .unset, .unset, .unset, .unset, .unset, .unset, .unset, .unset] [(.int (f1 (m0_2 p0 p1 p2 p3))), (.long ((8 : Int64) * (((m0_0 p0 p1 p2 p3) - (1 : Int32)).toInt64)))])) _
    refine XS.i2l X17.here hx rfl (hb hby at_120) rfl ?_
    show Steps p.tables e below (T17.setTop (mkF m 121 #[.val (.int p0), .val (.int p1), .val (.int p2), .val (.int p3), .val (.int (p0 &&& (1 : Int32))), .val (.int (m0_0 p0 p1 p2 p3)), .val (.int (m0_1 p0 p1 p2 p3)), .val (.int (m0_2 p0 p1 p2 p3)), .val (.ref b2), .unset, .unset, .unset, .unset, .unset, .unset, .unset, .unset] [(.long ((f1 (m0_2 p0 p1 p2 p3)).toInt64)), (.long ((8 : Int64) * (((m0_0 p0 p1 p2 p3) - (1 : Int32)).toInt64)))])) _
    refine XS.ladd X17.here hx rfl (hb hby at_121) rfl ?_
    show Steps p.tables e below (T17.setTop (mkF m 122 #[.val (.int p0), .val (.int p1), .val (.int p2), .val (.int p3), .val (.int (p0 &&& (1 : Int32))), .val (.int (m0_0 p0 p1 p2 p3)), .val (.int (m0_1 p0 p1 p2 p3)), .val (.int (m0_2 p0 p1 p2 p3)), .val (.ref b2), .unset, .unset, .unset, .unset, .unset, .unset, .unset, .unset] [(.long (((8 : Int64) * (((m0_0 p0 p1 p2 p3) - (1 : Int32)).toInt64)) + ((f1 (m0_2 p0 p1 p2 p3)).toInt64)))])) _
    refine XS.lstore X17.here hx rfl (hb hby at_122) rfl (l' := #[.val (.int p0), .val (.int p1), .val (.int p2), .val (.int p3), .val (.int (p0 &&& (1 : Int32))), .val (.int (m0_0 p0 p1 p2 p3)), .val (.int (m0_1 p0 p1 p2 p3)), .val (.int (m0_2 p0 p1 p2 p3)), .val (.ref b2), .val (.long (m0_3 p0 p1 p2 p3)), .second, .unset, .unset, .unset, .unset, .unset, .unset]) rfl ?_
    show Steps p.tables e below (T17.setTop (mkF m 124 #[.val (.int p0), .val (.int p1), .val (.int p2), .val (.int p3), .val (.int (p0 &&& (1 : Int32))), .val (.int (m0_0 p0 p1 p2 p3)), .val (.int (m0_1 p0 p1 p2 p3)), .val (.int (m0_2 p0 p1 p2 p3)), .val (.ref b2), .val (.long (m0_3 p0 p1 p2 p3)), .second, .unset, .unset, .unset, .unset, .unset, .unset] [])) _
    refine XS.iloadN X17.here hx rfl (hb hby at_124) rfl ?_
    show Steps p.tables e below (T17.setTop (mkF m 125 #[.val (.int p0), .val (.int p1), .val (.int p2), .val (.int p3), .val (.int (p0 &&& (1 : Int32))), .val (.int (m0_0 p0 p1 p2 p3)), .val (.int (m0_1 p0 p1 p2 p3)), .val (.int (m0_2 p0 p1 p2 p3)), .val (.ref b2), .val (.long (m0_3 p0 p1 p2 p3)), .second, .unset, .unset, .unset, .unset, .unset, .unset] [(.int p2)])) _
    refine X17.ldcInt hx hown (mvT hZ (hw _ (List.mem_of_getElem? (i := 6) rfl))) (g := (mkF m 125 #[.val (.int p0), .val (.int p1), .val (.int p2), .val (.int p3), .val (.int (p0 &&& (1 : Int32))), .val (.int (m0_0 p0 p1 p2 p3)), .val (.int (m0_1 p0 p1 p2 p3)), .val (.int (m0_2 p0 p1 p2 p3)), .val (.ref b2), .val (.long (m0_3 p0 p1 p2 p3)), .second, .unset, .unset, .unset, .unset, .unset, .unset] [(.int p2)])) rfl (hb hby at_125) _ ?_
    show Steps p.tables e below (T17.setTop (mkF m 127 #[.val (.int p0), .val (.int p1), .val (.int p2), .val (.int p3), .val (.int (p0 &&& (1 : Int32))), .val (.int (m0_0 p0 p1 p2 p3)), .val (.int (m0_1 p0 p1 p2 p3)), .val (.int (m0_2 p0 p1 p2 p3)), .val (.ref b2), .val (.long (m0_3 p0 p1 p2 p3)), .second, .unset, .unset, .unset, .unset, .unset, .unset] [(.int (2147483647 : Int32)), (.int p2)])) _
    refine XS.iand X17.here hx rfl (hb hby at_127) rfl ?_
    show Steps p.tables e below (T17.setTop (mkF m 128 #[.val (.int p0), .val (.int p1), .val (.int p2), .val (.int p3), .val (.int (p0 &&& (1 : Int32))), .val (.int (m0_0 p0 p1 p2 p3)), .val (.int (m0_1 p0 p1 p2 p3)), .val (.int (m0_2 p0 p1 p2 p3)), .val (.ref b2), .val (.long (m0_3 p0 p1 p2 p3)), .second, .unset, .unset, .unset, .unset, .unset, .unset] [(.int (p2 &&& (2147483647 : Int32)))])) _
    refine XS.bipush X17.here hx rfl (hb hby at_128) ?_
    show Steps p.tables e below (T17.setTop (mkF m 130 #[.val (.int p0), .val (.int p1), .val (.int p2), .val (.int p3), .val (.int (p0 &&& (1 : Int32))), .val (.int (m0_0 p0 p1 p2 p3)), .val (.int (m0_1 p0 p1 p2 p3)), .val (.int (m0_2 p0 p1 p2 p3)), .val (.ref b2), .val (.long (m0_3 p0 p1 p2 p3)), .second, .unset, .unset, .unset, .unset, .unset, .unset] [(.int (33 : Int32)), (.int (p2 &&& (2147483647 : Int32)))])) _
    refine iremM X17 hx rfl (hb hby at_130) rfl (by decide) ?_
    show Steps p.tables e below (T17.setTop (mkF m 131 #[.val (.int p0), .val (.int p1), .val (.int p2), .val (.int p3), .val (.int (p0 &&& (1 : Int32))), .val (.int (m0_0 p0 p1 p2 p3)), .val (.int (m0_1 p0 p1 p2 p3)), .val (.int (m0_2 p0 p1 p2 p3)), .val (.ref b2), .val (.long (m0_3 p0 p1 p2 p3)), .second, .unset, .unset, .unset, .unset, .unset, .unset] [(.int ((p2 &&& (2147483647 : Int32)) % (33 : Int32)))])) _
    refine XS.istore X17.here hx rfl (hb hby at_131) rfl (l' := #[.val (.int p0), .val (.int p1), .val (.int p2), .val (.int p3), .val (.int (p0 &&& (1 : Int32))), .val (.int (m0_0 p0 p1 p2 p3)), .val (.int (m0_1 p0 p1 p2 p3)), .val (.int (m0_2 p0 p1 p2 p3)), .val (.ref b2), .val (.long (m0_3 p0 p1 p2 p3)), .second, .val (.int (m0_4 p0 p1 p2 p3)), .unset, .unset, .unset, .unset, .unset]) rfl ?_
    show Steps p.tables e below (T17.setTop (mkF m 133 #[.val (.int p0), .val (.int p1), .val (.int p2), .val (.int p3), .val (.int (p0 &&& (1 : Int32))), .val (.int (m0_0 p0 p1 p2 p3)), .val (.int (m0_1 p0 p1 p2 p3)), .val (.int (m0_2 p0 p1 p2 p3)), .val (.ref b2), .val (.long (m0_3 p0 p1 p2 p3)), .second, .val (.int (m0_4 p0 p1 p2 p3)), .unset, .unset, .unset, .unset, .unset] [])) _
    refine XS.iloadN X17.here hx rfl (hb hby at_133) rfl ?_
    show Steps p.tables e below (T17.setTop (mkF m 134 #[.val (.int p0), .val (.int p1), .val (.int p2), .val (.int p3), .val (.int (p0 &&& (1 : Int32))), .val (.int (m0_0 p0 p1 p2 p3)), .val (.int (m0_1 p0 p1 p2 p3)), .val (.int (m0_2 p0 p1 p2 p3)), .val (.ref b2), .val (.long (m0_3 p0 p1 p2 p3)), .second, .val (.int (m0_4 p0 p1 p2 p3)), .unset, .unset, .unset, .unset, .unset] [(.int p3)])) _
    refine X17.ldcInt hx hown (mvT hZ (hw _ (List.mem_of_getElem? (i := 6) rfl))) (g := (mkF m 134 #[.val (.int p0), .val (.int p1), .val (.int p2), .val (.int p3), .val (.int (p0 &&& (1 : Int32))), .val (.int (m0_0 p0 p1 p2 p3)), .val (.int (m0_1 p0 p1 p2 p3)), .val (.int (m0_2 p0 p1 p2 p3)), .val (.ref b2), .val (.long (m0_3 p0 p1 p2 p3)), .second, .val (.int (m0_4 p0 p1 p2 p3)), .unset, .unset, .unset, .unset, .unset] [(.int p3)])) rfl (hb hby at_134) _ ?_
    show Steps p.tables e below (T17.setTop (mkF m 136 #[.val (.int p0), .val (.int p1), .val (.int p2), .val (.int p3), .val (.int (p0 &&& (1 : Int32))), .val (.int (m0_0 p0 p1 p2 p3)), .val (.int (m0_1 p0 p1 p2 p3)), .val (.int (m0_2 p0 p1 p2 p3)), .val (.ref b2), .val (.long (m0_3 p0 p1 p2 p3)), .second, .val (.int (m0_4 p0 p1 p2 p3)), .unset, .unset, .unset, .unset, .unset] [(.int (2147483647 : Int32)), (.int p3)])) _
    refine XS.iand X17.here hx rfl (hb hby at_136) rfl ?_
    show Steps p.tables e below (T17.setTop (mkF m 137 #[.val (.int p0), .val (.int p1), .val (.int p2), .val (.int p3), .val (.int (p0 &&& (1 : Int32))), .val (.int (m0_0 p0 p1 p2 p3)), .val (.int (m0_1 p0 p1 p2 p3)), .val (.int (m0_2 p0 p1 p2 p3)), .val (.ref b2), .val (.long (m0_3 p0 p1 p2 p3)), .second, .val (.int (m0_4 p0 p1 p2 p3)), .unset, .unset, .unset, .unset, .unset] [(.int (p3 &&& (2147483647 : Int32)))])) _
    refine XS.bipush X17.here hx rfl (hb hby at_137) ?_
    show Steps p.tables e below (T17.setTop (mkF m 139 #[.val (.int p0), .val (.int p1), .val (.int p2), .val (.int p3), .val (.int (p0 &&& (1 : Int32))), .val (.int (m0_0 p0 p1 p2 p3)), .val (.int (m0_1 p0 p1 p2 p3)), .val (.int (m0_2 p0 p1 p2 p3)), .val (.ref b2), .val (.long (m0_3 p0 p1 p2 p3)), .second, .val (.int (m0_4 p0 p1 p2 p3)), .unset, .unset, .unset, .unset, .unset] [(.int (33 : Int32)), (.int (p3 &&& (2147483647 : Int32)))])) _
    refine iremM X17 hx rfl (hb hby at_139) rfl (by decide) ?_
    show Steps p.tables e below (T17.setTop (mkF m 140 #[.val (.int p0), .val (.int p1), .val (.int p2), .val (.int p3), .val (.int (p0 &&& (1 : Int32))), .val (.int (m0_0 p0 p1 p2 p3)), .val (.int (m0_1 p0 p1 p2 p3)), .val (.int (m0_2 p0 p1 p2 p3)), .val (.ref b2), .val (.long (m0_3 p0 p1 p2 p3)), .second, .val (.int (m0_4 p0 p1 p2 p3)), .unset, .unset, .unset, .unset, .unset] [(.int ((p3 &&& (2147483647 : Int32)) % (33 : Int32)))])) _
    refine XS.istore X17.here hx rfl (hb hby at_140) rfl (l' := #[.val (.int p0), .val (.int p1), .val (.int p2), .val (.int p3), .val (.int (p0 &&& (1 : Int32))), .val (.int (m0_0 p0 p1 p2 p3)), .val (.int (m0_1 p0 p1 p2 p3)), .val (.int (m0_2 p0 p1 p2 p3)), .val (.ref b2), .val (.long (m0_3 p0 p1 p2 p3)), .second, .val (.int (m0_4 p0 p1 p2 p3)), .val (.int (m0_5 p0 p1 p2 p3)), .unset, .unset, .unset, .unset]) rfl ?_
    show Steps p.tables e below (T17.setTop (mkF m 142 #[.val (.int p0), .val (.int p1), .val (.int p2), .val (.int p3), .val (.int (p0 &&& (1 : Int32))), .val (.int (m0_0 p0 p1 p2 p3)), .val (.int (m0_1 p0 p1 p2 p3)), .val (.int (m0_2 p0 p1 p2 p3)), .val (.ref b2), .val (.long (m0_3 p0 p1 p2 p3)), .second, .val (.int (m0_4 p0 p1 p2 p3)), .val (.int (m0_5 p0 p1 p2 p3)), .unset, .unset, .unset, .unset] [])) _
    refine st18 _ ?_
    show Steps p.tables e below (T18.setTop (mkF m 145 #[.val (.int p0), .val (.int p1), .val (.int p2), .val (.int p3), .val (.int (p0 &&& (1 : Int32))), .val (.int (m0_0 p0 p1 p2 p3)), .val (.int (m0_1 p0 p1 p2 p3)), .val (.int (m0_2 p0 p1 p2 p3)), .val (.ref b2), .val (.long (m0_3 p0 p1 p2 p3)), .second, .val (.int (m0_4 p0 p1 p2 p3)), .val (.int (m0_5 p0 p1 p2 p3)), .unset, .unset, .unset, .unset] [(.ref b18)])) _
    refine XS.dup X18.here hx rfl (hb hby at_145) rfl rfl ?_
    show Steps p.tables e below (T18.setTop (mkF m 146 #[.val (.int p0), .val (.int p1), .val (.int p2), .val (.int p3), .val (.int (p0 &&& (1 : Int32))), .val (.int (m0_0 p0 p1 p2 p3)), .val (.int (m0_1 p0 p1 p2 p3)), .val (.int (m0_2 p0 p1 p2 p3)), .val (.ref b2), .val (.long (m0_3 p0 p1 p2 p3)), .second, .val (.int (m0_4 p0 p1 p2 p3)), .val (.int (m0_5 p0 p1 p2 p3)), .unset, .unset, .unset, .unset] [(.ref b18), (.ref b18)])) _
    refine XS.aload X18.here hx rfl (hb hby at_146) rfl rfl ?_
    show Steps p.tables e below (T18.setTop (mkF m 148 #[.val (.int p0), .val (.int p1), .val (.int p2), .val (.int p3), .val (.int (p0 &&& (1 : Int32))), .val (.int (m0_0 p0 p1 p2 p3)), .val (.int (m0_1 p0 p1 p2 p3)), .val (.int (m0_2 p0 p1 p2 p3)), .val (.ref b2), .val (.long (m0_3 p0 p1 p2 p3)), .second, .val (.int (m0_4 p0 p1 p2 p3)), .val (.int (m0_5 p0 p1 p2 p3)), .unset, .unset, .unset, .unset] [(.ref b2), (.ref b18), (.ref b18)])) _
    refine XS.iload X18.here hx rfl (hb hby at_148) rfl ?_
    show Steps p.tables e below (T18.setTop (mkF m 150 #[.val (.int p0), .val (.int p1), .val (.int p2), .val (.int p3), .val (.int (p0 &&& (1 : Int32))), .val (.int (m0_0 p0 p1 p2 p3)), .val (.int (m0_1 p0 p1 p2 p3)), .val (.int (m0_2 p0 p1 p2 p3)), .val (.ref b2), .val (.long (m0_3 p0 p1 p2 p3)), .second, .val (.int (m0_4 p0 p1 p2 p3)), .val (.int (m0_5 p0 p1 p2 p3)), .unset, .unset, .unset, .unset] [(.int (p0 &&& (1 : Int32))), (.ref b2), (.ref b18), (.ref b18)])) _
    refine XS.iload X18.here hx rfl (hb hby at_150) rfl ?_
    show Steps p.tables e below (T18.setTop (mkF m 152 #[.val (.int p0), .val (.int p1), .val (.int p2), .val (.int p3), .val (.int (p0 &&& (1 : Int32))), .val (.int (m0_0 p0 p1 p2 p3)), .val (.int (m0_1 p0 p1 p2 p3)), .val (.int (m0_2 p0 p1 p2 p3)), .val (.ref b2), .val (.long (m0_3 p0 p1 p2 p3)), .second, .val (.int (m0_4 p0 p1 p2 p3)), .val (.int (m0_5 p0 p1 p2 p3)), .unset, .unset, .unset, .unset] [(.int (m0_1 p0 p1 p2 p3)), (.int (p0 &&& (1 : Int32))), (.ref b2), (.ref b18), (.ref b18)])) _
    refine st19.trans ?_
    show Steps p.tables e below (T19.setTop (mkF m 155 #[.val (.int p0), .val (.int p1), .val (.int p2), .val (.int p3), .val (.int (p0 &&& (1 : Int32))), .val (.int (m0_0 p0 p1 p2 p3)), .val (.int (m0_1 p0 p1 p2 p3)), .val (.int (m0_2 p0 p1 p2 p3)), .val (.ref b2), .val (.long (m0_3 p0 p1 p2 p3)), .second, .val (.int (m0_4 p0 p1 p2 p3)), .val (.int (m0_5 p0 p1 p2 p3)), .unset, .unset, .unset, .unset] [(.ref b18)])) _
    refine XS.astore X19.here hx rfl (hb hby at_155) rfl rfl (l' := #[.val (.int p0), .val (.int p1), .val (.int p2), .val (.int p3), .val (.int (p0 &&& (1 : Int32))), .val (.int (m0_0 p0 p1 p2 p3)), .val (.int (m0_1 p0 p1 p2 p3)), .val (.int (m0_2 p0 p1 p2 p3)), .val (.ref b2), .val (.long (m0_3 p0 p1 p2 p3)), .second, .val (.int (m0_4 p0 p1 p2 p3)), .val (.int (m0_5 p0 p1 p2 p3)), .val (.ref b18), .unset, .unset, .unset]) rfl ?_
    show Steps p.tables e below (T19.setTop (mkF m 157 #[.val (.int p0), .val (.int p1), .val (.int p2), .val (.int p3), .val (.int (p0 &&& (1 : Int32))), .val (.int (m0_0 p0 p1 p2 p3)), .val (.int (m0_1 p0 p1 p2 p3)), .val (.int (m0_2 p0 p1 p2 p3)), .val (.ref b2), .val (.long (m0_3 p0 p1 p2 p3)), .second, .val (.int (m0_4 p0 p1 p2 p3)), .val (.int (m0_5 p0 p1 p2 p3)), .val (.ref b18), .unset, .unset, .unset] [])) _
    refine XS.aload X19.here hx rfl (hb hby at_157) rfl rfl ?_
    show Steps p.tables e below (T19.setTop (mkF m 159 #[.val (.int p0), .val (.int p1), .val (.int p2), .val (.int p3), .val (.int (p0 &&& (1 : Int32))), .val (.int (m0_0 p0 p1 p2 p3)), .val (.int (m0_1 p0 p1 p2 p3)), .val (.int (m0_2 p0 p1 p2 p3)), .val (.ref b2), .val (.long (m0_3 p0 p1 p2 p3)), .second, .val (.int (m0_4 p0 p1 p2 p3)), .val (.int (m0_5 p0 p1 p2 p3)), .val (.ref b18), .unset, .unset, .unset] [(.ref b18)])) _
    refine st20.trans ?_
    show Steps p.tables e below (T20.setTop (mkF m 162 #[.val (.int p0), .val (.int p1), .val (.int p2), .val (.int p3), .val (.int (p0 &&& (1 : Int32))), .val (.int (m0_0 p0 p1 p2 p3)), .val (.int (m0_1 p0 p1 p2 p3)), .val (.int (m0_2 p0 p1 p2 p3)), .val (.ref b2), .val (.long (m0_3 p0 p1 p2 p3)), .second, .val (.int (m0_4 p0 p1 p2 p3)), .val (.int (m0_5 p0 p1 p2 p3)), .val (.ref b18), .unset, .unset, .unset] [(.int (f5 (((((((m0_1 p0 p1 p2 p3) - (p0 &&& (1 : Int32))).toInt64) * (8 : Int64)) - ((f4 ((((m0_2 p0 p1 p2 p3).toInt8.toInt32).toInt8.toInt32) &&& (255 : Int32))).toInt64)) + (24 : Int64)) - (1 : Int64))))])) _
    refine XS.istore X20.here hx rfl (hb hby at_162) rfl (l' := #[.val (.int p0), .val (.int p1), .val (.int p2), .val (.int p3), .val (.int (p0 &&& (1 : Int32))), .val (.int (m0_0 p0 p1 p2 p3)), .val (.int (m0_1 p0 p1 p2 p3)), .val (.int (m0_2 p0 p1 p2 p3)), .val (.ref b2), .val (.long (m0_3 p0 p1 p2 p3)), .second, .val (.int (m0_4 p0 p1 p2 p3)), .val (.int (m0_5 p0 p1 p2 p3)), .val (.ref b18), .val (.int (f5 (((((((m0_1 p0 p1 p2 p3) - (p0 &&& (1 : Int32))).toInt64) * (8 : Int64)) - ((f4 ((((m0_2 p0 p1 p2 p3).toInt8.toInt32).toInt8.toInt32) &&& (255 : Int32))).toInt64)) + (24 : Int64)) - (1 : Int64)))), .unset, .unset]) rfl ?_
    show Steps p.tables e below (T20.setTop (mkF m 164 #[.val (.int p0), .val (.int p1), .val (.int p2), .val (.int p3), .val (.int (p0 &&& (1 : Int32))), .val (.int (m0_0 p0 p1 p2 p3)), .val (.int (m0_1 p0 p1 p2 p3)), .val (.int (m0_2 p0 p1 p2 p3)), .val (.ref b2), .val (.long (m0_3 p0 p1 p2 p3)), .second, .val (.int (m0_4 p0 p1 p2 p3)), .val (.int (m0_5 p0 p1 p2 p3)), .val (.ref b18), .val (.int (f5 (((((((m0_1 p0 p1 p2 p3) - (p0 &&& (1 : Int32))).toInt64) * (8 : Int64)) - ((f4 ((((m0_2 p0 p1 p2 p3).toInt8.toInt32).toInt8.toInt32) &&& (255 : Int32))).toInt64)) + (24 : Int64)) - (1 : Int64)))), .unset, .unset] [])) _
    refine XS.aload X20.here hx rfl (hb hby at_164) rfl rfl ?_
    show Steps p.tables e below (T20.setTop (mkF m 166 #[.val (.int p0), .val (.int p1), .val (.int p2), .val (.int p3), .val (.int (p0 &&& (1 : Int32))), .val (.int (m0_0 p0 p1 p2 p3)), .val (.int (m0_1 p0 p1 p2 p3)), .val (.int (m0_2 p0 p1 p2 p3)), .val (.ref b2), .val (.long (m0_3 p0 p1 p2 p3)), .second, .val (.int (m0_4 p0 p1 p2 p3)), .val (.int (m0_5 p0 p1 p2 p3)), .val (.ref b18), .val (.int (f5 (((((((m0_1 p0 p1 p2 p3) - (p0 &&& (1 : Int32))).toInt64) * (8 : Int64)) - ((f4 ((((m0_2 p0 p1 p2 p3).toInt8.toInt32).toInt8.toInt32) &&& (255 : Int32))).toInt64)) + (24 : Int64)) - (1 : Int64)))), .unset, .unset] [(.ref b18)])) _
    refine XS.iload X20.here hx rfl (hb hby at_166) rfl ?_
    show Steps p.tables e below (T20.setTop (mkF m 168 #[.val (.int p0), .val (.int p1), .val (.int p2), .val (.int p3), .val (.int (p0 &&& (1 : Int32))), .val (.int (m0_0 p0 p1 p2 p3)), .val (.int (m0_1 p0 p1 p2 p3)), .val (.int (m0_2 p0 p1 p2 p3)), .val (.ref b2), .val (.long (m0_3 p0 p1 p2 p3)), .second, .val (.int (m0_4 p0 p1 p2 p3)), .val (.int (m0_5 p0 p1 p2 p3)), .val (.ref b18), .val (.int (f5 (((((((m0_1 p0 p1 p2 p3) - (p0 &&& (1 : Int32))).toInt64) * (8 : Int64)) - ((f4 ((((m0_2 p0 p1 p2 p3).toInt8.toInt32).toInt8.toInt32) &&& (255 : Int32))).toInt64)) + (24 : Int64)) - (1 : Int64)))), .unset, .unset] [(.int (m0_4 p0 p1 p2 p3)), (.ref b18)])) _
    refine st21.trans ?_
    show Steps p.tables e below (T21.setTop (mkF m 171 #[.val (.int p0), .val (.int p1), .val (.int p2), .val (.int p3), .val (.int (p0 &&& (1 : Int32))), .val (.int (m0_0 p0 p1 p2 p3)), .val (.int (m0_1 p0 p1 p2 p3)), .val (.int (m0_2 p0 p1 p2 p3)), .val (.ref b2), .val (.long (m0_3 p0 p1 p2 p3)), .second, .val (.int (m0_4 p0 p1 p2 p3)), .val (.int (m0_5 p0 p1 p2 p3)), .val (.ref b18), .val (.int (f5 (((((((m0_1 p0 p1 p2 p3) - (p0 &&& (1 : Int32))).toInt64) * (8 : Int64)) - ((f4 ((((m0_2 p0 p1 p2 p3).toInt8.toInt32).toInt8.toInt32) &&& (255 : Int32))).toInt64)) + (24 : Int64)) - (1 : Int64)))), .unset, .unset] [])) _
    refine XS.aload X21.here hx rfl (hb hby at_171) rfl rfl ?_
    show Steps p.tables e below (T21.setTop (mkF m 173 #[.val (.int p0), .val (.int p1), .val (.int p2), .val (.int p3), .val (.int (p0 &&& (1 : Int32))), .val (.int (m0_0 p0 p1 p2 p3)), .val (.int (m0_1 p0 p1 p2 p3)), .val (.int (m0_2 p0 p1 p2 p3)), .val (.ref b2), .val (.long (m0_3 p0 p1 p2 p3)), .second, .val (.int (m0_4 p0 p1 p2 p3)), .val (.int (m0_5 p0 p1 p2 p3)), .val (.ref b18), .val (.int (f5 (((((((m0_1 p0 p1 p2 p3) - (p0 &&& (1 : Int32))).toInt64) * (8 : Int64)) - ((f4 ((((m0_2 p0 p1 p2 p3).toInt8.toInt32).toInt8.toInt32) &&& (255 : Int32))).toInt64)) + (24 : Int64)) - (1 : Int64)))), .unset, .unset] [(.ref b18)])) _
    refine st22.trans ?_
    show Steps p.tables e below (T22.setTop (mkF m 176 #[.val (.int p0), .val (.int p1), .val (.int p2), .val (.int p3), .val (.int (p0 &&& (1 : Int32))), .val (.int (m0_0 p0 p1 p2 p3)), .val (.int (m0_1 p0 p1 p2 p3)), .val (.int (m0_2 p0 p1 p2 p3)), .val (.ref b2), .val (.long (m0_3 p0 p1 p2 p3)), .second, .val (.int (m0_4 p0 p1 p2 p3)), .val (.int (m0_5 p0 p1 p2 p3)), .val (.ref b18), .val (.int (f5 (((((((m0_1 p0 p1 p2 p3) - (p0 &&& (1 : Int32))).toInt64) * (8 : Int64)) - ((f4 ((((m0_2 p0 p1 p2 p3).toInt8.toInt32).toInt8.toInt32) &&& (255 : Int32))).toInt64)) + (24 : Int64)) - (1 : Int64)))), .unset, .unset] [(.int (f5 ((((((((m0_1 p0 p1 p2 p3) - (p0 &&& (1 : Int32))).toInt64) * (8 : Int64)) - ((f4 ((((m0_2 p0 p1 p2 p3).toInt8.toInt32).toInt8.toInt32) &&& (255 : Int32))).toInt64)) + (24 : Int64)) - (1 : Int64)) - ((m0_4 p0 p1 p2 p3).toInt64))))])) _
    refine XS.istore X22.here hx rfl (hb hby at_176) rfl (l' := #[.val (.int p0), .val (.int p1), .val (.int p2), .val (.int p3), .val (.int (p0 &&& (1 : Int32))), .val (.int (m0_0 p0 p1 p2 p3)), .val (.int (m0_1 p0 p1 p2 p3)), .val (.int (m0_2 p0 p1 p2 p3)), .val (.ref b2), .val (.long (m0_3 p0 p1 p2 p3)), .second, .val (.int (m0_4 p0 p1 p2 p3)), .val (.int (m0_5 p0 p1 p2 p3)), .val (.ref b18), .val (.int (f5 (((((((m0_1 p0 p1 p2 p3) - (p0 &&& (1 : Int32))).toInt64) * (8 : Int64)) - ((f4 ((((m0_2 p0 p1 p2 p3).toInt8.toInt32).toInt8.toInt32) &&& (255 : Int32))).toInt64)) + (24 : Int64)) - (1 : Int64)))), .val (.int (f5 ((((((((m0_1 p0 p1 p2 p3) - (p0 &&& (1 : Int32))).toInt64) * (8 : Int64)) - ((f4 ((((m0_2 p0 p1 p2 p3).toInt8.toInt32).toInt8.toInt32) &&& (255 : Int32))).toInt64)) + (24 : Int64)) - (1 : Int64)) - ((m0_4 p0 p1 p2 p3).toInt64)))), .unset]) rfl ?_
    show Steps p.tables e below (T22.setTop (mkF m 178 #[.val (.int p0), .val (.int p1), .val (.int p2), .val (.int p3), .val (.int (p0 &&& (1 : Int32))), .val (.int (m0_0 p0 p1 p2 p3)), .val (.int (m0_1 p0 p1 p2 p3)), .val (.int (m0_2 p0 p1 p2 p3)), .val (.ref b2), .val (.long (m0_3 p0 p1 p2 p3)), .second, .val (.int (m0_4 p0 p1 p2 p3)), .val (.int (m0_5 p0 p1 p2 p3)), .val (.ref b18), .val (.int (f5 (((((((m0_1 p0 p1 p2 p3) - (p0 &&& (1 : Int32))).toInt64) * (8 : Int64)) - ((f4 ((((m0_2 p0 p1 p2 p3).toInt8.toInt32).toInt8.toInt32) &&& (255 : Int32))).toInt64)) + (24 : Int64)) - (1 : Int64)))), .val (.int (f5 ((((((((m0_1 p0 p1 p2 p3) - (p0 &&& (1 : Int32))).toInt64) * (8 : Int64)) - ((f4 ((((m0_2 p0 p1 p2 p3).toInt8.toInt32).toInt8.toInt32) &&& (255 : Int32))).toInt64)) + (24 : Int64)) - (1 : Int64)) - ((m0_4 p0 p1 p2 p3).toInt64)))), .unset] [])) _
    refine XS.aload X22.here hx rfl (hb hby at_178) rfl rfl ?_
    show Steps p.tables e below (T22.setTop (mkF m 180 #[.val (.int p0), .val (.int p1), .val (.int p2), .val (.int p3), .val (.int (p0 &&& (1 : Int32))), .val (.int (m0_0 p0 p1 p2 p3)), .val (.int (m0_1 p0 p1 p2 p3)), .val (.int (m0_2 p0 p1 p2 p3)), .val (.ref b2), .val (.long (m0_3 p0 p1 p2 p3)), .second, .val (.int (m0_4 p0 p1 p2 p3)), .val (.int (m0_5 p0 p1 p2 p3)), .val (.ref b18), .val (.int (f5 (((((((m0_1 p0 p1 p2 p3) - (p0 &&& (1 : Int32))).toInt64) * (8 : Int64)) - ((f4 ((((m0_2 p0 p1 p2 p3).toInt8.toInt32).toInt8.toInt32) &&& (255 : Int32))).toInt64)) + (24 : Int64)) - (1 : Int64)))), .val (.int (f5 ((((((((m0_1 p0 p1 p2 p3) - (p0 &&& (1 : Int32))).toInt64) * (8 : Int64)) - ((f4 ((((m0_2 p0 p1 p2 p3).toInt8.toInt32).toInt8.toInt32) &&& (255 : Int32))).toInt64)) + (24 : Int64)) - (1 : Int64)) - ((m0_4 p0 p1 p2 p3).toInt64)))), .unset] [(.ref b18)])) _
    refine XS.iload X22.here hx rfl (hb hby at_180) rfl ?_
    show Steps p.tables e below (T22.setTop (mkF m 182 #[.val (.int p0), .val (.int p1), .val (.int p2), .val (.int p3), .val (.int (p0 &&& (1 : Int32))), .val (.int (m0_0 p0 p1 p2 p3)), .val (.int (m0_1 p0 p1 p2 p3)), .val (.int (m0_2 p0 p1 p2 p3)), .val (.ref b2), .val (.long (m0_3 p0 p1 p2 p3)), .second, .val (.int (m0_4 p0 p1 p2 p3)), .val (.int (m0_5 p0 p1 p2 p3)), .val (.ref b18), .val (.int (f5 (((((((m0_1 p0 p1 p2 p3) - (p0 &&& (1 : Int32))).toInt64) * (8 : Int64)) - ((f4 ((((m0_2 p0 p1 p2 p3).toInt8.toInt32).toInt8.toInt32) &&& (255 : Int32))).toInt64)) + (24 : Int64)) - (1 : Int64)))), .val (.int (f5 ((((((((m0_1 p0 p1 p2 p3) - (p0 &&& (1 : Int32))).toInt64) * (8 : Int64)) - ((f4 ((((m0_2 p0 p1 p2 p3).toInt8.toInt32).toInt8.toInt32) &&& (255 : Int32))).toInt64)) + (24 : Int64)) - (1 : Int64)) - ((m0_4 p0 p1 p2 p3).toInt64)))), .unset] [(.int (m0_5 p0 p1 p2 p3)), (.ref b18)])) _
    refine st23.trans ?_
    show Steps p.tables e below (T23.setTop (mkF m 185 #[.val (.int p0), .val (.int p1), .val (.int p2), .val (.int p3), .val (.int (p0 &&& (1 : Int32))), .val (.int (m0_0 p0 p1 p2 p3)), .val (.int (m0_1 p0 p1 p2 p3)), .val (.int (m0_2 p0 p1 p2 p3)), .val (.ref b2), .val (.long (m0_3 p0 p1 p2 p3)), .second, .val (.int (m0_4 p0 p1 p2 p3)), .val (.int (m0_5 p0 p1 p2 p3)), .val (.ref b18), .val (.int (f5 (((((((m0_1 p0 p1 p2 p3) - (p0 &&& (1 : Int32))).toInt64) * (8 : Int64)) - ((f4 ((((m0_2 p0 p1 p2 p3).toInt8.toInt32).toInt8.toInt32) &&& (255 : Int32))).toInt64)) + (24 : Int64)) - (1 : Int64)))), .val (.int (f5 ((((((((m0_1 p0 p1 p2 p3) - (p0 &&& (1 : Int32))).toInt64) * (8 : Int64)) - ((f4 ((((m0_2 p0 p1 p2 p3).toInt8.toInt32).toInt8.toInt32) &&& (255 : Int32))).toInt64)) + (24 : Int64)) - (1 : Int64)) - ((m0_4 p0 p1 p2 p3).toInt64)))), .unset] [])) _
    refine XS.aload X23.here hx rfl (hb hby at_185) rfl rfl ?_
    show Steps p.tables e below (T23.setTop (mkF m 187 #[.val (.int p0), .val (.int p1), .val (.int p2), .val (.int p3), .val (.int (p0 &&& (1 : Int32))), .val (.int (m0_0 p0 p1 p2 p3)), .val (.int (m0_1 p0 p1 p2 p3)), .val (.int (m0_2 p0 p1 p2 p3)), .val (.ref b2), .val (.long (m0_3 p0 p1 p2 p3)), .second, .val (.int (m0_4 p0 p1 p2 p3)), .val (.int (m0_5 p0 p1 p2 p3)), .val (.ref b18), .val (.int (f5 (((((((m0_1 p0 p1 p2 p3) - (p0 &&& (1 : Int32))).toInt64) * (8 : Int64)) - ((f4 ((((m0_2 p0 p1 p2 p3).toInt8.toInt32).toInt8.toInt32) &&& (255 : Int32))).toInt64)) + (24 : Int64)) - (1 : Int64)))), .val (.int (f5 ((((((((m0_1 p0 p1 p2 p3) - (p0 &&& (1 : Int32))).toInt64) * (8 : Int64)) - ((f4 ((((m0_2 p0 p1 p2 p3).toInt8.toInt32).toInt8.toInt32) &&& (255 : Int32))).toInt64)) + (24 : Int64)) - (1 : Int64)) - ((m0_4 p0 p1 p2 p3).toInt64)))), .unset] [(.ref b18)])) _
    refine st24.trans ?_
    show Steps p.tables e below (T24.setTop (mkF m 190 #[.val (.int p0), .val (.int p1), .val (.int p2), .val (.int p3), .val (.int (p0 &&& (1 : Int32))), .val (.int (m0_0 p0 p1 p2 p3)), .val (.int (m0_1 p0 p1 p2 p3)), .val (.int (m0_2 p0 p1 p2 p3)), .val (.ref b2), .val (.long (m0_3 p0 p1 p2 p3)), .second, .val (.int (m0_4 p0 p1 p2 p3)), .val (.int (m0_5 p0 p1 p2 p3)), .val (.ref b18), .val (.int (f5 (((((((m0_1 p0 p1 p2 p3) - (p0 &&& (1 : Int32))).toInt64) * (8 : Int64)) - ((f4 ((((m0_2 p0 p1 p2 p3).toInt8.toInt32).toInt8.toInt32) &&& (255 : Int32))).toInt64)) + (24 : Int64)) - (1 : Int64)))), .val (.int (f5 ((((((((m0_1 p0 p1 p2 p3) - (p0 &&& (1 : Int32))).toInt64) * (8 : Int64)) - ((f4 ((((m0_2 p0 p1 p2 p3).toInt8.toInt32).toInt8.toInt32) &&& (255 : Int32))).toInt64)) + (24 : Int64)) - (1 : Int64)) - ((m0_4 p0 p1 p2 p3).toInt64)))), .unset] [(.int (f5 (((((((((m0_1 p0 p1 p2 p3) - (p0 &&& (1 : Int32))).toInt64) * (8 : Int64)) - ((f4 ((((m0_2 p0 p1 p2 p3).toInt8.toInt32).toInt8.toInt32) &&& (255 : Int32))).toInt64)) + (24 : Int64)) - (1 : Int64)) - ((m0_4 p0 p1 p2 p3).toInt64)) - ((m0_5 p0 p1 p2 p3).toInt64))))])) _
    refine XS.istore X24.here hx rfl (hb hby at_190) rfl (l' := #[.val (.int p0), .val (.int p1), .val (.int p2), .val (.int p3), .val (.int (p0 &&& (1 : Int32))), .val (.int (m0_0 p0 p1 p2 p3)), .val (.int (m0_1 p0 p1 p2 p3)), .val (.int (m0_2 p0 p1 p2 p3)), .val (.ref b2), .val (.long (m0_3 p0 p1 p2 p3)), .second, .val (.int (m0_4 p0 p1 p2 p3)), .val (.int (m0_5 p0 p1 p2 p3)), .val (.ref b18), .val (.int (f5 (((((((m0_1 p0 p1 p2 p3) - (p0 &&& (1 : Int32))).toInt64) * (8 : Int64)) - ((f4 ((((m0_2 p0 p1 p2 p3).toInt8.toInt32).toInt8.toInt32) &&& (255 : Int32))).toInt64)) + (24 : Int64)) - (1 : Int64)))), .val (.int (f5 ((((((((m0_1 p0 p1 p2 p3) - (p0 &&& (1 : Int32))).toInt64) * (8 : Int64)) - ((f4 ((((m0_2 p0 p1 p2 p3).toInt8.toInt32).toInt8.toInt32) &&& (255 : Int32))).toInt64)) + (24 : Int64)) - (1 : Int64)) - ((m0_4 p0 p1 p2 p3).toInt64)))), .val (.int (f5 (((((((((m0_1 p0 p1 p2 p3) - (p0 &&& (1 : Int32))).toInt64) * (8 : Int64)) - ((f4 ((((m0_2 p0 p1 p2 p3).toInt8.toInt32).toInt8.toInt32) &&& (255 : Int32))).toInt64)) + (24 : Int64)) - (1 : Int64)) - ((m0_4 p0 p1 p2 p3).toInt64)) - ((m0_5 p0 p1 p2 p3).toInt64))))]) rfl ?_
    show Steps p.tables e below (T24.setTop (mkF m 192 #[.val (.int p0), .val (.int p1), .val (.int p2), .val (.int p3), .val (.int (p0 &&& (1 : Int32))), .val (.int (m0_0 p0 p1 p2 p3)), .val (.int (m0_1 p0 p1 p2 p3)), .val (.int (m0_2 p0 p1 p2 p3)), .val (.ref b2), .val (.long (m0_3 p0 p1 p2 p3)), .second, .val (.int (m0_4 p0 p1 p2 p3)), .val (.int (m0_5 p0 p1 p2 p3)), .val (.ref b18), .val (.int (f5 (((((((m0_1 p0 p1 p2 p3) - (p0 &&& (1 : Int32))).toInt64) * (8 : Int64)) - ((f4 ((((m0_2 p0 p1 p2 p3).toInt8.toInt32).toInt8.toInt32) &&& (255 : Int32))).toInt64)) + (24 : Int64)) - (1 : Int64)))), .val (.int (f5 ((((((((m0_1 p0 p1 p2 p3) - (p0 &&& (1 : Int32))).toInt64) * (8 : Int64)) - ((f4 ((((m0_2 p0 p1 p2 p3).toInt8.toInt32).toInt8.toInt32) &&& (255 : Int32))).toInt64)) + (24 : Int64)) - (1 : Int64)) - ((m0_4 p0 p1 p2 p3).toInt64)))), .val (.int (f5 (((((((((m0_1 p0 p1 p2 p3) - (p0 &&& (1 : Int32))).toInt64) * (8 : Int64)) - ((f4 ((((m0_2 p0 p1 p2 p3).toInt8.toInt32).toInt8.toInt32) &&& (255 : Int32))).toInt64)) + (24 : Int64)) - (1 : Int64)) - ((m0_4 p0 p1 p2 p3).toInt64)) - ((m0_5 p0 p1 p2 p3).toInt64))))] [])) _
    refine XS.iload X24.here hx rfl (hb hby at_192) rfl ?_
    exact kt
  by_cases hc194_25 : (f5 (((((((m0_1 p0 p1 p2 p3) - (p0 &&& (1 : Int32))).toInt64) * (8 : Int64)) - ((f4 ((((m0_2 p0 p1 p2 p3).toInt8.toInt32).toInt8.toInt32) &&& (255 : Int32))).toInt64)) + (24 : Int64)) - (1 : Int64))) = (0 : Int32)
  · refine own_back (b := T24.setTop (mkF m 205 #[.val (.int p0), .val (.int p1), .val (.int p2), .val (.int p3), .val (.int (p0 &&& (1 : Int32))), .val (.int (m0_0 p0 p1 p2 p3)), .val (.int (m0_1 p0 p1 p2 p3)), .val (.int (m0_2 p0 p1 p2 p3)), .val (.ref b2), .val (.long (m0_3 p0 p1 p2 p3)), .second, .val (.int (m0_4 p0 p1 p2 p3)), .val (.int (m0_5 p0 p1 p2 p3)), .val (.ref b18), .val (.int (f5 (((((((m0_1 p0 p1 p2 p3) - (p0 &&& (1 : Int32))).toInt64) * (8 : Int64)) - ((f4 ((((m0_2 p0 p1 p2 p3).toInt8.toInt32).toInt8.toInt32) &&& (255 : Int32))).toInt64)) + (24 : Int64)) - (1 : Int64)))), .val (.int (f5 ((((((((m0_1 p0 p1 p2 p3) - (p0 &&& (1 : Int32))).toInt64) * (8 : Int64)) - ((f4 ((((m0_2 p0 p1 p2 p3).toInt8.toInt32).toInt8.toInt32) &&& (255 : Int32))).toInt64)) + (24 : Int64)) - (1 : Int64)) - ((m0_4 p0 p1 p2 p3).toInt64)))), .val (.int (f5 (((((((((m0_1 p0 p1 p2 p3) - (p0 &&& (1 : Int32))).toInt64) * (8 : Int64)) - ((f4 ((((m0_2 p0 p1 p2 p3).toInt8.toInt32).toInt8.toInt32) &&& (255 : Int32))).toInt64)) + (24 : Int64)) - (1 : Int64)) - ((m0_4 p0 p1 p2 p3).toInt64)) - ((m0_5 p0 p1 p2 p3).toInt64))))] [(.int (lcmpW ((m0_4 p0 p1 p2 p3).toInt64) (m0_3 p0 p1 p2 p3))), (.int (f5 ((((((((m0_1 p0 p1 p2 p3) - (p0 &&& (1 : Int32))).toInt64) * (8 : Int64)) - ((f4 ((((m0_2 p0 p1 p2 p3).toInt8.toInt32).toInt8.toInt32) &&& (255 : Int32))).toInt64)) + (24 : Int64)) - (1 : Int64)) - ((m0_4 p0 p1 p2 p3).toInt64))))])) (fun t kt => ?_) ?_
    · show Steps p.tables e below (T24.setTop (mkF m 194 #[.val (.int p0), .val (.int p1), .val (.int p2), .val (.int p3), .val (.int (p0 &&& (1 : Int32))), .val (.int (m0_0 p0 p1 p2 p3)), .val (.int (m0_1 p0 p1 p2 p3)), .val (.int (m0_2 p0 p1 p2 p3)), .val (.ref b2), .val (.long (m0_3 p0 p1 p2 p3)), .second, .val (.int (m0_4 p0 p1 p2 p3)), .val (.int (m0_5 p0 p1 p2 p3)), .val (.ref b18), .val (.int (f5 (((((((m0_1 p0 p1 p2 p3) - (p0 &&& (1 : Int32))).toInt64) * (8 : Int64)) - ((f4 ((((m0_2 p0 p1 p2 p3).toInt8.toInt32).toInt8.toInt32) &&& (255 : Int32))).toInt64)) + (24 : Int64)) - (1 : Int64)))), .val (.int (f5 ((((((((m0_1 p0 p1 p2 p3) - (p0 &&& (1 : Int32))).toInt64) * (8 : Int64)) - ((f4 ((((m0_2 p0 p1 p2 p3).toInt8.toInt32).toInt8.toInt32) &&& (255 : Int32))).toInt64)) + (24 : Int64)) - (1 : Int64)) - ((m0_4 p0 p1 p2 p3).toInt64)))), .val (.int (f5 (((((((((m0_1 p0 p1 p2 p3) - (p0 &&& (1 : Int32))).toInt64) * (8 : Int64)) - ((f4 ((((m0_2 p0 p1 p2 p3).toInt8.toInt32).toInt8.toInt32) &&& (255 : Int32))).toInt64)) + (24 : Int64)) - (1 : Int64)) - ((m0_4 p0 p1 p2 p3).toInt64)) - ((m0_5 p0 p1 p2 p3).toInt64))))] [(.int (f5 (((((((m0_1 p0 p1 p2 p3) - (p0 &&& (1 : Int32))).toInt64) * (8 : Int64)) - ((f4 ((((m0_2 p0 p1 p2 p3).toInt8.toInt32).toInt8.toInt32) &&& (255 : Int32))).toInt64)) + (24 : Int64)) - (1 : Int64))))])) _
      refine XS.ifNo X24.here hx rfl (hb hby at_194) rfl ((if0 _ _).trans (teq hc194_25).2) ?_
      show Steps p.tables e below (T24.setTop (mkF m 197 #[.val (.int p0), .val (.int p1), .val (.int p2), .val (.int p3), .val (.int (p0 &&& (1 : Int32))), .val (.int (m0_0 p0 p1 p2 p3)), .val (.int (m0_1 p0 p1 p2 p3)), .val (.int (m0_2 p0 p1 p2 p3)), .val (.ref b2), .val (.long (m0_3 p0 p1 p2 p3)), .second, .val (.int (m0_4 p0 p1 p2 p3)), .val (.int (m0_5 p0 p1 p2 p3)), .val (.ref b18), .val (.int (f5 (((((((m0_1 p0 p1 p2 p3) - (p0 &&& (1 : Int32))).toInt64) * (8 : Int64)) - ((f4 ((((m0_2 p0 p1 p2 p3).toInt8.toInt32).toInt8.toInt32) &&& (255 : Int32))).toInt64)) + (24 : Int64)) - (1 : Int64)))), .val (.int (f5 ((((((((m0_1 p0 p1 p2 p3) - (p0 &&& (1 : Int32))).toInt64) * (8 : Int64)) - ((f4 ((((m0_2 p0 p1 p2 p3).toInt8.toInt32).toInt8.toInt32) &&& (255 : Int32))).toInt64)) + (24 : Int64)) - (1 : Int64)) - ((m0_4 p0 p1 p2 p3).toInt64)))), .val (.int (f5 (((((((((m0_1 p0 p1 p2 p3) - (p0 &&& (1 : Int32))).toInt64) * (8 : Int64)) - ((f4 ((((m0_2 p0 p1 p2 p3).toInt8.toInt32).toInt8.toInt32) &&& (255 : Int32))).toInt64)) + (24 : Int64)) - (1 : Int64)) - ((m0_4 p0 p1 p2 p3).toInt64)) - ((m0_5 p0 p1 p2 p3).toInt64))))] [])) _
      refine XS.iload X24.here hx rfl (hb hby at_197) rfl ?_
      show Steps p.tables e below (T24.setTop (mkF m 199 #[.val (.int p0), .val (.int p1), .val (.int p2), .val (.int p3), .val (.int (p0 &&& (1 : Int32))), .val (.int (m0_0 p0 p1 p2 p3)), .val (.int (m0_1 p0 p1 p2 p3)), .val (.int (m0_2 p0 p1 p2 p3)), .val (.ref b2), .val (.long (m0_3 p0 p1 p2 p3)), .second, .val (.int (m0_4 p0 p1 p2 p3)), .val (.int (m0_5 p0 p1 p2 p3)), .val (.ref b18), .val (.int (f5 (((((((m0_1 p0 p1 p2 p3) - (p0 &&& (1 : Int32))).toInt64) * (8 : Int64)) - ((f4 ((((m0_2 p0 p1 p2 p3).toInt8.toInt32).toInt8.toInt32) &&& (255 : Int32))).toInt64)) + (24 : Int64)) - (1 : Int64)))), .val (.int (f5 ((((((((m0_1 p0 p1 p2 p3) - (p0 &&& (1 : Int32))).toInt64) * (8 : Int64)) - ((f4 ((((m0_2 p0 p1 p2 p3).toInt8.toInt32).toInt8.toInt32) &&& (255 : Int32))).toInt64)) + (24 : Int64)) - (1 : Int64)) - ((m0_4 p0 p1 p2 p3).toInt64)))), .val (.int (f5 (((((((((m0_1 p0 p1 p2 p3) - (p0 &&& (1 : Int32))).toInt64) * (8 : Int64)) - ((f4 ((((m0_2 p0 p1 p2 p3).toInt8.toInt32).toInt8.toInt32) &&& (255 : Int32))).toInt64)) + (24 : Int64)) - (1 : Int64)) - ((m0_4 p0 p1 p2 p3).toInt64)) - ((m0_5 p0 p1 p2 p3).toInt64))))] [(.int (f5 ((((((((m0_1 p0 p1 p2 p3) - (p0 &&& (1 : Int32))).toInt64) * (8 : Int64)) - ((f4 ((((m0_2 p0 p1 p2 p3).toInt8.toInt32).toInt8.toInt32) &&& (255 : Int32))).toInt64)) + (24 : Int64)) - (1 : Int64)) - ((m0_4 p0 p1 p2 p3).toInt64))))])) _
      refine XS.iload X24.here hx rfl (hb hby at_199) rfl ?_
      show Steps p.tables e below (T24.setTop (mkF m 201 #[.val (.int p0), .val (.int p1), .val (.int p2), .val (.int p3), .val (.int (p0 &&& (1 : Int32))), .val (.int (m0_0 p0 p1 p2 p3)), .val (.int (m0_1 p0 p1 p2 p3)), .val (.int (m0_2 p0 p1 p2 p3)), .val (.ref b2), .val (.long (m0_3 p0 p1 p2 p3)), .second, .val (.int (m0_4 p0 p1 p2 p3)), .val (.int (m0_5 p0 p1 p2 p3)), .val (.ref b18), .val (.int (f5 (((((((m0_1 p0 p1 p2 p3) - (p0 &&& (1 : Int32))).toInt64) * (8 : Int64)) - ((f4 ((((m0_2 p0 p1 p2 p3).toInt8.toInt32).toInt8.toInt32) &&& (255 : Int32))).toInt64)) + (24 : Int64)) - (1 : Int64)))), .val (.int (f5 ((((((((m0_1 p0 p1 p2 p3) - (p0 &&& (1 : Int32))).toInt64) * (8 : Int64)) - ((f4 ((((m0_2 p0 p1 p2 p3).toInt8.toInt32).toInt8.toInt32) &&& (255 : Int32))).toInt64)) + (24 : Int64)) - (1 : Int64)) - ((m0_4 p0 p1 p2 p3).toInt64)))), .val (.int (f5 (((((((((m0_1 p0 p1 p2 p3) - (p0 &&& (1 : Int32))).toInt64) * (8 : Int64)) - ((f4 ((((m0_2 p0 p1 p2 p3).toInt8.toInt32).toInt8.toInt32) &&& (255 : Int32))).toInt64)) + (24 : Int64)) - (1 : Int64)) - ((m0_4 p0 p1 p2 p3).toInt64)) - ((m0_5 p0 p1 p2 p3).toInt64))))] [(.int (m0_4 p0 p1 p2 p3)), (.int (f5 ((((((((m0_1 p0 p1 p2 p3) - (p0 &&& (1 : Int32))).toInt64) * (8 : Int64)) - ((f4 ((((m0_2 p0 p1 p2 p3).toInt8.toInt32).toInt8.toInt32) &&& (255 : Int32))).toInt64)) + (24 : Int64)) - (1 : Int64)) - ((m0_4 p0 p1 p2 p3).toInt64))))])) _
      refine XS.i2l X24.here hx rfl (hb hby at_201) rfl ?_
      show Steps p.tables e below (T24.setTop (mkF m 202 #[.val (.int p0), .val (.int p1), .val (.int p2), .val (.int p3), .val (.int (p0 &&& (1 : Int32))), .val (.int (m0_0 p0 p1 p2 p3)), .val (.int (m0_1 p0 p1 p2 p3)), .val (.int (m0_2 p0 p1 p2 p3)), .val (.ref b2), .val (.long (m0_3 p0 p1 p2 p3)), .second, .val (.int (m0_4 p0 p1 p2 p3)), .val (.int (m0_5 p0 p1 p2 p3)), .val (.ref b18), .val (.int (f5 (((((((m0_1 p0 p1 p2 p3) - (p0 &&& (1 : Int32))).toInt64) * (8 : Int64)) - ((f4 ((((m0_2 p0 p1 p2 p3).toInt8.toInt32).toInt8.toInt32) &&& (255 : Int32))).toInt64)) + (24 : Int64)) - (1 : Int64)))), .val (.int (f5 ((((((((m0_1 p0 p1 p2 p3) - (p0 &&& (1 : Int32))).toInt64) * (8 : Int64)) - ((f4 ((((m0_2 p0 p1 p2 p3).toInt8.toInt32).toInt8.toInt32) &&& (255 : Int32))).toInt64)) + (24 : Int64)) - (1 : Int64)) - ((m0_4 p0 p1 p2 p3).toInt64)))), .val (.int (f5 (((((((((m0_1 p0 p1 p2 p3) - (p0 &&& (1 : Int32))).toInt64) * (8 : Int64)) - ((f4 ((((m0_2 p0 p1 p2 p3).toInt8.toInt32).toInt8.toInt32) &&& (255 : Int32))).toInt64)) + (24 : Int64)) - (1 : Int64)) - ((m0_4 p0 p1 p2 p3).toInt64)) - ((m0_5 p0 p1 p2 p3).toInt64))))] [(.long ((m0_4 p0 p1 p2 p3).toInt64)), (.int (f5 ((((((((m0_1 p0 p1 p2 p3) - (p0 &&& (1 : Int32))).toInt64) * (8 : Int64)) - ((f4 ((((m0_2 p0 p1 p2 p3).toInt8.toInt32).toInt8.toInt32) &&& (255 : Int32))).toInt64)) + (24 : Int64)) - (1 : Int64)) - ((m0_4 p0 p1 p2 p3).toInt64))))])) _
      refine XS.lload X24.here hx rfl (hb hby at_202) rfl ?_
      show Steps p.tables e below (T24.setTop (mkF m 204 #[.val (.int p0), .val (.int p1), .val (.int p2), .val (.int p3), .val (.int (p0 &&& (1 : Int32))), .val (.int (m0_0 p0 p1 p2 p3)), .val (.int (m0_1 p0 p1 p2 p3)), .val (.int (m0_2 p0 p1 p2 p3)), .val (.ref b2), .val (.long (m0_3 p0 p1 p2 p3)), .second, .val (.int (m0_4 p0 p1 p2 p3)), .val (.int (m0_5 p0 p1 p2 p3)), .val (.ref b18), .val (.int (f5 (((((((m0_1 p0 p1 p2 p3) - (p0 &&& (1 : Int32))).toInt64) * (8 : Int64)) - ((f4 ((((m0_2 p0 p1 p2 p3).toInt8.toInt32).toInt8.toInt32) &&& (255 : Int32))).toInt64)) + (24 : Int64)) - (1 : Int64)))), .val (.int (f5 ((((((((m0_1 p0 p1 p2 p3) - (p0 &&& (1 : Int32))).toInt64) * (8 : Int64)) - ((f4 ((((m0_2 p0 p1 p2 p3).toInt8.toInt32).toInt8.toInt32) &&& (255 : Int32))).toInt64)) + (24 : Int64)) - (1 : Int64)) - ((m0_4 p0 p1 p2 p3).toInt64)))), .val (.int (f5 (((((((((m0_1 p0 p1 p2 p3) - (p0 &&& (1 : Int32))).toInt64) * (8 : Int64)) - ((f4 ((((m0_2 p0 p1 p2 p3).toInt8.toInt32).toInt8.toInt32) &&& (255 : Int32))).toInt64)) + (24 : Int64)) - (1 : Int64)) - ((m0_4 p0 p1 p2 p3).toInt64)) - ((m0_5 p0 p1 p2 p3).toInt64))))] [(.long (m0_3 p0 p1 p2 p3)), (.long ((m0_4 p0 p1 p2 p3).toInt64)), (.int (f5 ((((((((m0_1 p0 p1 p2 p3) - (p0 &&& (1 : Int32))).toInt64) * (8 : Int64)) - ((f4 ((((m0_2 p0 p1 p2 p3).toInt8.toInt32).toInt8.toInt32) &&& (255 : Int32))).toInt64)) + (24 : Int64)) - (1 : Int64)) - ((m0_4 p0 p1 p2 p3).toInt64))))])) _
      refine XS.lcmp X24.here hx rfl (hb hby at_204) rfl ?_
      exact kt
    refine own_back (b := T24.setTop (mkF m 213 #[.val (.int p0), .val (.int p1), .val (.int p2), .val (.int p3), .val (.int (p0 &&& (1 : Int32))), .val (.int (m0_0 p0 p1 p2 p3)), .val (.int (m0_1 p0 p1 p2 p3)), .val (.int (m0_2 p0 p1 p2 p3)), .val (.ref b2), .val (.long (m0_3 p0 p1 p2 p3)), .second, .val (.int (m0_4 p0 p1 p2 p3)), .val (.int (m0_5 p0 p1 p2 p3)), .val (.ref b18), .val (.int (f5 (((((((m0_1 p0 p1 p2 p3) - (p0 &&& (1 : Int32))).toInt64) * (8 : Int64)) - ((f4 ((((m0_2 p0 p1 p2 p3).toInt8.toInt32).toInt8.toInt32) &&& (255 : Int32))).toInt64)) + (24 : Int64)) - (1 : Int64)))), .val (.int (f5 ((((((((m0_1 p0 p1 p2 p3) - (p0 &&& (1 : Int32))).toInt64) * (8 : Int64)) - ((f4 ((((m0_2 p0 p1 p2 p3).toInt8.toInt32).toInt8.toInt32) &&& (255 : Int32))).toInt64)) + (24 : Int64)) - (1 : Int64)) - ((m0_4 p0 p1 p2 p3).toInt64)))), .val (.int (f5 (((((((((m0_1 p0 p1 p2 p3) - (p0 &&& (1 : Int32))).toInt64) * (8 : Int64)) - ((f4 ((((m0_2 p0 p1 p2 p3).toInt8.toInt32).toInt8.toInt32) &&& (255 : Int32))).toInt64)) + (24 : Int64)) - (1 : Int64)) - ((m0_4 p0 p1 p2 p3).toInt64)) - ((m0_5 p0 p1 p2 p3).toInt64))))] [(.int (m0_6 p0 p1 p2 p3)), (.int (f5 ((((((((m0_1 p0 p1 p2 p3) - (p0 &&& (1 : Int32))).toInt64) * (8 : Int64)) - ((f4 ((((m0_2 p0 p1 p2 p3).toInt8.toInt32).toInt8.toInt32) &&& (255 : Int32))).toInt64)) + (24 : Int64)) - (1 : Int64)) - ((m0_4 p0 p1 p2 p3).toInt64))))])) (fun t kt => ?_) ?_
    · by_cases hm205_26 : (m0_3 p0 p1 p2 p3) < ((m0_4 p0 p1 p2 p3).toInt64)
      · rw [show (m0_6 p0 p1 p2 p3) = (1 : Int32) from by unfold m0_6; rw [if_pos hm205_26]] at kt
        show Steps p.tables e below (T24.setTop (mkF m 205 #[.val (.int p0), .val (.int p1), .val (.int p2), .val (.int p3), .val (.int (p0 &&& (1 : Int32))), .val (.int (m0_0 p0 p1 p2 p3)), .val (.int (m0_1 p0 p1 p2 p3)), .val (.int (m0_2 p0 p1 p2 p3)), .val (.ref b2), .val (.long (m0_3 p0 p1 p2 p3)), .second, .val (.int (m0_4 p0 p1 p2 p3)), .val (.int (m0_5 p0 p1 p2 p3)), .val (.ref b18), .val (.int (f5 (((((((m0_1 p0 p1 p2 p3) - (p0 &&& (1 : Int32))).toInt64) * (8 : Int64)) - ((f4 ((((m0_2 p0 p1 p2 p3).toInt8.toInt32).toInt8.toInt32) &&& (255 : Int32))).toInt64)) + (24 : Int64)) - (1 : Int64)))), .val (.int (f5 ((((((((m0_1 p0 p1 p2 p3) - (p0 &&& (1 : Int32))).toInt64) * (8 : Int64)) - ((f4 ((((m0_2 p0 p1 p2 p3).toInt8.toInt32).toInt8.toInt32) &&& (255 : Int32))).toInt64)) + (24 : Int64)) - (1 : Int64)) - ((m0_4 p0 p1 p2 p3).toInt64)))), .val (.int (f5 (((((((((m0_1 p0 p1 p2 p3) - (p0 &&& (1 : Int32))).toInt64) * (8 : Int64)) - ((f4 ((((m0_2 p0 p1 p2 p3).toInt8.toInt32).toInt8.toInt32) &&& (255 : Int32))).toInt64)) + (24 : Int64)) - (1 : Int64)) - ((m0_4 p0 p1 p2 p3).toInt64)) - ((m0_5 p0 p1 p2 p3).toInt64))))] [(.int (lcmpW ((m0_4 p0 p1 p2 p3).toInt64) (m0_3 p0 p1 p2 p3))), (.int (f5 ((((((((m0_1 p0 p1 p2 p3) - (p0 &&& (1 : Int32))).toInt64) * (8 : Int64)) - ((f4 ((((m0_2 p0 p1 p2 p3).toInt8.toInt32).toInt8.toInt32) &&& (255 : Int32))).toInt64)) + (24 : Int64)) - (1 : Int64)) - ((m0_4 p0 p1 p2 p3).toInt64))))])) _
        refine XS.ifNo X24.here hx rfl (hb hby at_205) rfl ((if0 _ _).trans (tlt ((lw_gt _ _).mpr hm205_26)).2.2.2) ?_
        show Steps p.tables e below (T24.setTop (mkF m 208 #[.val (.int p0), .val (.int p1), .val (.int p2), .val (.int p3), .val (.int (p0 &&& (1 : Int32))), .val (.int (m0_0 p0 p1 p2 p3)), .val (.int (m0_1 p0 p1 p2 p3)), .val (.int (m0_2 p0 p1 p2 p3)), .val (.ref b2), .val (.long (m0_3 p0 p1 p2 p3)), .second, .val (.int (m0_4 p0 p1 p2 p3)), .val (.int (m0_5 p0 p1 p2 p3)), .val (.ref b18), .val (.int (f5 (((((((m0_1 p0 p1 p2 p3) - (p0 &&& (1 : Int32))).toInt64) * (8 : Int64)) - ((f4 ((((m0_2 p0 p1 p2 p3).toInt8.toInt32).toInt8.toInt32) &&& (255 : Int32))).toInt64)) + (24 : Int64)) - (1 : Int64)))), .val (.int (f5 ((((((((m0_1 p0 p1 p2 p3) - (p0 &&& (1 : Int32))).toInt64) * (8 : Int64)) - ((f4 ((((m0_2 p0 p1 p2 p3).toInt8.toInt32).toInt8.toInt32) &&& (255 : Int32))).toInt64)) + (24 : Int64)) - (1 : Int64)) - ((m0_4 p0 p1 p2 p3).toInt64)))), .val (.int (f5 (((((((((m0_1 p0 p1 p2 p3) - (p0 &&& (1 : Int32))).toInt64) * (8 : Int64)) - ((f4 ((((m0_2 p0 p1 p2 p3).toInt8.toInt32).toInt8.toInt32) &&& (255 : Int32))).toInt64)) + (24 : Int64)) - (1 : Int64)) - ((m0_4 p0 p1 p2 p3).toInt64)) - ((m0_5 p0 p1 p2 p3).toInt64))))] [(.int (f5 ((((((((m0_1 p0 p1 p2 p3) - (p0 &&& (1 : Int32))).toInt64) * (8 : Int64)) - ((f4 ((((m0_2 p0 p1 p2 p3).toInt8.toInt32).toInt8.toInt32) &&& (255 : Int32))).toInt64)) + (24 : Int64)) - (1 : Int64)) - ((m0_4 p0 p1 p2 p3).toInt64))))])) _
        refine XS.iconst X24.here hx rfl (hb hby at_208) ?_
        show Steps p.tables e below (T24.setTop (mkF m 209 #[.val (.int p0), .val (.int p1), .val (.int p2), .val (.int p3), .val (.int (p0 &&& (1 : Int32))), .val (.int (m0_0 p0 p1 p2 p3)), .val (.int (m0_1 p0 p1 p2 p3)), .val (.int (m0_2 p0 p1 p2 p3)), .val (.ref b2), .val (.long (m0_3 p0 p1 p2 p3)), .second, .val (.int (m0_4 p0 p1 p2 p3)), .val (.int (m0_5 p0 p1 p2 p3)), .val (.ref b18), .val (.int (f5 (((((((m0_1 p0 p1 p2 p3) - (p0 &&& (1 : Int32))).toInt64) * (8 : Int64)) - ((f4 ((((m0_2 p0 p1 p2 p3).toInt8.toInt32).toInt8.toInt32) &&& (255 : Int32))).toInt64)) + (24 : Int64)) - (1 : Int64)))), .val (.int (f5 ((((((((m0_1 p0 p1 p2 p3) - (p0 &&& (1 : Int32))).toInt64) * (8 : Int64)) - ((f4 ((((m0_2 p0 p1 p2 p3).toInt8.toInt32).toInt8.toInt32) &&& (255 : Int32))).toInt64)) + (24 : Int64)) - (1 : Int64)) - ((m0_4 p0 p1 p2 p3).toInt64)))), .val (.int (f5 (((((((((m0_1 p0 p1 p2 p3) - (p0 &&& (1 : Int32))).toInt64) * (8 : Int64)) - ((f4 ((((m0_2 p0 p1 p2 p3).toInt8.toInt32).toInt8.toInt32) &&& (255 : Int32))).toInt64)) + (24 : Int64)) - (1 : Int64)) - ((m0_4 p0 p1 p2 p3).toInt64)) - ((m0_5 p0 p1 p2 p3).toInt64))))] [(.int (1 : Int32)), (.int (f5 ((((((((m0_1 p0 p1 p2 p3) - (p0 &&& (1 : Int32))).toInt64) * (8 : Int64)) - ((f4 ((((m0_2 p0 p1 p2 p3).toInt8.toInt32).toInt8.toInt32) &&& (255 : Int32))).toInt64)) + (24 : Int64)) - (1 : Int64)) - ((m0_4 p0 p1 p2 p3).toInt64))))])) _
        refine XS.goto X24.here hx rfl (pc0 := 209) (pc' := 213) rfl (hb hby at_209) (by decide) (by decide) ?_
        exact kt
      · rw [show (m0_6 p0 p1 p2 p3) = (0 : Int32) from by unfold m0_6; rw [if_neg hm205_26]] at kt
        show Steps p.tables e below (T24.setTop (mkF m 205 #[.val (.int p0), .val (.int p1), .val (.int p2), .val (.int p3), .val (.int (p0 &&& (1 : Int32))), .val (.int (m0_0 p0 p1 p2 p3)), .val (.int (m0_1 p0 p1 p2 p3)), .val (.int (m0_2 p0 p1 p2 p3)), .val (.ref b2), .val (.long (m0_3 p0 p1 p2 p3)), .second, .val (.int (m0_4 p0 p1 p2 p3)), .val (.int (m0_5 p0 p1 p2 p3)), .val (.ref b18), .val (.int (f5 (((((((m0_1 p0 p1 p2 p3) - (p0 &&& (1 : Int32))).toInt64) * (8 : Int64)) - ((f4 ((((m0_2 p0 p1 p2 p3).toInt8.toInt32).toInt8.toInt32) &&& (255 : Int32))).toInt64)) + (24 : Int64)) - (1 : Int64)))), .val (.int (f5 ((((((((m0_1 p0 p1 p2 p3) - (p0 &&& (1 : Int32))).toInt64) * (8 : Int64)) - ((f4 ((((m0_2 p0 p1 p2 p3).toInt8.toInt32).toInt8.toInt32) &&& (255 : Int32))).toInt64)) + (24 : Int64)) - (1 : Int64)) - ((m0_4 p0 p1 p2 p3).toInt64)))), .val (.int (f5 (((((((((m0_1 p0 p1 p2 p3) - (p0 &&& (1 : Int32))).toInt64) * (8 : Int64)) - ((f4 ((((m0_2 p0 p1 p2 p3).toInt8.toInt32).toInt8.toInt32) &&& (255 : Int32))).toInt64)) + (24 : Int64)) - (1 : Int64)) - ((m0_4 p0 p1 p2 p3).toInt64)) - ((m0_5 p0 p1 p2 p3).toInt64))))] [(.int (lcmpW ((m0_4 p0 p1 p2 p3).toInt64) (m0_3 p0 p1 p2 p3))), (.int (f5 ((((((((m0_1 p0 p1 p2 p3) - (p0 &&& (1 : Int32))).toInt64) * (8 : Int64)) - ((f4 ((((m0_2 p0 p1 p2 p3).toInt8.toInt32).toInt8.toInt32) &&& (255 : Int32))).toInt64)) + (24 : Int64)) - (1 : Int64)) - ((m0_4 p0 p1 p2 p3).toInt64))))])) _
        refine XS.ifYes X24.here hx rfl (pc0 := 205) (pc' := 212) rfl (hb hby at_205) rfl ((if0 _ _).trans (flt (fun q => hm205_26 ((lw_gt _ _).mp q))).2.2.2) (by decide) (by decide) ?_
        show Steps p.tables e below (T24.setTop (mkF m 212 #[.val (.int p0), .val (.int p1), .val (.int p2), .val (.int p3), .val (.int (p0 &&& (1 : Int32))), .val (.int (m0_0 p0 p1 p2 p3)), .val (.int (m0_1 p0 p1 p2 p3)), .val (.int (m0_2 p0 p1 p2 p3)), .val (.ref b2), .val (.long (m0_3 p0 p1 p2 p3)), .second, .val (.int (m0_4 p0 p1 p2 p3)), .val (.int (m0_5 p0 p1 p2 p3)), .val (.ref b18), .val (.int (f5 (((((((m0_1 p0 p1 p2 p3) - (p0 &&& (1 : Int32))).toInt64) * (8 : Int64)) - ((f4 ((((m0_2 p0 p1 p2 p3).toInt8.toInt32).toInt8.toInt32) &&& (255 : Int32))).toInt64)) + (24 : Int64)) - (1 : Int64)))), .val (.int (f5 ((((((((m0_1 p0 p1 p2 p3) - (p0 &&& (1 : Int32))).toInt64) * (8 : Int64)) - ((f4 ((((m0_2 p0 p1 p2 p3).toInt8.toInt32).toInt8.toInt32) &&& (255 : Int32))).toInt64)) + (24 : Int64)) - (1 : Int64)) - ((m0_4 p0 p1 p2 p3).toInt64)))), .val (.int (f5 (((((((((m0_1 p0 p1 p2 p3) - (p0 &&& (1 : Int32))).toInt64) * (8 : Int64)) - ((f4 ((((m0_2 p0 p1 p2 p3).toInt8.toInt32).toInt8.toInt32) &&& (255 : Int32))).toInt64)) + (24 : Int64)) - (1 : Int64)) - ((m0_4 p0 p1 p2 p3).toInt64)) - ((m0_5 p0 p1 p2 p3).toInt64))))] [(.int (f5 ((((((((m0_1 p0 p1 p2 p3) - (p0 &&& (1 : Int32))).toInt64) * (8 : Int64)) - ((f4 ((((m0_2 p0 p1 p2 p3).toInt8.toInt32).toInt8.toInt32) &&& (255 : Int32))).toInt64)) + (24 : Int64)) - (1 : Int64)) - ((m0_4 p0 p1 p2 p3).toInt64))))])) _
        refine XS.iconst X24.here hx rfl (hb hby at_212) ?_
        exact kt
    by_cases hc213_27 : (f5 ((((((((m0_1 p0 p1 p2 p3) - (p0 &&& (1 : Int32))).toInt64) * (8 : Int64)) - ((f4 ((((m0_2 p0 p1 p2 p3).toInt8.toInt32).toInt8.toInt32) &&& (255 : Int32))).toInt64)) + (24 : Int64)) - (1 : Int64)) - ((m0_4 p0 p1 p2 p3).toInt64))) = (m0_6 p0 p1 p2 p3)
    · refine own_back (b := T24.setTop (mkF m 228 #[.val (.int p0), .val (.int p1), .val (.int p2), .val (.int p3), .val (.int (p0 &&& (1 : Int32))), .val (.int (m0_0 p0 p1 p2 p3)), .val (.int (m0_1 p0 p1 p2 p3)), .val (.int (m0_2 p0 p1 p2 p3)), .val (.ref b2), .val (.long (m0_3 p0 p1 p2 p3)), .second, .val (.int (m0_4 p0 p1 p2 p3)), .val (.int (m0_5 p0 p1 p2 p3)), .val (.ref b18), .val (.int (f5 (((((((m0_1 p0 p1 p2 p3) - (p0 &&& (1 : Int32))).toInt64) * (8 : Int64)) - ((f4 ((((m0_2 p0 p1 p2 p3).toInt8.toInt32).toInt8.toInt32) &&& (255 : Int32))).toInt64)) + (24 : Int64)) - (1 : Int64)))), .val (.int (f5 ((((((((m0_1 p0 p1 p2 p3) - (p0 &&& (1 : Int32))).toInt64) * (8 : Int64)) - ((f4 ((((m0_2 p0 p1 p2 p3).toInt8.toInt32).toInt8.toInt32) &&& (255 : Int32))).toInt64)) + (24 : Int64)) - (1 : Int64)) - ((m0_4 p0 p1 p2 p3).toInt64)))), .val (.int (f5 (((((((((m0_1 p0 p1 p2 p3) - (p0 &&& (1 : Int32))).toInt64) * (8 : Int64)) - ((f4 ((((m0_2 p0 p1 p2 p3).toInt8.toInt32).toInt8.toInt32) &&& (255 : Int32))).toInt64)) + (24 : Int64)) - (1 : Int64)) - ((m0_4 p0 p1 p2 p3).toInt64)) - ((m0_5 p0 p1 p2 p3).toInt64))))] [(.int (lcmpW (((m0_4 p0 p1 p2 p3).toInt64) + ((m0_5 p0 p1 p2 p3).toInt64)) (m0_3 p0 p1 p2 p3))), (.int (f5 (((((((((m0_1 p0 p1 p2 p3) - (p0 &&& (1 : Int32))).toInt64) * (8 : Int64)) - ((f4 ((((m0_2 p0 p1 p2 p3).toInt8.toInt32).toInt8.toInt32) &&& (255 : Int32))).toInt64)) + (24 : Int64)) - (1 : Int64)) - ((m0_4 p0 p1 p2 p3).toInt64)) - ((m0_5 p0 p1 p2 p3).toInt64))))])) (fun t kt => ?_) ?_
      · show Steps p.tables e below (T24.setTop (mkF m 213 #[.val (.int p0), .val (.int p1), .val (.int p2), .val (.int p3), .val (.int (p0 &&& (1 : Int32))), .val (.int (m0_0 p0 p1 p2 p3)), .val (.int (m0_1 p0 p1 p2 p3)), .val (.int (m0_2 p0 p1 p2 p3)), .val (.ref b2), .val (.long (m0_3 p0 p1 p2 p3)), .second, .val (.int (m0_4 p0 p1 p2 p3)), .val (.int (m0_5 p0 p1 p2 p3)), .val (.ref b18), .val (.int (f5 (((((((m0_1 p0 p1 p2 p3) - (p0 &&& (1 : Int32))).toInt64) * (8 : Int64)) - ((f4 ((((m0_2 p0 p1 p2 p3).toInt8.toInt32).toInt8.toInt32) &&& (255 : Int32))).toInt64)) + (24 : Int64)) - (1 : Int64)))), .val (.int (f5 ((((((((m0_1 p0 p1 p2 p3) - (p0 &&& (1 : Int32))).toInt64) * (8 : Int64)) - ((f4 ((((m0_2 p0 p1 p2 p3).toInt8.toInt32).toInt8.toInt32) &&& (255 : Int32))).toInt64)) + (24 : Int64)) - (1 : Int64)) - ((m0_4 p0 p1 p2 p3).toInt64)))), .val (.int (f5 (((((((((m0_1 p0 p1 p2 p3) - (p0 &&& (1 : Int32))).toInt64) * (8 : Int64)) - ((f4 ((((m0_2 p0 p1 p2 p3).toInt8.toInt32).toInt8.toInt32) &&& (255 : Int32))).toInt64)) + (24 : Int64)) - (1 : Int64)) - ((m0_4 p0 p1 p2 p3).toInt64)) - ((m0_5 p0 p1 p2 p3).toInt64))))] [(.int (m0_6 p0 p1 p2 p3)), (.int (f5 ((((((((m0_1 p0 p1 p2 p3) - (p0 &&& (1 : Int32))).toInt64) * (8 : Int64)) - ((f4 ((((m0_2 p0 p1 p2 p3).toInt8.toInt32).toInt8.toInt32) &&& (255 : Int32))).toInt64)) + (24 : Int64)) - (1 : Int64)) - ((m0_4 p0 p1 p2 p3).toInt64))))])) _
        refine XS.icmpNo X24.here hx rfl (hb hby at_213) rfl (teq hc213_27).2 ?_
        show Steps p.tables e below (T24.setTop (mkF m 216 #[.val (.int p0), .val (.int p1), .val (.int p2), .val (.int p3), .val (.int (p0 &&& (1 : Int32))), .val (.int (m0_0 p0 p1 p2 p3)), .val (.int (m0_1 p0 p1 p2 p3)), .val (.int (m0_2 p0 p1 p2 p3)), .val (.ref b2), .val (.long (m0_3 p0 p1 p2 p3)), .second, .val (.int (m0_4 p0 p1 p2 p3)), .val (.int (m0_5 p0 p1 p2 p3)), .val (.ref b18), .val (.int (f5 (((((((m0_1 p0 p1 p2 p3) - (p0 &&& (1 : Int32))).toInt64) * (8 : Int64)) - ((f4 ((((m0_2 p0 p1 p2 p3).toInt8.toInt32).toInt8.toInt32) &&& (255 : Int32))).toInt64)) + (24 : Int64)) - (1 : Int64)))), .val (.int (f5 ((((((((m0_1 p0 p1 p2 p3) - (p0 &&& (1 : Int32))).toInt64) * (8 : Int64)) - ((f4 ((((m0_2 p0 p1 p2 p3).toInt8.toInt32).toInt8.toInt32) &&& (255 : Int32))).toInt64)) + (24 : Int64)) - (1 : Int64)) - ((m0_4 p0 p1 p2 p3).toInt64)))), .val (.int (f5 (((((((((m0_1 p0 p1 p2 p3) - (p0 &&& (1 : Int32))).toInt64) * (8 : Int64)) - ((f4 ((((m0_2 p0 p1 p2 p3).toInt8.toInt32).toInt8.toInt32) &&& (255 : Int32))).toInt64)) + (24 : Int64)) - (1 : Int64)) - ((m0_4 p0 p1 p2 p3).toInt64)) - ((m0_5 p0 p1 p2 p3).toInt64))))] [])) _
        refine XS.iload X24.here hx rfl (hb hby at_216) rfl ?_
        show Steps p.tables e below (T24.setTop (mkF m 218 #[.val (.int p0), .val (.int p1), .val (.int p2), .val (.int p3), .val (.int (p0 &&& (1 : Int32))), .val (.int (m0_0 p0 p1 p2 p3)), .val (.int (m0_1 p0 p1 p2 p3)), .val (.int (m0_2 p0 p1 p2 p3)), .val (.ref b2), .val (.long (m0_3 p0 p1 p2 p3)), .second, .val (.int (m0_4 p0 p1 p2 p3)), .val (.int (m0_5 p0 p1 p2 p3)), .val (.ref b18), .val (.int (f5 (((((((m0_1 p0 p1 p2 p3) - (p0 &&& (1 : Int32))).toInt64) * (8 : Int64)) - ((f4 ((((m0_2 p0 p1 p2 p3).toInt8.toInt32).toInt8.toInt32) &&& (255 : Int32))).toInt64)) + (24 : Int64)) - (1 : Int64)))), .val (.int (f5 ((((((((m0_1 p0 p1 p2 p3) - (p0 &&& (1 : Int32))).toInt64) * (8 : Int64)) - ((f4 ((((m0_2 p0 p1 p2 p3).toInt8.toInt32).toInt8.toInt32) &&& (255 : Int32))).toInt64)) + (24 : Int64)) - (1 : Int64)) - ((m0_4 p0 p1 p2 p3).toInt64)))), .val (.int (f5 (((((((((m0_1 p0 p1 p2 p3) - (p0 &&& (1 : Int32))).toInt64) * (8 : Int64)) - ((f4 ((((m0_2 p0 p1 p2 p3).toInt8.toInt32).toInt8.toInt32) &&& (255 : Int32))).toInt64)) + (24 : Int64)) - (1 : Int64)) - ((m0_4 p0 p1 p2 p3).toInt64)) - ((m0_5 p0 p1 p2 p3).toInt64))))] [(.int (f5 (((((((((m0_1 p0 p1 p2 p3) - (p0 &&& (1 : Int32))).toInt64) * (8 : Int64)) - ((f4 ((((m0_2 p0 p1 p2 p3).toInt8.toInt32).toInt8.toInt32) &&& (255 : Int32))).toInt64)) + (24 : Int64)) - (1 : Int64)) - ((m0_4 p0 p1 p2 p3).toInt64)) - ((m0_5 p0 p1 p2 p3).toInt64))))])) _
        refine XS.iload X24.here hx rfl (hb hby at_218) rfl ?_
        show Steps p.tables e below (T24.setTop (mkF m 220 #[.val (.int p0), .val (.int p1), .val (.int p2), .val (.int p3), .val (.int (p0 &&& (1 : Int32))), .val (.int (m0_0 p0 p1 p2 p3)), .val (.int (m0_1 p0 p1 p2 p3)), .val (.int (m0_2 p0 p1 p2 p3)), .val (.ref b2), .val (.long (m0_3 p0 p1 p2 p3)), .second, .val (.int (m0_4 p0 p1 p2 p3)), .val (.int (m0_5 p0 p1 p2 p3)), .val (.ref b18), .val (.int (f5 (((((((m0_1 p0 p1 p2 p3) - (p0 &&& (1 : Int32))).toInt64) * (8 : Int64)) - ((f4 ((((m0_2 p0 p1 p2 p3).toInt8.toInt32).toInt8.toInt32) &&& (255 : Int32))).toInt64)) + (24 : Int64)) - (1 : Int64)))), .val (.int (f5 ((((((((m0_1 p0 p1 p2 p3) - (p0 &&& (1 : Int32))).toInt64) * (8 : Int64)) - ((f4 ((((m0_2 p0 p1 p2 p3).toInt8.toInt32).toInt8.toInt32) &&& (255 : Int32))).toInt64)) + (24 : Int64)) - (1 : Int64)) - ((m0_4 p0 p1 p2 p3).toInt64)))), .val (.int (f5 (((((((((m0_1 p0 p1 p2 p3) - (p0 &&& (1 : Int32))).toInt64) * (8 : Int64)) - ((f4 ((((m0_2 p0 p1 p2 p3).toInt8.toInt32).toInt8.toInt32) &&& (255 : Int32))).toInt64)) + (24 : Int64)) - (1 : Int64)) - ((m0_4 p0 p1 p2 p3).toInt64)) - ((m0_5 p0 p1 p2 p3).toInt64))))] [(.int (m0_4 p0 p1 p2 p3)), (.int (f5 (((((((((m0_1 p0 p1 p2 p3) - (p0 &&& (1 : Int32))).toInt64) * (8 : Int64)) - ((f4 ((((m0_2 p0 p1 p2 p3).toInt8.toInt32).toInt8.toInt32) &&& (255 : Int32))).toInt64)) + (24 : Int64)) - (1 : Int64)) - ((m0_4 p0 p1 p2 p3).toInt64)) - ((m0_5 p0 p1 p2 p3).toInt64))))])) _
        refine XS.i2l X24.here hx rfl (hb hby at_220) rfl ?_
        show Steps p.tables e below (T24.setTop (mkF m 221 #[.val (.int p0), .val (.int p1), .val (.int p2), .val (.int p3), .val (.int (p0 &&& (1 : Int32))), .val (.int (m0_0 p0 p1 p2 p3)), .val (.int (m0_1 p0 p1 p2 p3)), .val (.int (m0_2 p0 p1 p2 p3)), .val (.ref b2), .val (.long (m0_3 p0 p1 p2 p3)), .second, .val (.int (m0_4 p0 p1 p2 p3)), .val (.int (m0_5 p0 p1 p2 p3)), .val (.ref b18), .val (.int (f5 (((((((m0_1 p0 p1 p2 p3) - (p0 &&& (1 : Int32))).toInt64) * (8 : Int64)) - ((f4 ((((m0_2 p0 p1 p2 p3).toInt8.toInt32).toInt8.toInt32) &&& (255 : Int32))).toInt64)) + (24 : Int64)) - (1 : Int64)))), .val (.int (f5 ((((((((m0_1 p0 p1 p2 p3) - (p0 &&& (1 : Int32))).toInt64) * (8 : Int64)) - ((f4 ((((m0_2 p0 p1 p2 p3).toInt8.toInt32).toInt8.toInt32) &&& (255 : Int32))).toInt64)) + (24 : Int64)) - (1 : Int64)) - ((m0_4 p0 p1 p2 p3).toInt64)))), .val (.int (f5 (((((((((m0_1 p0 p1 p2 p3) - (p0 &&& (1 : Int32))).toInt64) * (8 : Int64)) - ((f4 ((((m0_2 p0 p1 p2 p3).toInt8.toInt32).toInt8.toInt32) &&& (255 : Int32))).toInt64)) + (24 : Int64)) - (1 : Int64)) - ((m0_4 p0 p1 p2 p3).toInt64)) - ((m0_5 p0 p1 p2 p3).toInt64))))] [(.long ((m0_4 p0 p1 p2 p3).toInt64)), (.int (f5 (((((((((m0_1 p0 p1 p2 p3) - (p0 &&& (1 : Int32))).toInt64) * (8 : Int64)) - ((f4 ((((m0_2 p0 p1 p2 p3).toInt8.toInt32).toInt8.toInt32) &&& (255 : Int32))).toInt64)) + (24 : Int64)) - (1 : Int64)) - ((m0_4 p0 p1 p2 p3).toInt64)) - ((m0_5 p0 p1 p2 p3).toInt64))))])) _
        refine XS.iload X24.here hx rfl (hb hby at_221) rfl ?_
        show Steps p.tables e below (T24.setTop (mkF m 223 #[.val (.int p0), .val (.int p1), .val (.int p2), .val (.int p3), .val (.int (p0 &&& (1 : Int32))), .val (.int (m0_0 p0 p1 p2 p3)), .val (.int (m0_1 p0 p1 p2 p3)), .val (.int (m0_2 p0 p1 p2 p3)), .val (.ref b2), .val (.long (m0_3 p0 p1 p2 p3)), .second, .val (.int (m0_4 p0 p1 p2 p3)), .val (.int (m0_5 p0 p1 p2 p3)), .val (.ref b18), .val (.int (f5 (((((((m0_1 p0 p1 p2 p3) - (p0 &&& (1 : Int32))).toInt64) * (8 : Int64)) - ((f4 ((((m0_2 p0 p1 p2 p3).toInt8.toInt32).toInt8.toInt32) &&& (255 : Int32))).toInt64)) + (24 : Int64)) - (1 : Int64)))), .val (.int (f5 ((((((((m0_1 p0 p1 p2 p3) - (p0 &&& (1 : Int32))).toInt64) * (8 : Int64)) - ((f4 ((((m0_2 p0 p1 p2 p3).toInt8.toInt32).toInt8.toInt32) &&& (255 : Int32))).toInt64)) + (24 : Int64)) - (1 : Int64)) - ((m0_4 p0 p1 p2 p3).toInt64)))), .val (.int (f5 (((((((((m0_1 p0 p1 p2 p3) - (p0 &&& (1 : Int32))).toInt64) * (8 : Int64)) - ((f4 ((((m0_2 p0 p1 p2 p3).toInt8.toInt32).toInt8.toInt32) &&& (255 : Int32))).toInt64)) + (24 : Int64)) - (1 : Int64)) - ((m0_4 p0 p1 p2 p3).toInt64)) - ((m0_5 p0 p1 p2 p3).toInt64))))] [(.int (m0_5 p0 p1 p2 p3)), (.long ((m0_4 p0 p1 p2 p3).toInt64)), (.int (f5 (((((((((m0_1 p0 p1 p2 p3) - (p0 &&& (1 : Int32))).toInt64) * (8 : Int64)) - ((f4 ((((m0_2 p0 p1 p2 p3).toInt8.toInt32).toInt8.toInt32) &&& (255 : Int32))).toInt64)) + (24 : Int64)) - (1 : Int64)) - ((m0_4 p0 p1 p2 p3).toInt64)) - ((m0_5 p0 p1 p2 p3).toInt64))))])) _
        refine XS.i2l X24.here hx rfl (hb hby at_223) rfl ?_
        show Steps p.tables e below (T24.setTop (mkF m 224 #[.val (.int p0), .val (.int p1), .val (.int p2), .val (.int p3), .val (.int (p0 &&& (1 : Int32))), .val (.int (m0_0 p0 p1 p2 p3)), .val (.int (m0_1 p0 p1 p2 p3)), .val (.int (m0_2 p0 p1 p2 p3)), .val (.ref b2), .val (.long (m0_3 p0 p1 p2 p3)), .second, .val (.int (m0_4 p0 p1 p2 p3)), .val (.int (m0_5 p0 p1 p2 p3)), .val (.ref b18), .val (.int (f5 (((((((m0_1 p0 p1 p2 p3) - (p0 &&& (1 : Int32))).toInt64) * (8 : Int64)) - ((f4 ((((m0_2 p0 p1 p2 p3).toInt8.toInt32).toInt8.toInt32) &&& (255 : Int32))).toInt64)) + (24 : Int64)) - (1 : Int64)))), .val (.int (f5 ((((((((m0_1 p0 p1 p2 p3) - (p0 &&& (1 : Int32))).toInt64) * (8 : Int64)) - ((f4 ((((m0_2 p0 p1 p2 p3).toInt8.toInt32).toInt8.toInt32) &&& (255 : Int32))).toInt64)) + (24 : Int64)) - (1 : Int64)) - ((m0_4 p0 p1 p2 p3).toInt64)))), .val (.int (f5 (((((((((m0_1 p0 p1 p2 p3) - (p0 &&& (1 : Int32))).toInt64) * (8 : Int64)) - ((f4 ((((m0_2 p0 p1 p2 p3).toInt8.toInt32).toInt8.toInt32) &&& (255 : Int32))).toInt64)) + (24 : Int64)) - (1 : Int64)) - ((m0_4 p0 p1 p2 p3).toInt64)) - ((m0_5 p0 p1 p2 p3).toInt64))))] [(.long ((m0_5 p0 p1 p2 p3).toInt64)), (.long ((m0_4 p0 p1 p2 p3).toInt64)), (.int (f5 (((((((((m0_1 p0 p1 p2 p3) - (p0 &&& (1 : Int32))).toInt64) * (8 : Int64)) - ((f4 ((((m0_2 p0 p1 p2 p3).toInt8.toInt32).toInt8.toInt32) &&& (255 : Int32))).toInt64)) + (24 : Int64)) - (1 : Int64)) - ((m0_4 p0 p1 p2 p3).toInt64)) - ((m0_5 p0 p1 p2 p3).toInt64))))])) _
        refine XS.ladd X24.here hx rfl (hb hby at_224) rfl ?_
        show Steps p.tables e below (T24.setTop (mkF m 225 #[.val (.int p0), .val (.int p1), .val (.int p2), .val (.int p3), .val (.int (p0 &&& (1 : Int32))), .val (.int (m0_0 p0 p1 p2 p3)), .val (.int (m0_1 p0 p1 p2 p3)), .val (.int (m0_2 p0 p1 p2 p3)), .val (.ref b2), .val (.long (m0_3 p0 p1 p2 p3)), .second, .val (.int (m0_4 p0 p1 p2 p3)), .val (.int (m0_5 p0 p1 p2 p3)), .val (.ref b18), .val (.int (f5 (((((((m0_1 p0 p1 p2 p3) - (p0 &&& (1 : Int32))).toInt64) * (8 : Int64)) - ((f4 ((((m0_2 p0 p1 p2 p3).toInt8.toInt32).toInt8.toInt32) &&& (255 : Int32))).toInt64)) + (24 : Int64)) - (1 : Int64)))), .val (.int (f5 ((((((((m0_1 p0 p1 p2 p3) - (p0 &&& (1 : Int32))).toInt64) * (8 : Int64)) - ((f4 ((((m0_2 p0 p1 p2 p3).toInt8.toInt32).toInt8.toInt32) &&& (255 : Int32))).toInt64)) + (24 : Int64)) - (1 : Int64)) - ((m0_4 p0 p1 p2 p3).toInt64)))), .val (.int (f5 (((((((((m0_1 p0 p1 p2 p3) - (p0 &&& (1 : Int32))).toInt64) * (8 : Int64)) - ((f4 ((((m0_2 p0 p1 p2 p3).toInt8.toInt32).toInt8.toInt32) &&& (255 : Int32))).toInt64)) + (24 : Int64)) - (1 : Int64)) - ((m0_4 p0 p1 p2 p3).toInt64)) - ((m0_5 p0 p1 p2 p3).toInt64))))] [(.long (((m0_4 p0 p1 p2 p3).toInt64) + ((m0_5 p0 p1 p2 p3).toInt64))), (.int (f5 (((((((((m0_1 p0 p1 p2 p3) - (p0 &&& (1 : Int32))).toInt64) * (8 : Int64)) - ((f4 ((((m0_2 p0 p1 p2 p3).toInt8.toInt32).toInt8.toInt32) &&& (255 : Int32))).toInt64)) + (24 : Int64)) - (1 : Int64)) - ((m0_4 p0 p1 p2 p3).toInt64)) - ((m0_5 p0 p1 p2 p3).toInt64))))])) _
        refine XS.lload X24.here hx rfl (hb hby at_225) rfl ?_
        show Steps p.tables e below (T24.setTop (mkF m 227 #[.val (.int p0), .val (.int p1), .val (.int p2), .val (.int p3), .val (.int (p0 &&& (1 : Int32))), .val (.int (m0_0 p0 p1 p2 p3)), .val (.int (m0_1 p0 p1 p2 p3)), .val (.int (m0_2 p0 p1 p2 p3)), .val (.ref b2), .val (.long (m0_3 p0 p1 p2 p3)), .second, .val (.int (m0_4 p0 p1 p2 p3)), .val (.int (m0_5 p0 p1 p2 p3)), .val (.ref b18), .val (.int (f5 (((((((m0_1 p0 p1 p2 p3) - (p0 &&& (1 : Int32))).toInt64) * (8 : Int64)) - ((f4 ((((m0_2 p0 p1 p2 p3).toInt8.toInt32).toInt8.toInt32) &&& (255 : Int32))).toInt64)) + (24 : Int64)) - (1 : Int64)))), .val (.int (f5 ((((((((m0_1 p0 p1 p2 p3) - (p0 &&& (1 : Int32))).toInt64) * (8 : Int64)) - ((f4 ((((m0_2 p0 p1 p2 p3).toInt8.toInt32).toInt8.toInt32) &&& (255 : Int32))).toInt64)) + (24 : Int64)) - (1 : Int64)) - ((m0_4 p0 p1 p2 p3).toInt64)))), .val (.int (f5 (((((((((m0_1 p0 p1 p2 p3) - (p0 &&& (1 : Int32))).toInt64) * (8 : Int64)) - ((f4 ((((m0_2 p0 p1 p2 p3).toInt8.toInt32).toInt8.toInt32) &&& (255 : Int32))).toInt64)) + (24 : Int64)) - (1 : Int64)) - ((m0_4 p0 p1 p2 p3).toInt64)) - ((m0_5 p0 p1 p2 p3).toInt64))))] [(.long (m0_3 p0 p1 p2 p3)), (.long (((m0_4 p0 p1 p2 p3).toInt64) + ((m0_5 p0 p1 p2 p3).toInt64))), (.int (f5 (((((((((m0_1 p0 p1 p2 p3) - (p0 &&& (1 : Int32))).toInt64) * (8 : Int64)) - ((f4 ((((m0_2 p0 p1 p2 p3).toInt8.toInt32).toInt8.toInt32) &&& (255 : Int32))).toInt64)) + (24 : Int64)) - (1 : Int64)) - ((m0_4 p0 p1 p2 p3).toInt64)) - ((m0_5 p0 p1 p2 p3).toInt64))))])) _
        refine XS.lcmp X24.here hx rfl (hb hby at_227) rfl ?_
        exact kt
      refine own_back (b := T24.setTop (mkF m 236 #[.val (.int p0), .val (.int p1), .val (.int p2), .val (.int p3), .val (.int (p0 &&& (1 : Int32))), .val (.int (m0_0 p0 p1 p2 p3)), .val (.int (m0_1 p0 p1 p2 p3)), .val (.int (m0_2 p0 p1 p2 p3)), .val (.ref b2), .val (.long (m0_3 p0 p1 p2 p3)), .second, .val (.int (m0_4 p0 p1 p2 p3)), .val (.int (m0_5 p0 p1 p2 p3)), .val (.ref b18), .val (.int (f5 (((((((m0_1 p0 p1 p2 p3) - (p0 &&& (1 : Int32))).toInt64) * (8 : Int64)) - ((f4 ((((m0_2 p0 p1 p2 p3).toInt8.toInt32).toInt8.toInt32) &&& (255 : Int32))).toInt64)) + (24 : Int64)) - (1 : Int64)))), .val (.int (f5 ((((((((m0_1 p0 p1 p2 p3) - (p0 &&& (1 : Int32))).toInt64) * (8 : Int64)) - ((f4 ((((m0_2 p0 p1 p2 p3).toInt8.toInt32).toInt8.toInt32) &&& (255 : Int32))).toInt64)) + (24 : Int64)) - (1 : Int64)) - ((m0_4 p0 p1 p2 p3).toInt64)))), .val (.int (f5 (((((((((m0_1 p0 p1 p2 p3) - (p0 &&& (1 : Int32))).toInt64) * (8 : Int64)) - ((f4 ((((m0_2 p0 p1 p2 p3).toInt8.toInt32).toInt8.toInt32) &&& (255 : Int32))).toInt64)) + (24 : Int64)) - (1 : Int64)) - ((m0_4 p0 p1 p2 p3).toInt64)) - ((m0_5 p0 p1 p2 p3).toInt64))))] [(.int (m0_7 p0 p1 p2 p3)), (.int (f5 (((((((((m0_1 p0 p1 p2 p3) - (p0 &&& (1 : Int32))).toInt64) * (8 : Int64)) - ((f4 ((((m0_2 p0 p1 p2 p3).toInt8.toInt32).toInt8.toInt32) &&& (255 : Int32))).toInt64)) + (24 : Int64)) - (1 : Int64)) - ((m0_4 p0 p1 p2 p3).toInt64)) - ((m0_5 p0 p1 p2 p3).toInt64))))])) (fun t kt => ?_) ?_
      · by_cases hm228_28 : (m0_3 p0 p1 p2 p3) < (((m0_4 p0 p1 p2 p3).toInt64) + ((m0_5 p0 p1 p2 p3).toInt64))
        · rw [show (m0_7 p0 p1 p2 p3) = (1 : Int32) from by unfold m0_7; rw [if_pos hm228_28]] at kt
          show Steps p.tables e below (T24.setTop (mkF m 228 #[.val (.int p0), .val (.int p1), .val (.int p2), .val (.int p3), .val (.int (p0 &&& (1 : Int32))), .val (.int (m0_0 p0 p1 p2 p3)), .val (.int (m0_1 p0 p1 p2 p3)), .val (.int (m0_2 p0 p1 p2 p3)), .val (.ref b2), .val (.long (m0_3 p0 p1 p2 p3)), .second, .val (.int (m0_4 p0 p1 p2 p3)), .val (.int (m0_5 p0 p1 p2 p3)), .val (.ref b18), .val (.int (f5 (((((((m0_1 p0 p1 p2 p3) - (p0 &&& (1 : Int32))).toInt64) * (8 : Int64)) - ((f4 ((((m0_2 p0 p1 p2 p3).toInt8.toInt32).toInt8.toInt32) &&& (255 : Int32))).toInt64)) + (24 : Int64)) - (1 : Int64)))), .val (.int (f5 ((((((((m0_1 p0 p1 p2 p3) - (p0 &&& (1 : Int32))).toInt64) * (8 : Int64)) - ((f4 ((((m0_2 p0 p1 p2 p3).toInt8.toInt32).toInt8.toInt32) &&& (255 : Int32))).toInt64)) + (24 : Int64)) - (1 : Int64)) - ((m0_4 p0 p1 p2 p3).toInt64)))), .val (.int (f5 (((((((((m0_1 p0 p1 p2 p3) - (p0 &&& (1 : Int32))).toInt64) * (8 : Int64)) - ((f4 ((((m0_2 p0 p1 p2 p3).toInt8.toInt32).toInt8.toInt32) &&& (255 : Int32))).toInt64)) + (24 : Int64)) - (1 : Int64)) - ((m0_4 p0 p1 p2 p3).toInt64)) - ((m0_5 p0 p1 p2 p3).toInt64))))] [(.int (lcmpW (((m0_4 p0 p1 p2 p3).toInt64) + ((m0_5 p0 p1 p2 p3).toInt64)) (m0_3 p0 p1 p2 p3))), (.int (f5 (((((((((m0_1 p0 p1 p2 p3) - (p0 &&& (1 : Int32))).toInt64) * (8 : Int64)) - ((f4 ((((m0_2 p0 p1 p2 p3).toInt8.toInt32).toInt8.toInt32) &&& (255 : Int32))).toInt64)) + (24 : Int64)) - (1 : Int64)) - ((m0_4 p0 p1 p2 p3).toInt64)) - ((m0_5 p0 p1 p2 p3).toInt64))))])) _
          refine XS.ifNo X24.here hx rfl (hb hby at_228) rfl ((if0 _ _).trans (tlt ((lw_gt _ _).mpr hm228_28)).2.2.2) ?_
          show Steps p.tables e below (T24.setTop (mkF m 231 #[.val (.int p0), .val (.int p1), .val (.int p2), .val (.int p3), .val (.int (p0 &&& (1 : Int32))), .val (.int (m0_0 p0 p1 p2 p3)), .val (.int (m0_1 p0 p1 p2 p3)), .val (.int (m0_2 p0 p1 p2 p3)), .val (.ref b2), .val (.long (m0_3 p0 p1 p2 p3)), .second, .val (.int (m0_4 p0 p1 p2 p3)), .val (.int (m0_5 p0 p1 p2 p3)), .val (.ref b18), .val (.int (f5 (((((((m0_1 p0 p1 p2 p3) - (p0 &&& (1 : Int32))).toInt64) * (8 : Int64)) - ((f4 ((((m0_2 p0 p1 p2 p3).toInt8.toInt32).toInt8.toInt32) &&& (255 : Int32))).toInt64)) + (24 : Int64)) - (1 : Int64)))), .val (.int (f5 ((((((((m0_1 p0 p1 p2 p3) - (p0 &&& (1 : Int32))).toInt64) * (8 : Int64)) - ((f4 ((((m0_2 p0 p1 p2 p3).toInt8.toInt32).toInt8.toInt32) &&& (255 : Int32))).toInt64)) + (24 : Int64)) - (1 : Int64)) - ((m0_4 p0 p1 p2 p3).toInt64)))), .val (.int (f5 (((((((((m0_1 p0 p1 p2 p3) - (p0 &&& (1 : Int32))).toInt64) * (8 : Int64)) - ((f4 ((((m0_2 p0 p1 p2 p3).toInt8.toInt32).toInt8.toInt32) &&& (255 : Int32))).toInt64)) + (24 : Int64)) - (1 : Int64)) - ((m0_4 p0 p1 p2 p3).toInt64)) - ((m0_5 p0 p1 p2 p3).toInt64))))] [(.int (f5 (((((((((m0_1 p0 p1 p2 p3) - (p0 &&& (1 : Int32))).toInt64) * (8 : Int64)) - ((f4 ((((m0_2 p0 p1 p2 p3).toInt8.toInt32).toInt8.toInt32) &&& (255 : Int32))).toInt64)) + (24 : Int64)) - (1 : Int64)) - ((m0_4 p0 p1 p2 p3).toInt64)) - ((m0_5 p0 p1 p2 p3).toInt64))))])) _
          refine XS.iconst X24.here hx rfl (hb hby at_231) ?_
          show Steps p.tables e below (T24.setTop (mkF m 232 #[.val (.int p0), .val (.int p1), .val (.int p2), .val (.int p3), .val (.int (p0 &&& (1 : Int32))), .val (.int (m0_0 p0 p1 p2 p3)), .val (.int (m0_1 p0 p1 p2 p3)), .val (.int (m0_2 p0 p1 p2 p3)), .val (.ref b2), .val (.long (m0_3 p0 p1 p2 p3)), .second, .val (.int (m0_4 p0 p1 p2 p3)), .val (.int (m0_5 p0 p1 p2 p3)), .val (.ref b18), .val (.int (f5 (((((((m0_1 p0 p1 p2 p3) - (p0 &&& (1 : Int32))).toInt64) * (8 : Int64)) - ((f4 ((((m0_2 p0 p1 p2 p3).toInt8.toInt32).toInt8.toInt32) &&& (255 : Int32))).toInt64)) + (24 : Int64)) - (1 : Int64)))), .val (.int (f5 ((((((((m0_1 p0 p1 p2 p3) - (p0 &&& (1 : Int32))).toInt64) * (8 : Int64)) - ((f4 ((((m0_2 p0 p1 p2 p3).toInt8.toInt32).toInt8.toInt32) &&& (255 : Int32))).toInt64)) + (24 : Int64)) - (1 : Int64)) - ((m0_4 p0 p1 p2 p3).toInt64)))), .val (.int (f5 (((((((((m0_1 p0 p1 p2 p3) - (p0 &&& (1 : Int32))).toInt64) * (8 : Int64)) - ((f4 ((((m0_2 p0 p1 p2 p3).toInt8.toInt32).toInt8.toInt32) &&& (255 : Int32))).toInt64)) + (24 : Int64)) - (1 : Int64)) - ((m0_4 p0 p1 p2 p3).toInt64)) - ((m0_5 p0 p1 p2 p3).toInt64))))] [(.int (1 : Int32)), (.int (f5 (((((((((m0_1 p0 p1 p2 p3) - (p0 &&& (1 : Int32))).toInt64) * (8 : Int64)) - ((f4 ((((m0_2 p0 p1 p2 p3).toInt8.toInt32).toInt8.toInt32) &&& (255 : Int32))).toInt64)) + (24 : Int64)) - (1 : Int64)) - ((m0_4 p0 p1 p2 p3).toInt64)) - ((m0_5 p0 p1 p2 p3).toInt64))))])) _
          refine XS.goto X24.here hx rfl (pc0 := 232) (pc' := 236) rfl (hb hby at_232) (by decide) (by decide) ?_
          exact kt
        · rw [show (m0_7 p0 p1 p2 p3) = (0 : Int32) from by unfold m0_7; rw [if_neg hm228_28]] at kt
          show Steps p.tables e below (T24.setTop (mkF m 228 #[.val (.int p0), .val (.int p1), .val (.int p2), .val (.int p3), .val (.int (p0 &&& (1 : Int32))), .val (.int (m0_0 p0 p1 p2 p3)), .val (.int (m0_1 p0 p1 p2 p3)), .val (.int (m0_2 p0 p1 p2 p3)), .val (.ref b2), .val (.long (m0_3 p0 p1 p2 p3)), .second, .val (.int (m0_4 p0 p1 p2 p3)), .val (.int (m0_5 p0 p1 p2 p3)), .val (.ref b18), .val (.int (f5 (((((((m0_1 p0 p1 p2 p3) - (p0 &&& (1 : Int32))).toInt64) * (8 : Int64)) - ((f4 ((((m0_2 p0 p1 p2 p3).toInt8.toInt32).toInt8.toInt32) &&& (255 : Int32))).toInt64)) + (24 : Int64)) - (1 : Int64)))), .val (.int (f5 ((((((((m0_1 p0 p1 p2 p3) - (p0 &&& (1 : Int32))).toInt64) * (8 : Int64)) - ((f4 ((((m0_2 p0 p1 p2 p3).toInt8.toInt32).toInt8.toInt32) &&& (255 : Int32))).toInt64)) + (24 : Int64)) - (1 : Int64)) - ((m0_4 p0 p1 p2 p3).toInt64)))), .val (.int (f5 (((((((((m0_1 p0 p1 p2 p3) - (p0 &&& (1 : Int32))).toInt64) * (8 : Int64)) - ((f4 ((((m0_2 p0 p1 p2 p3).toInt8.toInt32).toInt8.toInt32) &&& (255 : Int32))).toInt64)) + (24 : Int64)) - (1 : Int64)) - ((m0_4 p0 p1 p2 p3).toInt64)) - ((m0_5 p0 p1 p2 p3).toInt64))))] [(.int (lcmpW (((m0_4 p0 p1 p2 p3).toInt64) + ((m0_5 p0 p1 p2 p3).toInt64)) (m0_3 p0 p1 p2 p3))), (.int (f5 (((((((((m0_1 p0 p1 p2 p3) - (p0 &&& (1 : Int32))).toInt64) * (8 : Int64)) - ((f4 ((((m0_2 p0 p1 p2 p3).toInt8.toInt32).toInt8.toInt32) &&& (255 : Int32))).toInt64)) + (24 : Int64)) - (1 : Int64)) - ((m0_4 p0 p1 p2 p3).toInt64)) - ((m0_5 p0 p1 p2 p3).toInt64))))])) _
          refine XS.ifYes X24.here hx rfl (pc0 := 228) (pc' := 235) rfl (hb hby at_228) rfl ((if0 _ _).trans (flt (fun q => hm228_28 ((lw_gt _ _).mp q))).2.2.2) (by decide) (by decide) ?_
          show Steps p.tables e below (T24.setTop (mkF m 235 #[.val (.int p0), .val (.int p1), .val (.int p2), .val (.int p3), .val (.int (p0 &&& (1 : Int32))), .val (.int (m0_0 p0 p1 p2 p3)), .val (.int (m0_1 p0 p1 p2 p3)), .val (.int (m0_2 p0 p1 p2 p3)), .val (.ref b2), .val (.long (m0_3 p0 p1 p2 p3)), .second, .val (.int (m0_4 p0 p1 p2 p3)), .val (.int (m0_5 p0 p1 p2 p3)), .val (.ref b18), .val (.int (f5 (((((((m0_1 p0 p1 p2 p3) - (p0 &&& (1 : Int32))).toInt64) * (8 : Int64)) - ((f4 ((((m0_2 p0 p1 p2 p3).toInt8.toInt32).toInt8.toInt32) &&& (255 : Int32))).toInt64)) + (24 : Int64)) - (1 : Int64)))), .val (.int (f5 ((((((((m0_1 p0 p1 p2 p3) - (p0 &&& (1 : Int32))).toInt64) * (8 : Int64)) - ((f4 ((((m0_2 p0 p1 p2 p3).toInt8.toInt32).toInt8.toInt32) &&& (255 : Int32))).toInt64)) + (24 : Int64)) - (1 : Int64)) - ((m0_4 p0 p1 p2 p3).toInt64)))), .val (.int (f5 (((((((((m0_1 p0 p1 p2 p3) - (p0 &&& (1 : Int32))).toInt64) * (8 : Int64)) - ((f4 ((((m0_2 p0 p1 p2 p3).toInt8.toInt32).toInt8.toInt32) &&& (255 : Int32))).toInt64)) + (24 : Int64)) - (1 : Int64)) - ((m0_4 p0 p1 p2 p3).toInt64)) - ((m0_5 p0 p1 p2 p3).toInt64))))] [(.int (f5 (((((((((m0_1 p0 p1 p2 p3) - (p0 &&& (1 : Int32))).toInt64) * (8 : Int64)) - ((f4 ((((m0_2 p0 p1 p2 p3).toInt8.toInt32).toInt8.toInt32) &&& (255 : Int32))).toInt64)) + (24 : Int64)) - (1 : Int64)) - ((m0_4 p0 p1 p2 p3).toInt64)) - ((m0_5 p0 p1 p2 p3).toInt64))))])) _
          refine XS.iconst X24.here hx rfl (hb hby at_235) ?_
          exact kt
      by_cases hc236_29 : (f5 (((((((((m0_1 p0 p1 p2 p3) - (p0 &&& (1 : Int32))).toInt64) * (8 : Int64)) - ((f4 ((((m0_2 p0 p1 p2 p3).toInt8.toInt32).toInt8.toInt32) &&& (255 : Int32))).toInt64)) + (24 : Int64)) - (1 : Int64)) - ((m0_4 p0 p1 p2 p3).toInt64)) - ((m0_5 p0 p1 p2 p3).toInt64))) = (m0_7 p0 p1 p2 p3)
      · refine own_back (b := T24.setTop (mkF m 244 #[.val (.int p0), .val (.int p1), .val (.int p2), .val (.int p3), .val (.int (p0 &&& (1 : Int32))), .val (.int (m0_0 p0 p1 p2 p3)), .val (.int (m0_1 p0 p1 p2 p3)), .val (.int (m0_2 p0 p1 p2 p3)), .val (.ref b2), .val (.long (m0_3 p0 p1 p2 p3)), .second, .val (.int (m0_4 p0 p1 p2 p3)), .val (.int (m0_5 p0 p1 p2 p3)), .val (.ref b18), .val (.int (f5 (((((((m0_1 p0 p1 p2 p3) - (p0 &&& (1 : Int32))).toInt64) * (8 : Int64)) - ((f4 ((((m0_2 p0 p1 p2 p3).toInt8.toInt32).toInt8.toInt32) &&& (255 : Int32))).toInt64)) + (24 : Int64)) - (1 : Int64)))), .val (.int (f5 ((((((((m0_1 p0 p1 p2 p3) - (p0 &&& (1 : Int32))).toInt64) * (8 : Int64)) - ((f4 ((((m0_2 p0 p1 p2 p3).toInt8.toInt32).toInt8.toInt32) &&& (255 : Int32))).toInt64)) + (24 : Int64)) - (1 : Int64)) - ((m0_4 p0 p1 p2 p3).toInt64)))), .val (.int (f5 (((((((((m0_1 p0 p1 p2 p3) - (p0 &&& (1 : Int32))).toInt64) * (8 : Int64)) - ((f4 ((((m0_2 p0 p1 p2 p3).toInt8.toInt32).toInt8.toInt32) &&& (255 : Int32))).toInt64)) + (24 : Int64)) - (1 : Int64)) - ((m0_4 p0 p1 p2 p3).toInt64)) - ((m0_5 p0 p1 p2 p3).toInt64))))] [(.int (1 : Int32))])) (fun t kt => ?_) ?_
        · show Steps p.tables e below (T24.setTop (mkF m 236 #[.val (.int p0), .val (.int p1), .val (.int p2), .val (.int p3), .val (.int (p0 &&& (1 : Int32))), .val (.int (m0_0 p0 p1 p2 p3)), .val (.int (m0_1 p0 p1 p2 p3)), .val (.int (m0_2 p0 p1 p2 p3)), .val (.ref b2), .val (.long (m0_3 p0 p1 p2 p3)), .second, .val (.int (m0_4 p0 p1 p2 p3)), .val (.int (m0_5 p0 p1 p2 p3)), .val (.ref b18), .val (.int (f5 (((((((m0_1 p0 p1 p2 p3) - (p0 &&& (1 : Int32))).toInt64) * (8 : Int64)) - ((f4 ((((m0_2 p0 p1 p2 p3).toInt8.toInt32).toInt8.toInt32) &&& (255 : Int32))).toInt64)) + (24 : Int64)) - (1 : Int64)))), .val (.int (f5 ((((((((m0_1 p0 p1 p2 p3) - (p0 &&& (1 : Int32))).toInt64) * (8 : Int64)) - ((f4 ((((m0_2 p0 p1 p2 p3).toInt8.toInt32).toInt8.toInt32) &&& (255 : Int32))).toInt64)) + (24 : Int64)) - (1 : Int64)) - ((m0_4 p0 p1 p2 p3).toInt64)))), .val (.int (f5 (((((((((m0_1 p0 p1 p2 p3) - (p0 &&& (1 : Int32))).toInt64) * (8 : Int64)) - ((f4 ((((m0_2 p0 p1 p2 p3).toInt8.toInt32).toInt8.toInt32) &&& (255 : Int32))).toInt64)) + (24 : Int64)) - (1 : Int64)) - ((m0_4 p0 p1 p2 p3).toInt64)) - ((m0_5 p0 p1 p2 p3).toInt64))))] [(.int (m0_7 p0 p1 p2 p3)), (.int (f5 (((((((((m0_1 p0 p1 p2 p3) - (p0 &&& (1 : Int32))).toInt64) * (8 : Int64)) - ((f4 ((((m0_2 p0 p1 p2 p3).toInt8.toInt32).toInt8.toInt32) &&& (255 : Int32))).toInt64)) + (24 : Int64)) - (1 : Int64)) - ((m0_4 p0 p1 p2 p3).toInt64)) - ((m0_5 p0 p1 p2 p3).toInt64))))])) _
          refine XS.icmpNo X24.here hx rfl (hb hby at_236) rfl (teq hc236_29).2 ?_
          show Steps p.tables e below (T24.setTop (mkF m 239 #[.val (.int p0), .val (.int p1), .val (.int p2), .val (.int p3), .val (.int (p0 &&& (1 : Int32))), .val (.int (m0_0 p0 p1 p2 p3)), .val (.int (m0_1 p0 p1 p2 p3)), .val (.int (m0_2 p0 p1 p2 p3)), .val (.ref b2), .val (.long (m0_3 p0 p1 p2 p3)), .second, .val (.int (m0_4 p0 p1 p2 p3)), .val (.int (m0_5 p0 p1 p2 p3)), .val (.ref b18), .val (.int (f5 (((((((m0_1 p0 p1 p2 p3) - (p0 &&& (1 : Int32))).toInt64) * (8 : Int64)) - ((f4 ((((m0_2 p0 p1 p2 p3).toInt8.toInt32).toInt8.toInt32) &&& (255 : Int32))).toInt64)) + (24 : Int64)) - (1 : Int64)))), .val (.int (f5 ((((((((m0_1 p0 p1 p2 p3) - (p0 &&& (1 : Int32))).toInt64) * (8 : Int64)) - ((f4 ((((m0_2 p0 p1 p2 p3).toInt8.toInt32).toInt8.toInt32) &&& (255 : Int32))).toInt64)) + (24 : Int64)) - (1 : Int64)) - ((m0_4 p0 p1 p2 p3).toInt64)))), .val (.int (f5 (((((((((m0_1 p0 p1 p2 p3) - (p0 &&& (1 : Int32))).toInt64) * (8 : Int64)) - ((f4 ((((m0_2 p0 p1 p2 p3).toInt8.toInt32).toInt8.toInt32) &&& (255 : Int32))).toInt64)) + (24 : Int64)) - (1 : Int64)) - ((m0_4 p0 p1 p2 p3).toInt64)) - ((m0_5 p0 p1 p2 p3).toInt64))))] [])) _
          refine XS.iconst X24.here hx rfl (hb hby at_239) ?_
          show Steps p.tables e below (T24.setTop (mkF m 240 #[.val (.int p0), .val (.int p1), .val (.int p2), .val (.int p3), .val (.int (p0 &&& (1 : Int32))), .val (.int (m0_0 p0 p1 p2 p3)), .val (.int (m0_1 p0 p1 p2 p3)), .val (.int (m0_2 p0 p1 p2 p3)), .val (.ref b2), .val (.long (m0_3 p0 p1 p2 p3)), .second, .val (.int (m0_4 p0 p1 p2 p3)), .val (.int (m0_5 p0 p1 p2 p3)), .val (.ref b18), .val (.int (f5 (((((((m0_1 p0 p1 p2 p3) - (p0 &&& (1 : Int32))).toInt64) * (8 : Int64)) - ((f4 ((((m0_2 p0 p1 p2 p3).toInt8.toInt32).toInt8.toInt32) &&& (255 : Int32))).toInt64)) + (24 : Int64)) - (1 : Int64)))), .val (.int (f5 ((((((((m0_1 p0 p1 p2 p3) - (p0 &&& (1 : Int32))).toInt64) * (8 : Int64)) - ((f4 ((((m0_2 p0 p1 p2 p3).toInt8.toInt32).toInt8.toInt32) &&& (255 : Int32))).toInt64)) + (24 : Int64)) - (1 : Int64)) - ((m0_4 p0 p1 p2 p3).toInt64)))), .val (.int (f5 (((((((((m0_1 p0 p1 p2 p3) - (p0 &&& (1 : Int32))).toInt64) * (8 : Int64)) - ((f4 ((((m0_2 p0 p1 p2 p3).toInt8.toInt32).toInt8.toInt32) &&& (255 : Int32))).toInt64)) + (24 : Int64)) - (1 : Int64)) - ((m0_4 p0 p1 p2 p3).toInt64)) - ((m0_5 p0 p1 p2 p3).toInt64))))] [(.int (1 : Int32))])) _
          refine XS.goto X24.here hx rfl (pc0 := 240) (pc' := 244) rfl (hb hby at_240) (by decide) (by decide) ?_
          exact kt
        obtain ⟨fs, hr, hrun, hended, hW, hsame⟩ := X24.leave (v := some (.int (1 : Int32))) (fun h => by rw [Bd.returns] at h; cases h) (BodyLoose.notSynchronized Bd)
        refine ⟨_, _, ?_, hrun, hended, _, _, rfl, ?_, ⟨_, rfl⟩, hW, hsame.mono (by decide) (by decide)⟩
        · show Steps p.tables e below (T24.setTop (mkF m 244 #[.val (.int p0), .val (.int p1), .val (.int p2), .val (.int p3), .val (.int (p0 &&& (1 : Int32))), .val (.int (m0_0 p0 p1 p2 p3)), .val (.int (m0_1 p0 p1 p2 p3)), .val (.int (m0_2 p0 p1 p2 p3)), .val (.ref b2), .val (.long (m0_3 p0 p1 p2 p3)), .second, .val (.int (m0_4 p0 p1 p2 p3)), .val (.int (m0_5 p0 p1 p2 p3)), .val (.ref b18), .val (.int (f5 (((((((m0_1 p0 p1 p2 p3) - (p0 &&& (1 : Int32))).toInt64) * (8 : Int64)) - ((f4 ((((m0_2 p0 p1 p2 p3).toInt8.toInt32).toInt8.toInt32) &&& (255 : Int32))).toInt64)) + (24 : Int64)) - (1 : Int64)))), .val (.int (f5 ((((((((m0_1 p0 p1 p2 p3) - (p0 &&& (1 : Int32))).toInt64) * (8 : Int64)) - ((f4 ((((m0_2 p0 p1 p2 p3).toInt8.toInt32).toInt8.toInt32) &&& (255 : Int32))).toInt64)) + (24 : Int64)) - (1 : Int64)) - ((m0_4 p0 p1 p2 p3).toInt64)))), .val (.int (f5 (((((((((m0_1 p0 p1 p2 p3) - (p0 &&& (1 : Int32))).toInt64) * (8 : Int64)) - ((f4 ((((m0_2 p0 p1 p2 p3).toInt8.toInt32).toInt8.toInt32) &&& (255 : Int32))).toInt64)) + (24 : Int64)) - (1 : Int64)) - ((m0_4 p0 p1 p2 p3).toInt64)) - ((m0_5 p0 p1 p2 p3).toInt64))))] [(.int (1 : Int32))])) _
          exact retN X24 hx (t := .boolean) Bd.returns (by simp) (hb hby at_244) hr
        · show Q0 Z p0 p1 p2 p3 h0 n0 _ T24.heap _
          rw [e24]
          exact ⟨by rw [show f0 p0 p1 p2 p3 = (1 : Int32) from by unfold f0; rw [if_pos hc194_25, if_pos hc213_27, if_pos hc236_29]], N24⟩
      · refine own_back (b := T24.setTop (mkF m 244 #[.val (.int p0), .val (.int p1), .val (.int p2), .val (.int p3), .val (.int (p0 &&& (1 : Int32))), .val (.int (m0_0 p0 p1 p2 p3)), .val (.int (m0_1 p0 p1 p2 p3)), .val (.int (m0_2 p0 p1 p2 p3)), .val (.ref b2), .val (.long (m0_3 p0 p1 p2 p3)), .second, .val (.int (m0_4 p0 p1 p2 p3)), .val (.int (m0_5 p0 p1 p2 p3)), .val (.ref b18), .val (.int (f5 (((((((m0_1 p0 p1 p2 p3) - (p0 &&& (1 : Int32))).toInt64) * (8 : Int64)) - ((f4 ((((m0_2 p0 p1 p2 p3).toInt8.toInt32).toInt8.toInt32) &&& (255 : Int32))).toInt64)) + (24 : Int64)) - (1 : Int64)))), .val (.int (f5 ((((((((m0_1 p0 p1 p2 p3) - (p0 &&& (1 : Int32))).toInt64) * (8 : Int64)) - ((f4 ((((m0_2 p0 p1 p2 p3).toInt8.toInt32).toInt8.toInt32) &&& (255 : Int32))).toInt64)) + (24 : Int64)) - (1 : Int64)) - ((m0_4 p0 p1 p2 p3).toInt64)))), .val (.int (f5 (((((((((m0_1 p0 p1 p2 p3) - (p0 &&& (1 : Int32))).toInt64) * (8 : Int64)) - ((f4 ((((m0_2 p0 p1 p2 p3).toInt8.toInt32).toInt8.toInt32) &&& (255 : Int32))).toInt64)) + (24 : Int64)) - (1 : Int64)) - ((m0_4 p0 p1 p2 p3).toInt64)) - ((m0_5 p0 p1 p2 p3).toInt64))))] [(.int (0 : Int32))])) (fun t kt => ?_) ?_
        · show Steps p.tables e below (T24.setTop (mkF m 236 #[.val (.int p0), .val (.int p1), .val (.int p2), .val (.int p3), .val (.int (p0 &&& (1 : Int32))), .val (.int (m0_0 p0 p1 p2 p3)), .val (.int (m0_1 p0 p1 p2 p3)), .val (.int (m0_2 p0 p1 p2 p3)), .val (.ref b2), .val (.long (m0_3 p0 p1 p2 p3)), .second, .val (.int (m0_4 p0 p1 p2 p3)), .val (.int (m0_5 p0 p1 p2 p3)), .val (.ref b18), .val (.int (f5 (((((((m0_1 p0 p1 p2 p3) - (p0 &&& (1 : Int32))).toInt64) * (8 : Int64)) - ((f4 ((((m0_2 p0 p1 p2 p3).toInt8.toInt32).toInt8.toInt32) &&& (255 : Int32))).toInt64)) + (24 : Int64)) - (1 : Int64)))), .val (.int (f5 ((((((((m0_1 p0 p1 p2 p3) - (p0 &&& (1 : Int32))).toInt64) * (8 : Int64)) - ((f4 ((((m0_2 p0 p1 p2 p3).toInt8.toInt32).toInt8.toInt32) &&& (255 : Int32))).toInt64)) + (24 : Int64)) - (1 : Int64)) - ((m0_4 p0 p1 p2 p3).toInt64)))), .val (.int (f5 (((((((((m0_1 p0 p1 p2 p3) - (p0 &&& (1 : Int32))).toInt64) * (8 : Int64)) - ((f4 ((((m0_2 p0 p1 p2 p3).toInt8.toInt32).toInt8.toInt32) &&& (255 : Int32))).toInt64)) + (24 : Int64)) - (1 : Int64)) - ((m0_4 p0 p1 p2 p3).toInt64)) - ((m0_5 p0 p1 p2 p3).toInt64))))] [(.int (m0_7 p0 p1 p2 p3)), (.int (f5 (((((((((m0_1 p0 p1 p2 p3) - (p0 &&& (1 : Int32))).toInt64) * (8 : Int64)) - ((f4 ((((m0_2 p0 p1 p2 p3).toInt8.toInt32).toInt8.toInt32) &&& (255 : Int32))).toInt64)) + (24 : Int64)) - (1 : Int64)) - ((m0_4 p0 p1 p2 p3).toInt64)) - ((m0_5 p0 p1 p2 p3).toInt64))))])) _
          refine XS.icmpYes X24.here hx rfl (pc0 := 236) (pc' := 243) rfl (hb hby at_236) rfl (feq hc236_29).2 (by decide) (by decide) ?_
          show Steps p.tables e below (T24.setTop (mkF m 243 #[.val (.int p0), .val (.int p1), .val (.int p2), .val (.int p3), .val (.int (p0 &&& (1 : Int32))), .val (.int (m0_0 p0 p1 p2 p3)), .val (.int (m0_1 p0 p1 p2 p3)), .val (.int (m0_2 p0 p1 p2 p3)), .val (.ref b2), .val (.long (m0_3 p0 p1 p2 p3)), .second, .val (.int (m0_4 p0 p1 p2 p3)), .val (.int (m0_5 p0 p1 p2 p3)), .val (.ref b18), .val (.int (f5 (((((((m0_1 p0 p1 p2 p3) - (p0 &&& (1 : Int32))).toInt64) * (8 : Int64)) - ((f4 ((((m0_2 p0 p1 p2 p3).toInt8.toInt32).toInt8.toInt32) &&& (255 : Int32))).toInt64)) + (24 : Int64)) - (1 : Int64)))), .val (.int (f5 ((((((((m0_1 p0 p1 p2 p3) - (p0 &&& (1 : Int32))).toInt64) * (8 : Int64)) - ((f4 ((((m0_2 p0 p1 p2 p3).toInt8.toInt32).toInt8.toInt32) &&& (255 : Int32))).toInt64)) + (24 : Int64)) - (1 : Int64)) - ((m0_4 p0 p1 p2 p3).toInt64)))), .val (.int (f5 (((((((((m0_1 p0 p1 p2 p3) - (p0 &&& (1 : Int32))).toInt64) * (8 : Int64)) - ((f4 ((((m0_2 p0 p1 p2 p3).toInt8.toInt32).toInt8.toInt32) &&& (255 : Int32))).toInt64)) + (24 : Int64)) - (1 : Int64)) - ((m0_4 p0 p1 p2 p3).toInt64)) - ((m0_5 p0 p1 p2 p3).toInt64))))] [])) _
          refine XS.iconst X24.here hx rfl (hb hby at_243) ?_
          exact kt
        obtain ⟨fs, hr, hrun, hended, hW, hsame⟩ := X24.leave (v := some (.int (0 : Int32))) (fun h => by rw [Bd.returns] at h; cases h) (BodyLoose.notSynchronized Bd)
        refine ⟨_, _, ?_, hrun, hended, _, _, rfl, ?_, ⟨_, rfl⟩, hW, hsame.mono (by decide) (by decide)⟩
        · show Steps p.tables e below (T24.setTop (mkF m 244 #[.val (.int p0), .val (.int p1), .val (.int p2), .val (.int p3), .val (.int (p0 &&& (1 : Int32))), .val (.int (m0_0 p0 p1 p2 p3)), .val (.int (m0_1 p0 p1 p2 p3)), .val (.int (m0_2 p0 p1 p2 p3)), .val (.ref b2), .val (.long (m0_3 p0 p1 p2 p3)), .second, .val (.int (m0_4 p0 p1 p2 p3)), .val (.int (m0_5 p0 p1 p2 p3)), .val (.ref b18), .val (.int (f5 (((((((m0_1 p0 p1 p2 p3) - (p0 &&& (1 : Int32))).toInt64) * (8 : Int64)) - ((f4 ((((m0_2 p0 p1 p2 p3).toInt8.toInt32).toInt8.toInt32) &&& (255 : Int32))).toInt64)) + (24 : Int64)) - (1 : Int64)))), .val (.int (f5 ((((((((m0_1 p0 p1 p2 p3) - (p0 &&& (1 : Int32))).toInt64) * (8 : Int64)) - ((f4 ((((m0_2 p0 p1 p2 p3).toInt8.toInt32).toInt8.toInt32) &&& (255 : Int32))).toInt64)) + (24 : Int64)) - (1 : Int64)) - ((m0_4 p0 p1 p2 p3).toInt64)))), .val (.int (f5 (((((((((m0_1 p0 p1 p2 p3) - (p0 &&& (1 : Int32))).toInt64) * (8 : Int64)) - ((f4 ((((m0_2 p0 p1 p2 p3).toInt8.toInt32).toInt8.toInt32) &&& (255 : Int32))).toInt64)) + (24 : Int64)) - (1 : Int64)) - ((m0_4 p0 p1 p2 p3).toInt64)) - ((m0_5 p0 p1 p2 p3).toInt64))))] [(.int (0 : Int32))])) _
          exact retN X24 hx (t := .boolean) Bd.returns (by simp) (hb hby at_244) hr
        · show Q0 Z p0 p1 p2 p3 h0 n0 _ T24.heap _
          rw [e24]
          exact ⟨by rw [show f0 p0 p1 p2 p3 = (0 : Int32) from by unfold f0; rw [if_pos hc194_25, if_pos hc213_27, if_neg hc236_29]], N24⟩
    · refine own_back (b := T24.setTop (mkF m 244 #[.val (.int p0), .val (.int p1), .val (.int p2), .val (.int p3), .val (.int (p0 &&& (1 : Int32))), .val (.int (m0_0 p0 p1 p2 p3)), .val (.int (m0_1 p0 p1 p2 p3)), .val (.int (m0_2 p0 p1 p2 p3)), .val (.ref b2), .val (.long (m0_3 p0 p1 p2 p3)), .second, .val (.int (m0_4 p0 p1 p2 p3)), .val (.int (m0_5 p0 p1 p2 p3)), .val (.ref b18), .val (.int (f5 (((((((m0_1 p0 p1 p2 p3) - (p0 &&& (1 : Int32))).toInt64) * (8 : Int64)) - ((f4 ((((m0_2 p0 p1 p2 p3).toInt8.toInt32).toInt8.toInt32) &&& (255 : Int32))).toInt64)) + (24 : Int64)) - (1 : Int64)))), .val (.int (f5 ((((((((m0_1 p0 p1 p2 p3) - (p0 &&& (1 : Int32))).toInt64) * (8 : Int64)) - ((f4 ((((m0_2 p0 p1 p2 p3).toInt8.toInt32).toInt8.toInt32) &&& (255 : Int32))).toInt64)) + (24 : Int64)) - (1 : Int64)) - ((m0_4 p0 p1 p2 p3).toInt64)))), .val (.int (f5 (((((((((m0_1 p0 p1 p2 p3) - (p0 &&& (1 : Int32))).toInt64) * (8 : Int64)) - ((f4 ((((m0_2 p0 p1 p2 p3).toInt8.toInt32).toInt8.toInt32) &&& (255 : Int32))).toInt64)) + (24 : Int64)) - (1 : Int64)) - ((m0_4 p0 p1 p2 p3).toInt64)) - ((m0_5 p0 p1 p2 p3).toInt64))))] [(.int (0 : Int32))])) (fun t kt => ?_) ?_
      · show Steps p.tables e below (T24.setTop (mkF m 213 #[.val (.int p0), .val (.int p1), .val (.int p2), .val (.int p3), .val (.int (p0 &&& (1 : Int32))), .val (.int (m0_0 p0 p1 p2 p3)), .val (.int (m0_1 p0 p1 p2 p3)), .val (.int (m0_2 p0 p1 p2 p3)), .val (.ref b2), .val (.long (m0_3 p0 p1 p2 p3)), .second, .val (.int (m0_4 p0 p1 p2 p3)), .val (.int (m0_5 p0 p1 p2 p3)), .val (.ref b18), .val (.int (f5 (((((((m0_1 p0 p1 p2 p3) - (p0 &&& (1 : Int32))).toInt64) * (8 : Int64)) - ((f4 ((((m0_2 p0 p1 p2 p3).toInt8.toInt32).toInt8.toInt32) &&& (255 : Int32))).toInt64)) + (24 : Int64)) - (1 : Int64)))), .val (.int (f5 ((((((((m0_1 p0 p1 p2 p3) - (p0 &&& (1 : Int32))).toInt64) * (8 : Int64)) - ((f4 ((((m0_2 p0 p1 p2 p3).toInt8.toInt32).toInt8.toInt32) &&& (255 : Int32))).toInt64)) + (24 : Int64)) - (1 : Int64)) - ((m0_4 p0 p1 p2 p3).toInt64)))), .val (.int (f5 (((((((((m0_1 p0 p1 p2 p3) - (p0 &&& (1 : Int32))).toInt64) * (8 : Int64)) - ((f4 ((((m0_2 p0 p1 p2 p3).toInt8.toInt32).toInt8.toInt32) &&& (255 : Int32))).toInt64)) + (24 : Int64)) - (1 : Int64)) - ((m0_4 p0 p1 p2 p3).toInt64)) - ((m0_5 p0 p1 p2 p3).toInt64))))] [(.int (m0_6 p0 p1 p2 p3)), (.int (f5 ((((((((m0_1 p0 p1 p2 p3) - (p0 &&& (1 : Int32))).toInt64) * (8 : Int64)) - ((f4 ((((m0_2 p0 p1 p2 p3).toInt8.toInt32).toInt8.toInt32) &&& (255 : Int32))).toInt64)) + (24 : Int64)) - (1 : Int64)) - ((m0_4 p0 p1 p2 p3).toInt64))))])) _
        refine XS.icmpYes X24.here hx rfl (pc0 := 213) (pc' := 243) rfl (hb hby at_213) rfl (feq hc213_27).2 (by decide) (by decide) ?_
        show Steps p.tables e below (T24.setTop (mkF m 243 #[.val (.int p0), .val (.int p1), .val (.int p2), .val (.int p3), .val (.int (p0 &&& (1 : Int32))), .val (.int (m0_0 p0 p1 p2 p3)), .val (.int (m0_1 p0 p1 p2 p3)), .val (.int (m0_2 p0 p1 p2 p3)), .val (.ref b2), .val (.long (m0_3 p0 p1 p2 p3)), .second, .val (.int (m0_4 p0 p1 p2 p3)), .val (.int (m0_5 p0 p1 p2 p3)), .val (.ref b18), .val (.int (f5 (((((((m0_1 p0 p1 p2 p3) - (p0 &&& (1 : Int32))).toInt64) * (8 : Int64)) - ((f4 ((((m0_2 p0 p1 p2 p3).toInt8.toInt32).toInt8.toInt32) &&& (255 : Int32))).toInt64)) + (24 : Int64)) - (1 : Int64)))), .val (.int (f5 ((((((((m0_1 p0 p1 p2 p3) - (p0 &&& (1 : Int32))).toInt64) * (8 : Int64)) - ((f4 ((((m0_2 p0 p1 p2 p3).toInt8.toInt32).toInt8.toInt32) &&& (255 : Int32))).toInt64)) + (24 : Int64)) - (1 : Int64)) - ((m0_4 p0 p1 p2 p3).toInt64)))), .val (.int (f5 (((((((((m0_1 p0 p1 p2 p3) - (p0 &&& (1 : Int32))).toInt64) * (8 : Int64)) - ((f4 ((((m0_2 p0 p1 p2 p3).toInt8.toInt32).toInt8.toInt32) &&& (255 : Int32))).toInt64)) + (24 : Int64)) - (1 : Int64)) - ((m0_4 p0 p1 p2 p3).toInt64)) - ((m0_5 p0 p1 p2 p3).toInt64))))] [])) _
        refine XS.iconst X24.here hx rfl (hb hby at_243) ?_
        exact kt
      obtain ⟨fs, hr, hrun, hended, hW, hsame⟩ := X24.leave (v := some (.int (0 : Int32))) (fun h => by rw [Bd.returns] at h; cases h) (BodyLoose.notSynchronized Bd)
      refine ⟨_, _, ?_, hrun, hended, _, _, rfl, ?_, ⟨_, rfl⟩, hW, hsame.mono (by decide) (by decide)⟩
      · show Steps p.tables e below (T24.setTop (mkF m 244 #[.val (.int p0), .val (.int p1), .val (.int p2), .val (.int p3), .val (.int (p0 &&& (1 : Int32))), .val (.int (m0_0 p0 p1 p2 p3)), .val (.int (m0_1 p0 p1 p2 p3)), .val (.int (m0_2 p0 p1 p2 p3)), .val (.ref b2), .val (.long (m0_3 p0 p1 p2 p3)), .second, .val (.int (m0_4 p0 p1 p2 p3)), .val (.int (m0_5 p0 p1 p2 p3)), .val (.ref b18), .val (.int (f5 (((((((m0_1 p0 p1 p2 p3) - (p0 &&& (1 : Int32))).toInt64) * (8 : Int64)) - ((f4 ((((m0_2 p0 p1 p2 p3).toInt8.toInt32).toInt8.toInt32) &&& (255 : Int32))).toInt64)) + (24 : Int64)) - (1 : Int64)))), .val (.int (f5 ((((((((m0_1 p0 p1 p2 p3) - (p0 &&& (1 : Int32))).toInt64) * (8 : Int64)) - ((f4 ((((m0_2 p0 p1 p2 p3).toInt8.toInt32).toInt8.toInt32) &&& (255 : Int32))).toInt64)) + (24 : Int64)) - (1 : Int64)) - ((m0_4 p0 p1 p2 p3).toInt64)))), .val (.int (f5 (((((((((m0_1 p0 p1 p2 p3) - (p0 &&& (1 : Int32))).toInt64) * (8 : Int64)) - ((f4 ((((m0_2 p0 p1 p2 p3).toInt8.toInt32).toInt8.toInt32) &&& (255 : Int32))).toInt64)) + (24 : Int64)) - (1 : Int64)) - ((m0_4 p0 p1 p2 p3).toInt64)) - ((m0_5 p0 p1 p2 p3).toInt64))))] [(.int (0 : Int32))])) _
        exact retN X24 hx (t := .boolean) Bd.returns (by simp) (hb hby at_244) hr
      · show Q0 Z p0 p1 p2 p3 h0 n0 _ T24.heap _
        rw [e24]
        exact ⟨by rw [show f0 p0 p1 p2 p3 = (0 : Int32) from by unfold f0; rw [if_pos hc194_25, if_neg hc213_27]], N24⟩
  · refine own_back (b := T24.setTop (mkF m 244 #[.val (.int p0), .val (.int p1), .val (.int p2), .val (.int p3), .val (.int (p0 &&& (1 : Int32))), .val (.int (m0_0 p0 p1 p2 p3)), .val (.int (m0_1 p0 p1 p2 p3)), .val (.int (m0_2 p0 p1 p2 p3)), .val (.ref b2), .val (.long (m0_3 p0 p1 p2 p3)), .second, .val (.int (m0_4 p0 p1 p2 p3)), .val (.int (m0_5 p0 p1 p2 p3)), .val (.ref b18), .val (.int (f5 (((((((m0_1 p0 p1 p2 p3) - (p0 &&& (1 : Int32))).toInt64) * (8 : Int64)) - ((f4 ((((m0_2 p0 p1 p2 p3).toInt8.toInt32).toInt8.toInt32) &&& (255 : Int32))).toInt64)) + (24 : Int64)) - (1 : Int64)))), .val (.int (f5 ((((((((m0_1 p0 p1 p2 p3) - (p0 &&& (1 : Int32))).toInt64) * (8 : Int64)) - ((f4 ((((m0_2 p0 p1 p2 p3).toInt8.toInt32).toInt8.toInt32) &&& (255 : Int32))).toInt64)) + (24 : Int64)) - (1 : Int64)) - ((m0_4 p0 p1 p2 p3).toInt64)))), .val (.int (f5 (((((((((m0_1 p0 p1 p2 p3) - (p0 &&& (1 : Int32))).toInt64) * (8 : Int64)) - ((f4 ((((m0_2 p0 p1 p2 p3).toInt8.toInt32).toInt8.toInt32) &&& (255 : Int32))).toInt64)) + (24 : Int64)) - (1 : Int64)) - ((m0_4 p0 p1 p2 p3).toInt64)) - ((m0_5 p0 p1 p2 p3).toInt64))))] [(.int (0 : Int32))])) (fun t kt => ?_) ?_
    · show Steps p.tables e below (T24.setTop (mkF m 194 #[.val (.int p0), .val (.int p1), .val (.int p2), .val (.int p3), .val (.int (p0 &&& (1 : Int32))), .val (.int (m0_0 p0 p1 p2 p3)), .val (.int (m0_1 p0 p1 p2 p3)), .val (.int (m0_2 p0 p1 p2 p3)), .val (.ref b2), .val (.long (m0_3 p0 p1 p2 p3)), .second, .val (.int (m0_4 p0 p1 p2 p3)), .val (.int (m0_5 p0 p1 p2 p3)), .val (.ref b18), .val (.int (f5 (((((((m0_1 p0 p1 p2 p3) - (p0 &&& (1 : Int32))).toInt64) * (8 : Int64)) - ((f4 ((((m0_2 p0 p1 p2 p3).toInt8.toInt32).toInt8.toInt32) &&& (255 : Int32))).toInt64)) + (24 : Int64)) - (1 : Int64)))), .val (.int (f5 ((((((((m0_1 p0 p1 p2 p3) - (p0 &&& (1 : Int32))).toInt64) * (8 : Int64)) - ((f4 ((((m0_2 p0 p1 p2 p3).toInt8.toInt32).toInt8.toInt32) &&& (255 : Int32))).toInt64)) + (24 : Int64)) - (1 : Int64)) - ((m0_4 p0 p1 p2 p3).toInt64)))), .val (.int (f5 (((((((((m0_1 p0 p1 p2 p3) - (p0 &&& (1 : Int32))).toInt64) * (8 : Int64)) - ((f4 ((((m0_2 p0 p1 p2 p3).toInt8.toInt32).toInt8.toInt32) &&& (255 : Int32))).toInt64)) + (24 : Int64)) - (1 : Int64)) - ((m0_4 p0 p1 p2 p3).toInt64)) - ((m0_5 p0 p1 p2 p3).toInt64))))] [(.int (f5 (((((((m0_1 p0 p1 p2 p3) - (p0 &&& (1 : Int32))).toInt64) * (8 : Int64)) - ((f4 ((((m0_2 p0 p1 p2 p3).toInt8.toInt32).toInt8.toInt32) &&& (255 : Int32))).toInt64)) + (24 : Int64)) - (1 : Int64))))])) _
      refine XS.ifYes X24.here hx rfl (pc0 := 194) (pc' := 243) rfl (hb hby at_194) rfl ((if0 _ _).trans (feq hc194_25).2) (by decide) (by decide) ?_
      show Steps p.tables e below (T24.setTop (mkF m 243 #[.val (.int p0), .val (.int p1), .val (.int p2), .val (.int p3), .val (.int (p0 &&& (1 : Int32))), .val (.int (m0_0 p0 p1 p2 p3)), .val (.int (m0_1 p0 p1 p2 p3)), .val (.int (m0_2 p0 p1 p2 p3)), .val (.ref b2), .val (.long (m0_3 p0 p1 p2 p3)), .second, .val (.int (m0_4 p0 p1 p2 p3)), .val (.int (m0_5 p0 p1 p2 p3)), .val (.ref b18), .val (.int (f5 (((((((m0_1 p0 p1 p2 p3) - (p0 &&& (1 : Int32))).toInt64) * (8 : Int64)) - ((f4 ((((m0_2 p0 p1 p2 p3).toInt8.toInt32).toInt8.toInt32) &&& (255 : Int32))).toInt64)) + (24 : Int64)) - (1 : Int64)))), .val (.int (f5 ((((((((m0_1 p0 p1 p2 p3) - (p0 &&& (1 : Int32))).toInt64) * (8 : Int64)) - ((f4 ((((m0_2 p0 p1 p2 p3).toInt8.toInt32).toInt8.toInt32) &&& (255 : Int32))).toInt64)) + (24 : Int64)) - (1 : Int64)) - ((m0_4 p0 p1 p2 p3).toInt64)))), .val (.int (f5 (((((((((m0_1 p0 p1 p2 p3) - (p0 &&& (1 : Int32))).toInt64) * (8 : Int64)) - ((f4 ((((m0_2 p0 p1 p2 p3).toInt8.toInt32).toInt8.toInt32) &&& (255 : Int32))).toInt64)) + (24 : Int64)) - (1 : Int64)) - ((m0_4 p0 p1 p2 p3).toInt64)) - ((m0_5 p0 p1 p2 p3).toInt64))))] [])) _
      refine XS.iconst X24.here hx rfl (hb hby at_243) ?_
      exact kt
    obtain ⟨fs, hr, hrun, hended, hW, hsame⟩ := X24.leave (v := some (.int (0 : Int32))) (fun h => by rw [Bd.returns] at h; cases h) (BodyLoose.notSynchronized Bd)
    refine ⟨_, _, ?_, hrun, hended, _, _, rfl, ?_, ⟨_, rfl⟩, hW, hsame.mono (by decide) (by decide)⟩
    · show Steps p.tables e below (T24.setTop (mkF m 244 #[.val (.int p0), .val (.int p1), .val (.int p2), .val (.int p3), .val (.int (p0 &&& (1 : Int32))), .val (.int (m0_0 p0 p1 p2 p3)), .val (.int (m0_1 p0 p1 p2 p3)), .val (.int (m0_2 p0 p1 p2 p3)), .val (.ref b2), .val (.long (m0_3 p0 p1 p2 p3)), .second, .val (.int (m0_4 p0 p1 p2 p3)), .val (.int (m0_5 p0 p1 p2 p3)), .val (.ref b18), .val (.int (f5 (((((((m0_1 p0 p1 p2 p3) - (p0 &&& (1 : Int32))).toInt64) * (8 : Int64)) - ((f4 ((((m0_2 p0 p1 p2 p3).toInt8.toInt32).toInt8.toInt32) &&& (255 : Int32))).toInt64)) + (24 : Int64)) - (1 : Int64)))), .val (.int (f5 ((((((((m0_1 p0 p1 p2 p3) - (p0 &&& (1 : Int32))).toInt64) * (8 : Int64)) - ((f4 ((((m0_2 p0 p1 p2 p3).toInt8.toInt32).toInt8.toInt32) &&& (255 : Int32))).toInt64)) + (24 : Int64)) - (1 : Int64)) - ((m0_4 p0 p1 p2 p3).toInt64)))), .val (.int (f5 (((((((((m0_1 p0 p1 p2 p3) - (p0 &&& (1 : Int32))).toInt64) * (8 : Int64)) - ((f4 ((((m0_2 p0 p1 p2 p3).toInt8.toInt32).toInt8.toInt32) &&& (255 : Int32))).toInt64)) + (24 : Int64)) - (1 : Int64)) - ((m0_4 p0 p1 p2 p3).toInt64)) - ((m0_5 p0 p1 p2 p3).toInt64))))] [(.int (0 : Int32))])) _
      exact retN X24 hx (t := .boolean) Bd.returns (by simp) (hb hby at_244) hr
    · show Q0 Z p0 p1 p2 p3 h0 n0 _ T24.heap _
      rw [e24]
      exact ⟨by rw [show f0 p0 p1 p2 p3 = (0 : Int32) from by unfold f0; rw [if_neg hc194_25]], N24⟩
theorem own_left (a b c d : Int32) : ((((((((m0_1 a b c d) - (a &&& (1 : Int32))).toInt64) * (8 : Int64)) - ((f4 ((((m0_2 a b c d).toInt8.toInt32).toInt8.toInt32) &&& (255 : Int32))).toInt64)) + (24 : Int64)) - (1 : Int64)).toInt = (m0_3 a b c d).toInt) ∧ 0 ≤ (m0_3 a b c d).toInt ∧ (m0_3 a b c d).toInt ≤ 31 := by
  obtain ⟨hz, hb0, hb1⟩ := own_nlz _ (own_v a b c d)
  have he := own_e a b c d
  have hn := own_n a b c d
  have hs := own_s a
  rw [hz]
  unfold m0_3
  generalize m0_0 a b c d = n at *
  generalize m0_1 a b c d = en at *
  generalize a &&& (1 : Int32) = s at *
  generalize f1 (m0_2 a b c d) = hb at *
  have k31 : (31 : Int32).toInt = 31 := rfl
  have k1 : (1 : Int32).toInt = 1 := rfl
  have l8 : (8 : Int64).toInt = 8 := rfl
  have l24 : (24 : Int64).toInt = 24 := rfl
  have l1 : (1 : Int64).toInt = 1 := rfl
  have e1 : (en - s).toInt = n.toInt := by have := c_isub en s; have := rng32 (en - s); omega
  have e2 : ((en - s).toInt64 * (8 : Int64)).toInt = n.toInt * 8 := by have h := c_lmul (en - s).toInt64 8; rw [c_i2l, l8, e1] at h; have := rng64 ((en - s).toInt64 * (8 : Int64)); omega
  have e3 : ((31 : Int32) - hb).toInt = 31 - hb.toInt := by have := c_isub 31 hb; have := rng32 ((31 : Int32) - hb); omega
  have e4 : (((en - s).toInt64 * (8 : Int64)) - ((31 : Int32) - hb).toInt64).toInt = n.toInt * 8 - (31 - hb.toInt) := by have h := c_lsub ((en - s).toInt64 * (8 : Int64)) ((31 : Int32) - hb).toInt64; rw [e2, c_i2l, e3] at h; have := rng64 (((en - s).toInt64 * (8 : Int64)) - ((31 : Int32) - hb).toInt64); omega
  have e5 : ((((en - s).toInt64 * (8 : Int64)) - ((31 : Int32) - hb).toInt64) + 24).toInt = n.toInt * 8 - (31 - hb.toInt) + 24 := by have h := c_ladd (((en - s).toInt64 * (8 : Int64)) - ((31 : Int32) - hb).toInt64) 24; rw [e4, l24] at h; have := rng64 ((((en - s).toInt64 * (8 : Int64)) - ((31 : Int32) - hb).toInt64) + 24); omega
  have e6 : (((((en - s).toInt64 * (8 : Int64)) - ((31 : Int32) - hb).toInt64) + 24) - 1).toInt = n.toInt * 8 - (31 - hb.toInt) + 24 - 1 := by have h := c_lsub ((((en - s).toInt64 * (8 : Int64)) - ((31 : Int32) - hb).toInt64) + 24) 1; rw [e5, l1] at h; have := rng64 (((((en - s).toInt64 * (8 : Int64)) - ((31 : Int32) - hb).toInt64) + 24) - 1); omega
  have t1 : (n - 1).toInt = n.toInt - 1 := by have := c_isub n 1; have := rng32 (n - 1); omega
  have t2 : ((8 : Int64) * (n - 1).toInt64).toInt = 8 * (n.toInt - 1) := by have h := c_lmul 8 (n - 1).toInt64; rw [l8, c_i2l, t1] at h; have := rng64 ((8 : Int64) * (n - 1).toInt64); omega
  have t3 : (((8 : Int64) * (n - 1).toInt64) + hb.toInt64).toInt = 8 * (n.toInt - 1) + hb.toInt := by have h := c_ladd ((8 : Int64) * (n - 1).toInt64) hb.toInt64; rw [t2, c_i2l] at h; have := rng64 (((8 : Int64) * (n - 1).toInt64) + hb.toInt64); omega
  rw [e6, t3]
  omega
theorem own_33 (x : Int32) : 0 ≤ ((x &&& (2147483647 : Int32)) % (33 : Int32)).toInt ∧ ((x &&& (2147483647 : Int32)) % (33 : Int32)).toInt < 33 := by
  have h := c_mask x 2147483647 31 (by decide) (by decide)
  have h2 := (c_irem (x &&& 2147483647) 33 33 rfl).1
  have : (2 ^ 31 : Nat) = 2147483648 := by decide
  omega
theorem own_law (a b c d : Int32) : f0 a b c d = 1 := by
  obtain ⟨hl, h0, h1⟩ := own_left a b c d
  have hc : 0 ≤ (m0_4 a b c d).toInt ∧ (m0_4 a b c d).toInt < 33 := own_33 c
  have hd : 0 ≤ (m0_5 a b c d).toInt ∧ (m0_5 a b c d).toInt < 33 := own_33 d
  have l0 : (0 : Int64).toInt = 0 := rfl
  unfold f0 m0_6 m0_7
  generalize ((((((((m0_1 a b c d) - (a &&& (1 : Int32))).toInt64) * (8 : Int64)) - ((f4 ((((m0_2 a b c d).toInt8.toInt32).toInt8.toInt32) &&& (255 : Int32))).toInt64)) + (24 : Int64)) - (1 : Int64))) = L at *
  generalize m0_3 a b c d = t at *
  generalize m0_4 a b c d = x at *
  generalize m0_5 a b c d = y at *
  have s1 : (L - x.toInt64).toInt = L.toInt - x.toInt := by have h := c_lsub L x.toInt64; rw [c_i2l] at h; have := rng64 (L - x.toInt64); omega
  have s2 : (L - x.toInt64 - y.toInt64).toInt = L.toInt - x.toInt - y.toInt := by have h := c_lsub (L - x.toInt64) y.toInt64; rw [c_i2l, s1] at h; have := rng64 (L - x.toInt64 - y.toInt64); omega
  have s3 : (x.toInt64 + y.toInt64).toInt = x.toInt + y.toInt := by have h := c_ladd x.toInt64 y.toInt64; rw [c_i2l, c_i2l] at h; have := rng64 (x.toInt64 + y.toInt64); omega
  unfold f5
  simp only [Int64.lt_iff_toInt_lt, l0, s1, s2, s3, c_i2l]
  have n1 : ¬ L.toInt < 0 := by omega
  rw [if_neg n1, if_pos rfl]
  have e1 : (L.toInt - x.toInt < 0) = (t.toInt < x.toInt) := by rw [hl]; apply propext; omega
  have e2 : (L.toInt - x.toInt - y.toInt < 0) = (t.toInt < x.toInt + y.toInt) := by rw [hl]; apply propext; omega
  simp only [e1, e2, if_true]
set_option maxRecDepth 65536 in
set_option maxHeartbeats 40000000 in
theorem comes_1 {Post : Tables → Env → Array Value → State → Outcome → State → Prop} (hpost : ∀ tb e args s v u, (limb_1_1.after args s (.returned v) u = true ∧ limb_1_2.after args s (.returned v) u = true ∧ True) → FrameEnd s (.returned v) u (Jvm.fieldLocs frame_1_writes args s ++ Jvm.arrayLocs frame_1_arrays args s ++ Jvm.staticLocs frame_1_statics s) 16 128 → Post tb e args s (.returned v) u) :
    ArmFor flags0 classFile x code maxLocals ret World_1 tables_1 room_1 Calls_1 rest_1 Pre_1 Post := by
  intro l hfl _ _ p e ha hc hk s m args below hf hA hF happ hP
  obtain ⟨hcalls, hrest, hpre⟩ := hP
  obtain ⟨-, -, -, hnamed, -, -, -, hat⟩ := (Spec.applies_iff hf).mp happ
  obtain ⟨hg, hn⟩ := and_e (Cond.before_iff.mp (show (Jvm.Cond.and given_1 narrow_1).before args s = true from hpre))
  obtain ⟨gc, gr0⟩ := and_e hg
  obtain ⟨ga0, gr1⟩ := and_e gr0
  obtain ⟨ga1, gr2⟩ := and_e gr1
  obtain ⟨ga2, gr3⟩ := and_e gr2
  obtain ⟨w0, w1, w2, w3, rfl⟩ : ∃ w0 w1 w2 w3 : Value, args = #[w0, w1, w2, w3] := by
    have hs : args.size = 4 := by simpa [Cond.value, given_1] using gc
    obtain ⟨L⟩ := args
    match L, hs with
    | [w0, w1, w2, w3], _ => exact ⟨w0, w1, w2, w3, rfl⟩
  have hw := fun d (hd : d ∈ tables_1) => atoms_spec (ws := Jvm.Cond.code x code maxLocals ret :: tables_1) hat d (List.mem_cons_of_mem _ hd)
  have hfit : Fit s := fun {y c} hc i hi => by
    obtain ⟨ha, rfl⟩ := Array.getElem?_eq_some_iff.mp hc
    have q := List.all_eq_true.mp ((Array.all_eq_true_iff_forall_mem.mp hF) _ (Array.getElem_mem ha)) i (List.mem_range.mpr hi)
    simpa [Array.getElem?_eq_getElem hi] using q
  obtain ⟨i0, ei0⟩ := is_v ga0
  obtain rfl : w0 = (.int i0) := Option.some.inj ei0
  obtain ⟨i1, ei1⟩ := is_v ga1
  obtain rfl : w1 = (.int i1) := Option.some.inj ei1
  obtain ⟨i2, ei2⟩ := is_v ga2
  obtain rfl : w2 = (.int i2) := Option.some.inj ei2
  obtain ⟨i3, ei3⟩ := is_v gr3
  obtain rfl : w3 = (.int i3) := Option.some.inj ei3
  obtain ⟨n, o, h1, h2, h3, _, L, rfl, ⟨rfl, N⟩, hq⟩ := rm0 l s _ hw tables_1 i0 i1 i2 i3 s.heap s.heap.size (Nat.le_refl _)  p e ha hc hk s m _ below hf ((Spec.applies_iff_loose hf).mp happ).1 ⟨rfl, State.Warmed39.refl s, rfl⟩ trivial
  refine ⟨n, _, h1, h2, h3, hpost _ _ _ _ _ _ ⟨Cond.after_iff.mpr rfl, Cond.after_iff.mpr (eq_i res_at (Term.int_eval (1)) (congrArg Value.int (own_law i0 i1 i2 i3))), trivial⟩ ⟨hq.1, hq.2.1, (hq.2.2.sift fun y hy => Or.inr (N y hy)).mono (by decide) (by decide)⟩⟩
theorem main_1_1 : Claimed_1_1 := comes_1 fun _ _ _ _ _ _ h hF => ⟨h.1, hF⟩
theorem main_1_2 : Claimed_1_2 := comes_1 fun _ _ _ _ _ _ h hF => ⟨h.2.1, hF⟩
end Jvm.Pilot.@@N@@
namespace Jvm.Pilot.@@N@@
open Jvm Jvm.ClassFile Sem Op Lib Jvm.Free Jvm.Stand Jvm.Pilot.@@N@@.Jvm.D
/-! MADE BY PROGRAM (witnessworld.py) out of the Statement's table words and the real class files: 14 classes; the members and pool entries that the words name. The judged class is class 1, her method 2. -/
namespace start1
open Jvm.ClassFile
def u (s : String) : CpInfo := .utf8 (stringToUtf16 s)
/-- a pool by its gaps: so many unusable entries, then the entry; so many at the end -/
def gap : Nat → List CpInfo → List CpInfo
  | 0, r => r
  | n + 1, r => .unusable :: gap n r
def poolList (es : List (Nat × CpInfo)) (last : Nat) : List CpInfo := es.foldr (fun e r => gap e.1 (e.2 :: r)) (gap last [])
def pool (es : List (Nat × CpInfo)) (last : Nat) : Array CpInfo := ⟨poolList es last⟩
def fileOf (pool : Array CpInfo) (this : Nat) (attrs : Array Attribute := #[]) (ms : Array MethodInfo := #[]) (fl : Nat := 33) (sup : Nat := 0) (ifs : Array Nat := #[]) (fds : Array FieldInfo := #[]) : ClassFile where
  minorVersion := 0
  majorVersion := 65
  constantPool := pool
  accessFlags := fl
  thisClass := this
  superClass := sup
  interfaces := ifs
  fields := fds
  methods := ms
  attributes := attrs
def plain (name : String) (sup : Option ClassId) : Class where
  name := name
  kind := .ordinary
  loader := none
  accessFlags := 33
  super := sup
  interfaces := #[]
  cf := none
  fields := #[]
  methods := #[]
  instanceTypes := #[]
  staticTypes := #[]
  resolved := #[]
  callSites := []
  init := .initialized
  statics := none
  mirror := none

def pool0 : Array CpInfo := pool [(5, u "<init>"), (0, u "()V"), (1, .class_ 10), (1, u "java/lang/Object")] 113

def k0c0 : Code := { maxStack := 0, maxLocals := 1, code := object_method_1_code, exceptionTable := #[], attributes := #[] }
def k0m0 : Method := { name := "<init>", desc := "()V", sig := { parameters := [], returnType := none }, accessFlags := 1, code := some k0c0 }
/-- java/lang/Object -/
def k0 : Class := { plain "java/lang/Object" none with
  accessFlags := 33
  interfaces := #[]
  cf := some (fileOf pool0 8 #[] #[{ accessFlags := 1, nameIndex := 5, descriptorIndex := 6, attributes := #[] }] 33 0 #[] #[])
  fields := #[]
  methods := #[k0m0]
  instanceTypes := #[]
  staticTypes := #[]
  resolved := Array.replicate 124 none
  statics := none }

def pool1 : Array CpInfo := pool [(2, .class_ 4), (1, u "java/lang/Object"), (0, u "<init>"), (0, u "()V"), (0, .long 8), (1, .methodref 10 11), (0, .class_ 12), (0, .nameAndType 13 14), (0, u "com/example/urial/urial/protocol/BackwardBitReaderOverflowedPinLaw"), (0, u "highBit"), (0, u "(I)I"), (0, .integer 2147483647), (0, .class_ 17), (0, u "com/example/urial/urial/protocol/BackwardBitReader"), (0, .methodref 16 19), (0, .nameAndType 5 20), (0, u "([BII)V"), (0, .methodref 16 22), (0, .nameAndType 23 24), (0, u "overflowed"), (0, u "()Z"), (0, .methodref 16 26), (0, .nameAndType 27 28), (0, u "skip"), (0, u "(I)V"), (3, u "law"), (0, u "(IIII)Z")] 7

def k1m0 : Method := { name := "<init>", desc := "()V", sig := { parameters := [], returnType := none }, accessFlags := 2, code := none }
def k1c1 : Code := { maxStack := 2, maxLocals := 1, code := method_2_code, exceptionTable := #[], attributes := #[] }
def k1m1 : Method := { name := "highBit", desc := "(I)I", sig := { parameters := [.int], returnType := some .int }, accessFlags := 10, code := some k1c1 }
def k1c2 : Code := { maxStack := 5, maxLocals := 17, code := code, exceptionTable := #[], attributes := #[] }
def k1m2 : Method := { name := "law", desc := "(IIII)Z", sig := { parameters := [.int, .int, .int, .int], returnType := some .boolean }, accessFlags := 9, code := some k1c2 }
/-- com/example/urial/urial/protocol/BackwardBitReaderOverflowedPinLaw -/
def k1 : Class := { plain "com/example/urial/urial/protocol/BackwardBitReaderOverflowedPinLaw" (some 0) with
  accessFlags := 49
  interfaces := #[]
  cf := some (fileOf pool1 10 #[] #[{ accessFlags := 2, nameIndex := 5, descriptorIndex := 6, attributes := #[] }, { accessFlags := 10, nameIndex := 13, descriptorIndex := 14, attributes := #[] }, { accessFlags := 9, nameIndex := 32, descriptorIndex := 33, attributes := #[] }] 49 2 #[] #[])
  fields := #[]
  methods := #[k1m0, k1m1, k1m2]
  instanceTypes := #[]
  staticTypes := #[]
  resolved := Array.replicate 41 none
  statics := none }

def pool2 : Array CpInfo := pool [(1, .methodref 2 3), (0, .class_ 4), (0, .nameAndType 5 6), (0, u "java/lang/Object"), (0, u "<init>"), (0, u "()V"), (7, .fieldref 15 16), (0, .class_ 17), (0, .nameAndType 18 19), (0, u "com/example/urial/urial/protocol/BackwardBitReader"), (0, u "bytes"), (0, u "[B"), (0, .fieldref 15 21), (0, .nameAndType 22 23), (0, u "start"), (0, u "I"), (0, .fieldref 15 25), (0, .nameAndType 26 23), (0, u "end"), (0, .long 8), (1, .methodref 30 31), (0, .class_ 32), (0, .nameAndType 33 34), (0, u "java/lang/Integer"), (0, u "numberOfLeadingZeros"), (0, u "(I)I"), (0, .long 24), (1, .fieldref 15 38), (0, .nameAndType 39 40), (0, u "left"), (0, u "J"), (19, u "([BII)V"), (6, u "skip"), (0, u "(I)V"), (0, u "overflowed"), (0, u "()Z")] 3

def k2c0 : Code := { maxStack := 6, maxLocals := 4, code := prog_51_method_1_code, exceptionTable := #[], attributes := #[] }
def k2m0 : Method := { name := "<init>", desc := "([BII)V", sig := { parameters := [(.array .byte), .int, .int], returnType := none }, accessFlags := 0, code := some k2c0 }
def k2c1 : Code := { maxStack := 5, maxLocals := 2, code := prog_51_method_4_code, exceptionTable := #[], attributes := #[] }
def k2m1 : Method := { name := "skip", desc := "(I)V", sig := { parameters := [.int], returnType := none }, accessFlags := 0, code := some k2c1 }
def k2c2 : Code := { maxStack := 4, maxLocals := 1, code := prog_51_method_5_code, exceptionTable := #[], attributes := #[] }
def k2m2 : Method := { name := "overflowed", desc := "()Z", sig := { parameters := [], returnType := some .boolean }, accessFlags := 0, code := some k2c2 }
/-- com/example/urial/urial/protocol/BackwardBitReader -/
def k2 : Class := { plain "com/example/urial/urial/protocol/BackwardBitReader" (some 0) with
  accessFlags := 48
  interfaces := #[]
  cf := some (fileOf pool2 15 #[] #[{ accessFlags := 0, nameIndex := 5, descriptorIndex := 60, attributes := #[] }, { accessFlags := 0, nameIndex := 67, descriptorIndex := 68, attributes := #[] }, { accessFlags := 0, nameIndex := 69, descriptorIndex := 70, attributes := #[] }] 48 2 #[] #[{ accessFlags := 18, nameIndex := 18, descriptorIndex := 19, attributes := #[] }, { accessFlags := 18, nameIndex := 22, descriptorIndex := 23, attributes := #[] }, { accessFlags := 18, nameIndex := 26, descriptorIndex := 23, attributes := #[] }, { accessFlags := 2, nameIndex := 39, descriptorIndex := 40, attributes := #[] }])
  fields := #[{ name := "bytes", type := (.array .byte), accessFlags := 18, slot := 0, constantValue := 0 }, { name := "start", type := .int, accessFlags := 18, slot := 1, constantValue := 0 }, { name := "end", type := .int, accessFlags := 18, slot := 2, constantValue := 0 }, { name := "left", type := .long, accessFlags := 2, slot := 3, constantValue := 0 }]
  methods := #[k2m0, k2m1, k2m2]
  instanceTypes := #[(.array .byte), .int, .int, .long]
  staticTypes := #[]
  resolved := Array.replicate 74 none
  statics := none }

def pool3 : Array CpInfo := pool [(1, .class_ 2), (0, u "java/io/Serializable"), (0, .class_ 4), (0, u "java/lang/Object")] 2

/-- java/io/Serializable -/
def k3 : Class := { plain "java/io/Serializable" (some 0) with
  accessFlags := 1537
  interfaces := #[]
  cf := some (fileOf pool3 1 #[] #[] 1537 3 #[] #[])
  fields := #[]
  methods := #[]
  instanceTypes := #[]
  staticTypes := #[]
  resolved := Array.replicate 7 none
  statics := none }

def pool4 : Array CpInfo := pool [(2, .class_ 4), (1, u "java/lang/Object"), (0, u "<init>"), (0, u "()V"), (1, .class_ 10), (1, u "java/lang/Number"), (2, .class_ 14), (0, u "java/io/Serializable"), (0, u "serialVersionUID"), (0, u "J")] 20

def k4m0 : Method := { name := "<init>", desc := "()V", sig := { parameters := [], returnType := none }, accessFlags := 1, code := none }
/-- java/lang/Number -/
def k4 : Class := { plain "java/lang/Number" (some 0) with
  accessFlags := 1057
  interfaces := #[3]
  cf := some (fileOf pool4 8 #[] #[{ accessFlags := 1, nameIndex := 5, descriptorIndex := 6, attributes := #[] }] 1057 2 #[13] #[{ accessFlags := 26, nameIndex := 15, descriptorIndex := 16, attributes := #[] }])
  fields := #[{ name := "serialVersionUID", type := .long, accessFlags := 26, slot := 0, constantValue := 0 }]
  methods := #[k4m0]
  instanceTypes := #[]
  staticTypes := #[.long]
  resolved := Array.replicate 37 none
  statics := none }

def pool5 : Array CpInfo := pool [(1, .class_ 2), (0, u "java/lang/Comparable"), (0, .class_ 4), (0, u "java/lang/Object")] 7

/-- java/lang/Comparable -/
def k5 : Class := { plain "java/lang/Comparable" (some 0) with
  accessFlags := 1537
  interfaces := #[]
  cf := some (fileOf pool5 1 #[] #[] 1537 3 #[] #[])
  fields := #[]
  methods := #[]
  instanceTypes := #[]
  staticTypes := #[]
  resolved := Array.replicate 12 none
  statics := none }

def pool6 : Array CpInfo := pool [(1, .class_ 2), (0, u "java/lang/constant/Constable"), (0, .class_ 4), (0, u "java/lang/Object")] 6

/-- java/lang/constant/Constable -/
def k6 : Class := { plain "java/lang/constant/Constable" (some 0) with
  accessFlags := 1537
  interfaces := #[]
  cf := some (fileOf pool6 1 #[] #[] 1537 3 #[] #[])
  fields := #[]
  methods := #[]
  instanceTypes := #[]
  staticTypes := #[]
  resolved := Array.replicate 11 none
  statics := none }

def pool7 : Array CpInfo := pool [(1, .class_ 2), (0, u "java/lang/constant/ConstantDesc"), (0, .class_ 4), (0, u "java/lang/Object")] 32

/-- java/lang/constant/ConstantDesc -/
def k7 : Class := { plain "java/lang/constant/ConstantDesc" (some 0) with
  accessFlags := 1537
  interfaces := #[]
  cf := some (fileOf pool7 1 #[] #[] 1537 3 #[] #[])
  fields := #[]
  methods := #[]
  instanceTypes := #[]
  staticTypes := #[]
  resolved := Array.replicate 37 none
  statics := none }

def pool8 : Array CpInfo := pool [(1, .class_ 2), (0, u "java/lang/Integer"), (16, u "digits"), (0, u "[C"), (32, u "numberOfLeadingZeros"), (0, u "(I)I"), (30, u "DigitOnes"), (0, u "[B"), (2, u "DigitTens"), (99, .class_ 190), (0, u "java/lang/Integer$IntegerCache"), (3, u "I"), (8, .class_ 204), (0, u "java/lang/Number"), (2, u "value"), (56, .integer 65536), (37, u "TYPE"), (0, u "Ljava/lang/Class;"), (0, .class_ 305), (0, u "java/lang/Comparable"), (0, .class_ 307), (0, u "java/lang/constant/Constable"), (0, .class_ 309), (0, u "java/lang/constant/ConstantDesc"), (0, u "MIN_VALUE"), (1, u "MAX_VALUE"), (3, u "SIZE"), (1, u "BYTES"), (1, u "serialVersionUID"), (0, u "J")] 131

def k8c0 : Code := { maxStack := 3, maxLocals := 2, code := jdk_33_method_47_code, exceptionTable := #[], attributes := #[] }
def k8m0 : Method := { name := "numberOfLeadingZeros", desc := "(I)I", sig := { parameters := [.int], returnType := some .int }, accessFlags := 9, code := some k8c0 }
/-- java/lang/Integer -/
def k8 : Class := { plain "java/lang/Integer" (some 4) with
  accessFlags := 49
  interfaces := #[5, 6, 7]
  cf := some (fileOf pool8 1 #[.nestMembers #[189]] #[{ accessFlags := 9, nameIndex := 53, descriptorIndex := 54, attributes := #[] }] 49 203 #[304, 306, 308] #[{ accessFlags := 25, nameIndex := 310, descriptorIndex := 194, attributes := #[] }, { accessFlags := 25, nameIndex := 312, descriptorIndex := 194, attributes := #[] }, { accessFlags := 25, nameIndex := 302, descriptorIndex := 303, attributes := #[] }, { accessFlags := 24, nameIndex := 19, descriptorIndex := 20, attributes := #[] }, { accessFlags := 24, nameIndex := 89, descriptorIndex := 86, attributes := #[] }, { accessFlags := 24, nameIndex := 85, descriptorIndex := 86, attributes := #[] }, { accessFlags := 18, nameIndex := 207, descriptorIndex := 194, attributes := #[] }, { accessFlags := 25, nameIndex := 316, descriptorIndex := 194, attributes := #[] }, { accessFlags := 25, nameIndex := 318, descriptorIndex := 194, attributes := #[] }, { accessFlags := 26, nameIndex := 320, descriptorIndex := 321, attributes := #[] }])
  fields := #[{ name := "MIN_VALUE", type := .int, accessFlags := 25, slot := 0, constantValue := 0 }, { name := "MAX_VALUE", type := .int, accessFlags := 25, slot := 1, constantValue := 0 }, { name := "TYPE", type := (.object "java/lang/Class"), accessFlags := 25, slot := 2, constantValue := 0 }, { name := "digits", type := (.array .char), accessFlags := 24, slot := 3, constantValue := 0 }, { name := "DigitTens", type := (.array .byte), accessFlags := 24, slot := 4, constantValue := 0 }, { name := "DigitOnes", type := (.array .byte), accessFlags := 24, slot := 5, constantValue := 0 }, { name := "value", type := .int, accessFlags := 18, slot := 0, constantValue := 0 }, { name := "SIZE", type := .int, accessFlags := 25, slot := 6, constantValue := 0 }, { name := "BYTES", type := .int, accessFlags := 25, slot := 7, constantValue := 0 }, { name := "serialVersionUID", type := .long, accessFlags := 26, slot := 8, constantValue := 0 }]
  methods := #[k8m0]
  instanceTypes := #[.int]
  staticTypes := #[.int, .int, (.object "java/lang/Class"), (.array .char), (.array .byte), (.array .byte), .int, .int, .long]
  resolved := Array.replicate 453 none
  statics := none }

def pool9 : Array CpInfo := pool [(1, u "java/lang/Cloneable"), (0, .class_ 1), (0, u "java/lang/Object"), (0, .class_ 3)] 3

/-- java/lang/Cloneable -/
def k9 : Class := { plain "java/lang/Cloneable" (some 0) with
  accessFlags := 1537
  interfaces := #[]
  cf := some (fileOf pool9 2 #[] #[] 1537 4 #[] #[])
  fields := #[]
  methods := #[]
  instanceTypes := #[]
  staticTypes := #[]
  resolved := Array.replicate 8 none
  statics := none }

/-- the primitive byte -/
def k10 : Class := { plain "byte" none with kind := .primitive 'B', accessFlags := 0x411 }
/-- [B -/
def k11 : Class := { plain "[B" (some 0) with kind := .array 10 .byte, interfaces := #[9, 3], accessFlags := 1041 }

/-- the primitive int -/
def k12 : Class := { plain "int" none with kind := .primitive 'I', accessFlags := 0x411 }
/-- [I -/
def k13 : Class := { plain "[I" (some 0) with kind := .array 12 .int, interfaces := #[9, 3], accessFlags := 1041 }

def heap : Heap := #[]
def classes : Array Class := #[k0, k1, k2, k3, k4, k5, k6, k7, k8, k9, k10, k11, k12, k13]
def interned : List (Array UInt16 × Addr) := []
def slotsUsed : Nat := 0
def theMethod : MethodId := ⟨1, 2⟩
def args0 : Array Value := #[.int 5, .int 5, .int 5, .int 5]
def aboutOver (below : List Frame) : State where
  vm := { classes := classes, interned := interned.toArray }
  heap := heap
  slotsUsed := slotsUsed
  threads := #[{ frames := .invoking theMethod args0 :: below }]
def below0 : List Frame := [.native { method := ⟨0, 0⟩, args := #[] }]
def about1 : State := aboutOver below0
def p0 : Program := .bare "" "" ""
def e0 : Env := launch0.env 0 0 0
theorem w_frames : about1.frames = Frame.invoking theMethod args0 :: below0 := rfl
set_option maxRecDepth 65536 in
theorem w_args : argsFit about1.vm theMethod args0 = true := by decide +kernel
set_option maxRecDepth 65536 in
theorem w_heap : heapFits about1 = true := by decide +kernel
set_option maxRecDepth 65536 in
theorem w_runnable : about1.curStatus? = some .runnable := by decide +kernel
set_option maxRecDepth 65536 in
theorem w_alone : about1.alone = true := by decide +kernel
set_option maxRecDepth 65536 in
theorem w_named : about1.methodNamed? x = some theMethod := by decide +kernel
set_option maxRecDepth 65536 in
theorem w_hears : about1.hears theMethod below0 = true := by decide +kernel
set_option maxRecDepth 65536 in
theorem w_ripe : about1.ripe theMethod args0 below0 = true := by decide +kernel
theorem w_running : about1.status = .running := rfl
set_option maxRecDepth 65536 in
theorem w_room : about1.hasRoom e0.platform room_1 = true :=
  launch0.hasRoom_least _ room_1 (by decide +kernel) (by decide +kernel) (by decide +kernel) (by decide +kernel) (by decide +kernel) (by decide +kernel)
theorem allAtoms_all (ts : List Jvm.Cond) (a : Array Jvm.Value) (st : Jvm.State) : (allAtoms ts).before a st = ts.all (fun c => c.before a st) := by
  induction ts with
  | nil => rfl
  | cons c t ih =>
    show (Jvm.Cond.and c (allAtoms t)).before a st = _
    rw [Jvm.Cond.before_and, ih, List.all_cons]
def words1 : List Jvm.Cond := Jvm.Cond.code x code maxLocals ret :: tables_1
/-- a 'code' word, met by the world's own term for the bytes: nothing is compared byte by byte -/
theorem code_word {y : MethodName} {bytes : ByteArray} {mx : Nat} {rt : Option FieldType} {a : Array Value} {s : State} {m : MethodId} {meth : Method} {c : Code} (h1 : s.methodNamed? y = some m) (h2 : s.vm.method? m = some meth) (h3 : meth.code = some c) (h4 : c.code = bytes)
    (h5 : (c.maxLocals == mx && c.exceptionTable.isEmpty && decide (c.maxStack ≤ mostOperands) && decide (meth.sig.returnType = rt) && !meth.locks && decide (parseMethodDescriptor y.desc = some meth.sig)) = true) : (Jvm.Cond.code y bytes mx rt).before a s = true := by
  simp only [Bool.and_eq_true, beq_iff_eq, Bool.not_eq_true', decide_eq_true_eq] at h5
  obtain ⟨⟨⟨⟨⟨g1, g2⟩, g3⟩, g4⟩, g5⟩, g6⟩ := h5
  simp [Cond.before, Cond.holds, Cond.value, h1, h2, h3, h4, g1, g2, g3, g4, g5, g6]
def isCode : Jvm.Cond → Bool
  | .code _ _ _ _ => true
  | _ => false
theorem all_split {L : List Jvm.Cond} {P : Jvm.Cond → Bool} (h1 : L.all (fun c => isCode c || P c) = true) (h2 : ∀ c ∈ L.filter isCode, P c = true) : L.all P = true := by
  refine List.all_eq_true.mpr fun c hc => ?_
  have h := List.all_eq_true.mp h1 c hc
  rcases Bool.eq_false_or_eq_true (isCode c) with hi | hi
  · exact h2 c (List.mem_filter.mpr ⟨hc, hi⟩)
  · simpa [hi] using h
set_option maxRecDepth 65536 in
theorem w_c0 : (Jvm.Cond.code x code maxLocals ret).before args0 about1 = true := code_word (m := ⟨1, 2⟩) (meth := k1m2) (c := k1c2) (by decide +kernel) rfl rfl rfl (by decide +kernel)
set_option maxRecDepth 65536 in
theorem w_c1 : (Jvm.Cond.code ({ cls := "com/example/urial/urial/protocol/BackwardBitReaderOverflowedPinLaw", name := "highBit", desc := "(I)I" } : Jvm.MethodName) method_2_code (1 : Nat) (Option.some Jvm.ClassFile.FieldType.int)).before args0 about1 = true := code_word (m := ⟨1, 1⟩) (meth := k1m1) (c := k1c1) (by decide +kernel) rfl rfl rfl (by decide +kernel)
set_option maxRecDepth 65536 in
theorem w_c2 : (Jvm.Cond.code ({ cls := "com/example/urial/urial/protocol/BackwardBitReader", name := "<init>", desc := "([BII)V" } : Jvm.MethodName) prog_51_method_1_code (4 : Nat) (Option.none : Option Jvm.ClassFile.FieldType)).before args0 about1 = true := code_word (m := ⟨2, 0⟩) (meth := k2m0) (c := k2c0) (by decide +kernel) rfl rfl rfl (by decide +kernel)
set_option maxRecDepth 65536 in
theorem w_c3 : (Jvm.Cond.code ({ cls := "java/lang/Object", name := "<init>", desc := "()V" } : Jvm.MethodName) object_method_1_code (1 : Nat) (Option.none : Option Jvm.ClassFile.FieldType)).before args0 about1 = true := code_word (m := ⟨0, 0⟩) (meth := k0m0) (c := k0c0) (by decide +kernel) rfl rfl rfl (by decide +kernel)
set_option maxRecDepth 65536 in
theorem w_c4 : (Jvm.Cond.code ({ cls := "java/lang/Integer", name := "numberOfLeadingZeros", desc := "(I)I" } : Jvm.MethodName) jdk_33_method_47_code (2 : Nat) (Option.some Jvm.ClassFile.FieldType.int)).before args0 about1 = true := code_word (m := ⟨8, 0⟩) (meth := k8m0) (c := k8c0) (by decide +kernel) rfl rfl rfl (by decide +kernel)
set_option maxRecDepth 65536 in
theorem w_c5 : (Jvm.Cond.code ({ cls := "com/example/urial/urial/protocol/BackwardBitReader", name := "overflowed", desc := "()Z" } : Jvm.MethodName) prog_51_method_5_code (1 : Nat) (Option.some Jvm.ClassFile.FieldType.boolean)).before args0 about1 = true := code_word (m := ⟨2, 2⟩) (meth := k2m2) (c := k2c2) (by decide +kernel) rfl rfl rfl (by decide +kernel)
set_option maxRecDepth 65536 in
theorem w_c6 : (Jvm.Cond.code ({ cls := "com/example/urial/urial/protocol/BackwardBitReader", name := "skip", desc := "(I)V" } : Jvm.MethodName) prog_51_method_4_code (2 : Nat) (Option.none : Option Jvm.ClassFile.FieldType)).before args0 about1 = true := code_word (m := ⟨2, 1⟩) (meth := k2m1) (c := k2c1) (by decide +kernel) rfl rfl rfl (by decide +kernel)
def codes1 : List Jvm.Cond := [Jvm.Cond.code x code maxLocals ret, Jvm.Cond.code ({ cls := "com/example/urial/urial/protocol/BackwardBitReaderOverflowedPinLaw", name := "highBit", desc := "(I)I" } : Jvm.MethodName) method_2_code (1 : Nat) (Option.some Jvm.ClassFile.FieldType.int), Jvm.Cond.code ({ cls := "com/example/urial/urial/protocol/BackwardBitReader", name := "<init>", desc := "([BII)V" } : Jvm.MethodName) prog_51_method_1_code (4 : Nat) (Option.none : Option Jvm.ClassFile.FieldType), Jvm.Cond.code ({ cls := "java/lang/Object", name := "<init>", desc := "()V" } : Jvm.MethodName) object_method_1_code (1 : Nat) (Option.none : Option Jvm.ClassFile.FieldType), Jvm.Cond.code ({ cls := "java/lang/Integer", name := "numberOfLeadingZeros", desc := "(I)I" } : Jvm.MethodName) jdk_33_method_47_code (2 : Nat) (Option.some Jvm.ClassFile.FieldType.int), Jvm.Cond.code ({ cls := "com/example/urial/urial/protocol/BackwardBitReader", name := "overflowed", desc := "()Z" } : Jvm.MethodName) prog_51_method_5_code (1 : Nat) (Option.some Jvm.ClassFile.FieldType.boolean), Jvm.Cond.code ({ cls := "com/example/urial/urial/protocol/BackwardBitReader", name := "skip", desc := "(I)V" } : Jvm.MethodName) prog_51_method_4_code (2 : Nat) (Option.none : Option Jvm.ClassFile.FieldType)]
set_option maxRecDepth 65536 in
theorem codes_eq : words1.filter isCode = codes1 := rfl
theorem w_codes : ∀ c ∈ words1.filter isCode, c.before args0 about1 = true := by
  rw [codes_eq]
  intro c hc
  simp only [codes1, List.mem_cons, List.not_mem_nil, or_false] at hc
  rcases hc with rfl | rfl | rfl | rfl | rfl | rfl | rfl
  · exact w_c0
  · exact w_c1
  · exact w_c2
  · exact w_c3
  · exact w_c4
  · exact w_c5
  · exact w_c6
set_option maxRecDepth 65536 in
theorem w_t1 : (words1.take 24).all (fun c => isCode c || c.before args0 about1) = true := by decide +kernel
set_option maxRecDepth 65536 in
theorem w_t2 : (words1.drop 24).all (fun c => isCode c || c.before args0 about1) = true := by decide +kernel
theorem w_tables : (allAtoms (Jvm.Cond.code x code maxLocals ret :: tables_1)).before args0 about1 = true := by
  rw [allAtoms_all]
  show words1.all (fun c => c.before args0 about1) = true
  refine all_split ?_ w_codes
  rw [← List.take_append_drop 24 words1, List.all_append, w_t1, w_t2]
  rfl
set_option maxRecDepth 65536 in
theorem w_case : (Jvm.Cond.and given_1 narrow_1).before args0 about1 = true := by decide +kernel
theorem w_applies : (headSpec (Jvm.Cond.code x code maxLocals ret :: tables_1) room_1).applies x e0.platform about1 = true :=
  (Spec.applies_iff w_frames).mpr ⟨w_running, w_runnable, w_alone, w_named, w_hears, w_ripe, w_room, w_tables⟩
theorem atStart : AtStart classFile x code maxLocals ret World_1 tables_1 room_1 Calls_1 rest_1 Pre_1 launch0 p0 e0 about1 theMethod args0 below0 :=
  ⟨lists_1, trivial, launch0.admits_env _ _ _, launch0.least_env, fairChoices_fair.cas, fairChoices_fair.clock, w_frames, w_args, w_heap, w_applies, trivial, trivial, w_case⟩
end start1
theorem witness_1 : WitnessClaimed_1 := ⟨start1.p0, start1.e0, start1.about1, start1.theMethod, start1.args0, start1.below0, start1.atStart⟩
end Jvm.Pilot.@@N@@
