import JvmDerived
import JvmDerived.Pilot.@@N@@Statement
import JvmDerived.Pilot.@@N@@Code
set_option linter.unusedVariables false
set_option linter.unusedSimpArgs false
namespace Jvm.FP.Core
def own_sh (k : Int) : Datum → Datum
  | .fin s c q => .fin s c (q + k)
  | d => d
theorem own_round {i : Int} {d : Datum} (h : Whole i (own_sh 10 d)) (hi : i.natAbs ≤ 2 ^ 53) : Whole i (own_sh 10 (round b64 d)) := by
  cases d with
  | nan => exact h.elim
  | inf => exact h.elim
  | fin s c q =>
    have h' : Whole i (.fin s c (q + 10)) := h
    obtain ⟨c', q', hfit, hv⟩ := natFit good_b64 wide_b64 s (n := i.natAbs) hi
    have hw : Whole i (round b64 (.fin s c (q + 10))) := whole_round good_b64 wide_b64 hi h'
    rw [round_whole h', roundRatio_exact good_b64 (by decide) hfit hv] at hw
    have hm : b64.qmin = -1074 := by decide
    have hM : b64.qmax = 971 := by decide
    have ht : b64.tails = 2 ^ 52 := by decide
    have hp : b64.p = 53 := rfl
    have hn := whole_natAbs h'
    by_cases h0 : i.natAbs = 0
    · have hc : c = 0 := by
        rw [h0, Nat.zero_mul] at hn
        rcases Nat.mul_eq_zero.mp hn with z | z
        · exact z
        · exact absurd z (Nat.ne_of_gt (Nat.two_pow_pos _))
      have hi0 : i = 0 := Int.natAbs_eq_zero.mp h0
      subst hc hi0
      show Whole 0 (own_sh 10 (roundRatio b64 s 0 1 q))
      unfold roundRatio
      rw [if_pos rfl]
      show signed s (0 * _) = 0 * _
      rw [Nat.zero_mul, Int.zero_mul]
      cases s <;> rfl
    · obtain ⟨f1, f2, f3, f4⟩ := hfit
      rw [hp] at f1
      rw [hm] at f2
      rw [hM] at f3
      have hq : -53 < q' := by
        by_cases hneg : q' < 0
        · rw [show (q' - 0).toNat = 0 by omega, Nat.pow_zero, Nat.mul_one, Nat.mul_one, show (0 - q').toNat = (-q').toNat by omega] at hv
          have l1 : 2 ^ (-q').toNat ≤ i.natAbs * 2 ^ (-q').toNat := Nat.le_mul_of_pos_left _ (by omega)
          have l2 : 2 ^ (-q').toNat < 2 ^ 53 := by omega
          have := (Nat.pow_lt_pow_iff_right (by decide : 1 < 2)).mp l2
          omega
        · omega
      have htl : 2 ^ 52 ≤ c' := by
        rcases f4 with f4 | f4
        · rw [hm] at f4; omega
        · rw [ht] at f4; exact f4
      have hfit2 : fits b64 (.fin s c' (q' - 10)) := by
        refine ⟨by rw [hp]; exact f1, by rw [hm]; omega, by rw [hM]; omega, Or.inr (by rw [ht]; exact htl)⟩
      have e1 : round b64 (.fin s c q) = roundRatio b64 s i.natAbs 1 (-10) := by
        refine roundRatio_congr (by decide) (by decide) ?_
        rw [show (q - -10).toNat = (q + 10).toNat by omega, show (-10 - q).toNat = (-(q + 10)).toNat by omega]
        simpa using hn
      have e2 : roundRatio b64 s i.natAbs 1 (-10) = .fin s c' (q' - 10) := by
        refine roundRatio_exact good_b64 (by decide) hfit2 ?_
        rw [show (-10 - (q' - 10)).toNat = (0 - q').toNat by omega, show (q' - 10 - -10).toNat = (q' - 0).toNat by omega]
        exact hv
      rw [e1, e2]
      show Whole i (.fin s c' (q' - 10 + 10))
      rw [show q' - 10 + 10 = q' by omega]
      exact hw
def DDy (i : Int) (a : UInt64) : Prop := Whole i (own_sh 10 (val64 a))
theorem own_mul {i j : Int} {a b : UInt64} (ha : DDy i a) (hb : DInt j b) (h : (i * j).natAbs ≤ 2 ^ 53) : DDy (i * j) (dmul a b) := by
  unfold DDy
  rw [val64_dmul]
  refine own_round ?_ h
  have hp := whole_product ha hb
  unfold DDy at ha
  unfold DInt at hb
  revert ha hb hp
  cases val64 a <;> cases val64 b <;> intro ha hb hp <;> first | exact ha.elim | exact hb.elim | skip
  rename_i s c q t d r
  show Whole (i * j) (.fin (s != t) (c * d) (q + r + 10))
  have hp' : Whole (i * j) (.fin (s != t) (c * d) (q + 10 + r)) := hp
  rw [show q + r + 10 = q + 10 + r by omega]
  exact hp'
theorem own_add {i j : Int} {a b : UInt64} (ha : DDy i a) (hb : DDy j b) (h : (i + j).natAbs ≤ 2 ^ 53) : DDy (i + j) (dadd a b) := by
  unfold DDy
  rw [val64_dadd]
  refine own_round ?_ h
  have hp := whole_sum ha hb
  unfold DDy at ha hb
  revert ha hb hp
  cases val64 a <;> cases val64 b <;> intro ha hb hp <;> first | exact ha.elim | exact hb.elim | skip
  rename_i s c q t d r
  have e : min (q + 10) (r + 10) = min q r + 10 := by omega
  have u : sumUnits s c (q + 10) t d (r + 10) (min q r + 10) = sumUnits s c q t d r (min q r) := by
    unfold sumUnits inUnits
    rw [show q + 10 - (min q r + 10) = q - min q r by omega, show r + 10 - (min q r + 10) = r - min q r by omega]
  have hp' : Whole (i + j) (.fin (sumSign s t (sumUnits s c (q + 10) t d (r + 10) (min (q + 10) (r + 10)))) (sumUnits s c (q + 10) t d (r + 10) (min (q + 10) (r + 10))).natAbs (min (q + 10) (r + 10))) := hp
  rw [e, u] at hp'
  exact hp'
theorem own_up {i : Int} {a : UInt64} (ha : DInt i a) : DDy (i * 1024) a := by
  have hk : Whole 1024 (.fin false 1 10) := by
    show signed false (1 * 2 ^ (10 : Int).toNat) = 1024 * ((2 ^ (-(10 : Int)).toNat : Nat) : Int)
    decide
  have hp := whole_product ha hk
  unfold DInt at ha
  unfold DDy
  revert ha hp
  cases val64 a <;> intro ha hp <;> first | exact ha.elim | skip
  rename_i s c q
  have hp' : Whole (i * 1024) (.fin (s != false) (c * 1) (q + 10)) := hp
  rw [Nat.mul_one, show (s != false) = s by cases s <;> rfl] at hp'
  exact hp'
theorem own_k1024 : val64 4652218415073722368 = .fin false (2 ^ 52) (-42) := by decide +kernel
theorem own_div {i : Int} {a : UInt64} (ha : DInt i a) (h : i.natAbs ≤ 2 ^ 53) : DDy i (ddiv a 4652218415073722368) := by
  unfold DDy
  rw [val64_ddiv, own_k1024]
  unfold DInt at ha
  revert ha
  cases val64 a <;> intro ha <;> first | exact ha.elim | skip
  rename_i s c q
  have e : quotient b64 (.fin s c q) (.fin false (2 ^ 52) (-42)) = round b64 (.fin s c (q - 10)) := by
    show quotient b64 (.fin s c q) (.fin false (2 ^ 52) (-42)) = roundRatio b64 s c 1 (q - 10)
    simp only [quotient]
    rw [if_neg (by decide), show (s != false) = s by cases s <;> rfl]
    refine roundRatio_congr (Nat.two_pow_pos _) (by decide) ?_
    rw [show (q - -42 - (q - 10)).toNat = 52 by omega, show (q - 10 - (q - -42)).toNat = 0 by omega, Nat.pow_zero, Nat.mul_one, Nat.mul_one]
  rw [e]
  refine own_round ?_ h
  show Whole i (.fin s c (q - 10 + 10))
  rw [show q - 10 + 10 = q by omega]
  exact ha
theorem own_cmp {i j : Int} {a b : UInt64} (ha : DDy i a) (hb : DDy j b) : dcmp a b = some (compare i j) := by
  have ho := order_whole ha hb
  rw [← ho]
  show order (val64 a) (val64 b) = _
  unfold DDy at ha hb
  revert ha hb
  cases val64 a <;> cases val64 b <;> intro ha hb <;> first | exact ha.elim | exact hb.elim | skip
  rename_i s c q t d r
  show some (compare (signed s (inUnits c q (min q r))) (signed t (inUnits d r (min q r)))) = some (compare (signed s (inUnits c (q + 10) (min (q + 10) (r + 10)))) (signed t (inUnits d (r + 10) (min (q + 10) (r + 10)))))
  have e : min (q + 10) (r + 10) = min q r + 10 := by omega
  unfold inUnits
  rw [e, show q + 10 - (min q r + 10) = q - min q r by omega, show r + 10 - (min q r + 10) = r - min q r by omega]
theorem own_nn {i : Int} {a : UInt64} (ha : DDy i a) : val64 a ≠ .nan := by
  intro h
  unfold DDy at ha
  rw [h] at ha
  exact ha
end Jvm.FP.Core

namespace Jvm.RoadKit
open Sem ClassFile Op Lib Jvm.Stand Jvm.Free Jvm.LawKit
section New
variable {p : Program} {l : Launch} {e : Env} {R : Room} {s : State} {m : MethodId} {args : Array Value} {below : List Frame} {meth : Method} {c : Code} {T : State} {locs : List Loc} {cells slots : Nat}
theorem retI (X : Stand p l e R s m args below meth c T locs cells slots) (hx : p.tables.exec = Jvm.exec) {pc : Nat} {Ls : Array Slot} {z : Int32} {rest : List Value} (hret : meth.sig.returnType = some .int) (hd : decode c.code pc = .ok (.ireturn, 1)) {fs : List Frame}
    (hl : ∀ (f : JFrame) (acts : List Action), f.method = m → f.locked = none → f.entered = [] → (doReturn e (T.setTop f) acts (some (.int z))).1 = T.setFrames fs) : Steps p.tables e below (T.setTop (mkF m pc Ls (.int z :: rest))) (T.setFrames fs) :=
  retOut X hx hret rfl (Or.inl ⟨rfl, Or.inl rfl, z, rfl⟩) hd hl
theorem own_retL (X : Stand p l e R s m args below meth c T locs cells slots) (hx : p.tables.exec = Jvm.exec) {pc : Nat} {Ls : Array Slot} {z : Int64} {rest : List Value} (hret : meth.sig.returnType = some .long) (hd : decode c.code pc = .ok (.lreturn, 1)) {fs : List Frame}
    (hl : ∀ (f : JFrame) (acts : List Action), f.method = m → f.locked = none → f.entered = [] → (doReturn e (T.setTop f) acts (some (.long z))).1 = T.setFrames fs) : Steps p.tables e below (T.setTop (mkF m pc Ls (.long z :: rest))) (T.setFrames fs) :=
  retOut X hx hret rfl (Or.inr (Or.inl ⟨rfl, rfl, z, rfl⟩)) hd hl
theorem own_retD (X : Stand p l e R s m args below meth c T locs cells slots) (hx : p.tables.exec = Jvm.exec) {pc : Nat} {Ls : Array Slot} {z : UInt64} {rest : List Value} (hret : meth.sig.returnType = some .double) (hd : decode c.code pc = .ok (.dreturn, 1)) {fs : List Frame}
    (hl : ∀ (f : JFrame) (acts : List Action), f.method = m → f.locked = none → f.entered = [] → (doReturn e (T.setTop f) acts (some (.double z))).1 = T.setFrames fs) : Steps p.tables e below (T.setTop (mkF m pc Ls (.double z :: rest))) (T.setFrames fs) :=
  retOut X hx hret rfl (Or.inr (Or.inr (Or.inl ⟨rfl, rfl, z, rfl⟩))) hd hl
theorem own_retA (X : Stand p l e R s m args below meth c T locs cells slots) (hx : p.tables.exec = Jvm.exec) {pc : Nat} {Ls : Array Slot} {w : Value} {t : FieldType} {rest : List Value} (hret : meth.sig.returnType = some t) (ht : t.isReference = true) (hw : w.isRef = true) (hd : decode c.code pc = .ok (.areturn, 1)) {fs : List Frame}
    (hl : ∀ (f : JFrame) (acts : List Action), f.method = m → f.locked = none → f.entered = [] → (doReturn e (T.setTop f) acts (some w)).1 = T.setFrames fs) : Steps p.tables e below (T.setTop (mkF m pc Ls (w :: rest))) (T.setFrames fs) :=
  retOut X hx hret (by cases t <;> first | (cases ht; done) | (cases w <;> first | rfl | cases hw)) (Or.inr (Or.inr (Or.inr (Or.inr ⟨rfl, ht, hw⟩)))) hd hl
theorem own_back {tb : Tables} {e : Env} {below : List Frame} {a b : State} {P : State → Outcome → Prop} (h : ∀ t, Steps tb e below b t → Steps tb e below a t) (k : ∃ t o, Steps tb e below b t ∧ P t o) : ∃ t o, Steps tb e below a t ∧ P t o := by
  obtain ⟨t, o, k1, k2⟩ := k
  exact ⟨t, o, h t k1, k2⟩
theorem own_sta_keep {Z : State} {h h' : Heap} {C n d : String} {v : Value} (F : Sta Z h C n d v) (K : Keep h h' []) : Sta Z h' C n d v := by
  obtain ⟨cf, i, k, f, st, cell, h1, h2, h3, h4, h5, r⟩ := F
  exact ⟨cf, i, k, f, st, cell, h1, h2, h3, h4, K.2.1 _ _ h5 nin0, r⟩
def ElA (Z : State) (h : Heap) (a : Addr) (ty : FieldType) (j : Int32) (v : Value) : Prop := ∃ c : Cell, Arr Z h a c ty ∧ ¬ (j < 0 ∨ c.slots.size ≤ j.toNatClampNeg) ∧ c.slots[j.toNatClampNeg]? = some v
theorem ElA.lt {Z : State} {h : Heap} {a : Addr} {ty : FieldType} {j : Int32} {v : Value} (F : ElA Z h a ty j v) : a < h.size := by obtain ⟨c, A, -⟩ := F; exact A.lt
theorem ElA.ext {Z : State} {h h' : Heap} {a : Addr} {ty : FieldType} {j : Int32} {v : Value} (F : ElA Z h a ty j v) (E : Ext h h') : ElA Z h' a ty j v := by obtain ⟨c, A, r⟩ := F; exact ⟨c, A.ext E, r⟩
theorem ElA.other {Z : State} {h h' : Heap} {a b : Addr} {ty : FieldType} {j : Int32} {v w : Value} {sl : Nat} (F : ElA Z h b ty j v) (W : Wr h h' a sl w) (q : b ≠ a) : ElA Z h' b ty j v := by obtain ⟨c, A, r⟩ := F; exact ⟨c, A.other W q, r⟩
theorem ElA.keep {Z : State} {h h' : Heap} {a : Addr} {ty : FieldType} {j : Int32} {v : Value} {ws : List Addr} (F : ElA Z h a ty j v) (K : Keep h h' ws) (q : a ∉ ws) : ElA Z h' a ty j v := by obtain ⟨c, A, r⟩ := F; exact ⟨c, ⟨K.2.1 a c A.1 q, A.2⟩, r⟩
theorem ElA.store {Z : State} {h h' : Heap} {a : Addr} {ty : FieldType} {j : Int32} {v : Value} {c : Cell} (A : Arr Z h a c ty) (hj : ¬ (j < 0 ∨ c.slots.size ≤ j.toNatClampNeg)) (W : Wr h h' a j.toNatClampNeg v) : ElA Z h' a ty j v :=
  ⟨_, A.same W, by rw [sz_set]; exact hj, get_hit hj rfl⟩
theorem own_sta_keepE {Z : State} {h h' : Heap} {C n d D : String} {v : Value} {a : Addr} (F : Sta Z h C n d v) (E : Exa Z h a D) (K : Keep h h' [a]) : Sta Z h' C n d v := by
  obtain ⟨cf, i, k, f, st, cell, h1, h2, h3, h4, h5, h6, r⟩ := F
  refine ⟨cf, i, k, f, st, cell, h1, h2, h3, h4, K.2.1 _ _ h5 (ninS (fun q => ?_) nin0), h6, r⟩
  obtain ⟨c2, k2, e1, e2, e3, e4, -⟩ := E
  rw [q, e1] at h5
  cases h5
  rw [e4] at h6
  cases h6
theorem own_endW {s t : State} {o : Outcome} {L : List Loc} {k n k' n' : Nat} (h : ReturnedEndW s o t L k n) (hk : k ≤ k') (hn : n ≤ n') : ReturnedEndW s o t L k' n' := ⟨h.1, h.2.1, h.2.2.1, h.2.2.2.mono hk hn⟩
theorem own_same {P : Prop} (h : P) : P := h
theorem own_irr (x : Int32) : ¬ x < x := by rw [Int32.lt_iff_toInt_lt]; omega
theorem own_irrL (x : Int64) : ¬ x < x := by rw [Int64.lt_iff_toInt_lt]; omega
end New
end Jvm.RoadKit
namespace Jvm.Pilot.@@N@@
open Jvm Jvm.ClassFile Sem Op Lib Jvm.Free Jvm.Stand Jvm.LawKit Jvm.RoadKit Bundle Jvm.Pilot.@@N@@.Jvm.D

theorem d1_0 : decode prog_38_method_1_code 0 = .ok (.aload_n 0, 1) := by decide +kernel
theorem d1_1 : decode prog_38_method_1_code 1 = .ok (.invokespecial 1, 3) := by decide +kernel
theorem d1_4 : decode prog_38_method_1_code 4 = .ok (.aload_n 0, 1) := by decide +kernel
theorem d1_5 : decode prog_38_method_1_code 5 = .ok (.dload_n 1, 1) := by decide +kernel
theorem d1_6 : decode prog_38_method_1_code 6 = .ok (.putfield 7, 3) := by decide +kernel
theorem d1_9 : decode prog_38_method_1_code 9 = .ok (.return_, 1) := by decide +kernel
theorem pn_1 : plainName "com/example/kinetic_model_check/kineticmodelcheck/dynamics/Tolerances" = true := by first | (simp [plainName, overriddenIn]; done) | decide +kernel
theorem ef_1 (m : MethodId) (x0 : Addr) (x1 : UInt64) : entryFrame m #[(.ref x0), (.double x1)] 3 = mkF m 0 #[.val (.ref x0), .val (.double x1), .second] [] := by first | (simp [entryFrame, mkF, argsToLocals, Value.category]; done) | rfl
def Q1 (Z : State) (a0 : Addr) (x1 : UInt64) (r0 : UInt64) (b0 : UInt64) (h0 : Heap) (n0 : Nat) (v : Option Value) (h : Heap) (L : List Loc) : Prop := v = none ∧ Fr n0 L ∧ Keep h0 h [a0] ∧ Fld Z h a0 "com/example/kinetic_model_check/kineticmodelcheck/dynamics/Tolerances" "relative" "D" (.double x1) ∧ Fld Z h a0 "com/example/kinetic_model_check/kineticmodelcheck/dynamics/Tolerances" "absolute" "D" (.double b0)
set_option maxRecDepth 65536 in
set_option maxHeartbeats 40000000 in
theorem rm1 (l : Launch) (Z : State) (aw : Array Value) (hw : ∀ d ∈ tables_1, d.before aw Z = true) (ws : List Jvm.Cond) (a0 : Addr) (x1 : UInt64) (r0 : UInt64) (b0 : UInt64) (h0 : Heap) (n0 : Nat) (Z0 : n0 ≤ h0.size) (E_a0 : Exa Z h0 a0 "com/example/kinetic_model_check/kineticmodelcheck/dynamics/Tolerances") (F_relative_a0 : Fld Z h0 a0 "com/example/kinetic_model_check/kineticmodelcheck/dynamics/Tolerances" "relative" "D" (.double r0)) (F_absolute_a0 : Fld Z h0 a0 "com/example/kinetic_model_check/kineticmodelcheck/dynamics/Tolerances" "absolute" "D" (.double b0)) (g_a0 : n0 ≤ a0) :
    MetFree l (⟨"com/example/kinetic_model_check/kineticmodelcheck/dynamics/Tolerances", "<init>", "(D)V"⟩ : MethodName) (head1 (Jvm.Cond.code (⟨"com/example/kinetic_model_check/kineticmodelcheck/dynamics/Tolerances", "<init>", "(D)V"⟩ : MethodName) prog_38_method_1_code 3 none :: ws) ({ frames := 1, cells := 0, slots := 0, locals := 12 } : Room)) (fun a U => a = #[(.ref a0), (.double x1)] ∧ Z.Warmed39 U.vm ∧ U.heap = h0) (fun _ _ _ _ _ => True) (fun _ U o U' => ∃ v L, o = .returned v ∧ Q1 Z a0 x1 r0 b0 h0 n0 v U'.heap L ∧ FrameEnd U o U' L ({ frames := 1, cells := 0, slots := 0, locals := 12 } : Room).cells ({ frames := 1, cells := 0, slots := 0, locals := 12 } : Room).slots) := by
  refine MetFree.of_bodySF (plainFor_of_name pn_1) hisR ?_
  intro p e s m args below meth c s₁ Bd hml0 hP hK
  obtain ⟨rfl, hZ, hh⟩ := hP
  have hx := Bd.exec
  have hby := Bd.bytes
  have hml : c.maxLocals = 3 := hml0
  have hown : s.vm.findClass "com/example/kinetic_model_check/kineticmodelcheck/dynamics/Tolerances" = some m.cls := findClass_of_methodNamed Bd.named
  have hnm := (name_of_methodNamed Bd.named Bd.method).1
  have X0 : Stand p l e ({ frames := 1, cells := 0, slots := 0, locals := 12 } : Room) s m #[(.ref a0), (.double x1)] below meth c s₁ [] 0 0 := Stand.of_body Bd
  have e0 : s₁.heap = h0 := by rw [← hh, Bd.state]; rfl
  have N0 := Fr.nil n0
  refine own_back (b := s₁.setTop (mkF m 0 #[.val (.ref a0), .val (.double x1), .second] [])) (fun t kt => castTop (ef_1 m a0 x1) kt) ?_
  obtain ⟨T1, X1, e1, st1⟩ := initO X0 hx hZ hown (hw _ (List.mem_of_getElem? (i := 8) rfl)) (hw _ (List.mem_of_getElem? (i := 9) rfl)) (hw _ (List.mem_of_getElem? (i := 10) rfl)) e0 (g := (mkF m 1 #[.val (.ref a0), .val (.double x1), .second] [(.ref a0)])) rfl (by rw [hml]; rfl) rfl (hb hby d1_1) (by decide) (W := 0) (by show 2 * 0 + _ ≤ _; exact Nat.le_of_eq rfl) (by decide)
  obtain ⟨T2, h2, X2, e2, W2, st2⟩ := putF X1 hx hZ hown (host := "") (Or.inl (hw _ (List.mem_of_getElem? (i := 11) rfl))) Via.refl e1 F_relative_a0 E_a0 (Or.inr ⟨(hw _ (List.mem_of_getElem? (i := 12) rfl)), rfl, hnm⟩) (hw _ (List.mem_of_getElem? (i := 2) rfl)) (ty := .double) (by decide) rfl rfl (g := (mkF m 6 #[.val (.ref a0), .val (.double x1), .second] [(.double x1), (.ref a0)])) rfl rfl (hb hby d1_6)
  have Fw2 := F_relative_a0.same W2
  have f2_0 := E_a0.wr W2
  have f2_1 := F_absolute_a0.other W2 (Or.inr (slot_ne (Or.inl (hw _ (List.mem_of_getElem? (i := 19) rfl))) (Or.inr (hw _ (List.mem_of_getElem? (i := 12) rfl))) (by decide) (t := .double) (t' := .double) (by decide) (by decide)))
  have K2 : Keep h0 h2 [a0] := (Keep.refl h0 _).wr W2 (Or.inl (List.mem_of_getElem? (i := 0) rfl))
  have Z2 : n0 ≤ h2.size := Nat.le_trans Z0 (Keep.of_wr W2).1
  have N2 := Fr.snoc X2 N0 g_a0
  refine own_back (b := T2.setTop (mkF m 9 #[.val (.ref a0), .val (.double x1), .second] [])) (fun t kt => ?_) ?_
  · show Steps p.tables e below (s₁.setTop (mkF m 0 #[.val (.ref a0), .val (.double x1), .second] [])) _
    refine XS.aloadN X0.here hx rfl (hb hby d1_0) rfl rfl ?_
    show Steps p.tables e below (s₁.setTop (mkF m 1 #[.val (.ref a0), .val (.double x1), .second] [(.ref a0)])) _
    refine st1 _ ?_
    show Steps p.tables e below (T1.setTop (mkF m 4 #[.val (.ref a0), .val (.double x1), .second] [])) _
    refine XS.aloadN X1.here hx rfl (hb hby d1_4) rfl rfl ?_
    show Steps p.tables e below (T1.setTop (mkF m 5 #[.val (.ref a0), .val (.double x1), .second] [(.ref a0)])) _
    refine XS.dloadN X1.here hx rfl (hb hby d1_5) rfl ?_
    show Steps p.tables e below (T1.setTop (mkF m 6 #[.val (.ref a0), .val (.double x1), .second] [(.double x1), (.ref a0)])) _
    refine st2 _ ?_
    exact kt
  obtain ⟨fs, hr, hrun, hended, hW, hsame⟩ := X2.leave (v := none) (fun _ => rfl) (BodyLoose.notSynchronized Bd)
  refine ⟨_, _, ?_, hrun, hended, _, _, rfl, ?_, ⟨_, rfl⟩, hW, hsame.mono (by decide) (by decide)⟩
  · show Steps p.tables e below (T2.setTop (mkF m 9 #[.val (.ref a0), .val (.double x1), .second] [])) _
    exact X2.returnOut hx Bd.returns (hb hby d1_9) hr
  · show Q1 Z a0 x1 r0 b0 h0 n0 _ T2.heap _
    rw [e2]
    exact ⟨rfl, N2, K2, Fw2, f2_1⟩
theorem d3_0 : decode prog_38_method_4_code 0 = .ok (.aload_n 0, 1) := by decide +kernel
theorem d3_1 : decode prog_38_method_4_code 1 = .ok (.dload_n 1, 1) := by decide +kernel
theorem d3_2 : decode prog_38_method_4_code 2 = .ok (.putfield 13, 3) := by decide +kernel
theorem d3_5 : decode prog_38_method_4_code 5 = .ok (.return_, 1) := by decide +kernel
theorem pn_3 : plainName "com/example/kinetic_model_check/kineticmodelcheck/dynamics/Tolerances" = true := by first | (simp [plainName, overriddenIn]; done) | decide +kernel
theorem ef_3 (m : MethodId) (x0 : Addr) (x1 : UInt64) : entryFrame m #[(.ref x0), (.double x1)] 3 = mkF m 0 #[.val (.ref x0), .val (.double x1), .second] [] := by first | (simp [entryFrame, mkF, argsToLocals, Value.category]; done) | rfl
def Q3 (Z : State) (a0 : Addr) (x1 : UInt64) (r0 : UInt64) (b0 : UInt64) (h0 : Heap) (n0 : Nat) (v : Option Value) (h : Heap) (L : List Loc) : Prop := v = none ∧ Fr n0 L ∧ Keep h0 h [a0] ∧ Fld Z h a0 "com/example/kinetic_model_check/kineticmodelcheck/dynamics/Tolerances" "relative" "D" (.double r0) ∧ Fld Z h a0 "com/example/kinetic_model_check/kineticmodelcheck/dynamics/Tolerances" "absolute" "D" (.double x1)
set_option maxRecDepth 65536 in
set_option maxHeartbeats 40000000 in
theorem rm3 (l : Launch) (Z : State) (aw : Array Value) (hw : ∀ d ∈ tables_1, d.before aw Z = true) (ws : List Jvm.Cond) (a0 : Addr) (x1 : UInt64) (r0 : UInt64) (b0 : UInt64) (h0 : Heap) (n0 : Nat) (Z0 : n0 ≤ h0.size) (E_a0 : Exa Z h0 a0 "com/example/kinetic_model_check/kineticmodelcheck/dynamics/Tolerances") (F_relative_a0 : Fld Z h0 a0 "com/example/kinetic_model_check/kineticmodelcheck/dynamics/Tolerances" "relative" "D" (.double r0)) (F_absolute_a0 : Fld Z h0 a0 "com/example/kinetic_model_check/kineticmodelcheck/dynamics/Tolerances" "absolute" "D" (.double b0)) (g_a0 : n0 ≤ a0) :
    MetFree l (⟨"com/example/kinetic_model_check/kineticmodelcheck/dynamics/Tolerances", "setAbsolute", "(D)V"⟩ : MethodName) (head1 (Jvm.Cond.code (⟨"com/example/kinetic_model_check/kineticmodelcheck/dynamics/Tolerances", "setAbsolute", "(D)V"⟩ : MethodName) prog_38_method_4_code 3 none :: ws) ({ frames := 0, cells := 0, slots := 0, locals := 0 } : Room)) (fun a U => a = #[(.ref a0), (.double x1)] ∧ Z.Warmed39 U.vm ∧ U.heap = h0) (fun _ _ _ _ _ => True) (fun _ U o U' => ∃ v L, o = .returned v ∧ Q3 Z a0 x1 r0 b0 h0 n0 v U'.heap L ∧ FrameEnd U o U' L ({ frames := 0, cells := 0, slots := 0, locals := 0 } : Room).cells ({ frames := 0, cells := 0, slots := 0, locals := 0 } : Room).slots) := by
  refine MetFree.of_bodySF (plainFor_of_name pn_3) hisR ?_
  intro p e s m args below meth c s₁ Bd hml0 hP hK
  obtain ⟨rfl, hZ, hh⟩ := hP
  have hx := Bd.exec
  have hby := Bd.bytes
  have hml : c.maxLocals = 3 := hml0
  have hown : s.vm.findClass "com/example/kinetic_model_check/kineticmodelcheck/dynamics/Tolerances" = some m.cls := findClass_of_methodNamed Bd.named
  have hnm := (name_of_methodNamed Bd.named Bd.method).1
  have X0 : Stand p l e ({ frames := 0, cells := 0, slots := 0, locals := 0 } : Room) s m #[(.ref a0), (.double x1)] below meth c s₁ [] 0 0 := Stand.of_body Bd
  have e0 : s₁.heap = h0 := by rw [← hh, Bd.state]; rfl
  have N0 := Fr.nil n0
  refine own_back (b := s₁.setTop (mkF m 0 #[.val (.ref a0), .val (.double x1), .second] [])) (fun t kt => castTop (ef_3 m a0 x1) kt) ?_
  obtain ⟨T1, h1, X1, e1, W1, st1⟩ := putF X0 hx hZ hown (host := "") (Or.inl (hw _ (List.mem_of_getElem? (i := 18) rfl))) Via.refl e0 F_absolute_a0 E_a0 (Or.inl (hw _ (List.mem_of_getElem? (i := 19) rfl))) (hw _ (List.mem_of_getElem? (i := 2) rfl)) (ty := .double) (by decide) rfl rfl (g := (mkF m 2 #[.val (.ref a0), .val (.double x1), .second] [(.double x1), (.ref a0)])) rfl rfl (hb hby d3_2)
  have Fw1 := F_absolute_a0.same W1
  have f1_0 := E_a0.wr W1
  have f1_1 := F_relative_a0.other W1 (Or.inr (slot_ne (Or.inr (hw _ (List.mem_of_getElem? (i := 12) rfl))) (Or.inl (hw _ (List.mem_of_getElem? (i := 19) rfl))) (by decide) (t := .double) (t' := .double) (by decide) (by decide)))
  have K1 : Keep h0 h1 [a0] := (Keep.refl h0 _).wr W1 (Or.inl (List.mem_of_getElem? (i := 0) rfl))
  have Z1 : n0 ≤ h1.size := Nat.le_trans Z0 (Keep.of_wr W1).1
  have N1 := Fr.snoc X1 N0 g_a0
  refine own_back (b := T1.setTop (mkF m 5 #[.val (.ref a0), .val (.double x1), .second] [])) (fun t kt => ?_) ?_
  · show Steps p.tables e below (s₁.setTop (mkF m 0 #[.val (.ref a0), .val (.double x1), .second] [])) _
    refine XS.aloadN X0.here hx rfl (hb hby d3_0) rfl rfl ?_
    show Steps p.tables e below (s₁.setTop (mkF m 1 #[.val (.ref a0), .val (.double x1), .second] [(.ref a0)])) _
    refine XS.dloadN X0.here hx rfl (hb hby d3_1) rfl ?_
    show Steps p.tables e below (s₁.setTop (mkF m 2 #[.val (.ref a0), .val (.double x1), .second] [(.double x1), (.ref a0)])) _
    refine st1 _ ?_
    exact kt
  obtain ⟨fs, hr, hrun, hended, hW, hsame⟩ := X1.leave (v := none) (fun _ => rfl) (BodyLoose.notSynchronized Bd)
  refine ⟨_, _, ?_, hrun, hended, _, _, rfl, ?_, ⟨_, rfl⟩, hW, hsame.mono (by decide) (by decide)⟩
  · show Steps p.tables e below (T1.setTop (mkF m 5 #[.val (.ref a0), .val (.double x1), .second] [])) _
    exact X1.returnOut hx Bd.returns (hb hby d3_5) hr
  · show Q3 Z a0 x1 r0 b0 h0 n0 _ T1.heap _
    rw [e1]
    exact ⟨rfl, N1, K1, f1_1, Fw1⟩
theorem d4_0 : decode prog_38_method_5_code 0 = .ok (.aload_n 0, 1) := by decide +kernel
theorem d4_1 : decode prog_38_method_5_code 1 = .ok (.getfield 13, 3) := by decide +kernel
theorem d4_4 : decode prog_38_method_5_code 4 = .ok (.aload_n 0, 1) := by decide +kernel
theorem d4_5 : decode prog_38_method_5_code 5 = .ok (.getfield 7, 3) := by decide +kernel
theorem d4_8 : decode prog_38_method_5_code 8 = .ok (.dload_n 1, 1) := by decide +kernel
theorem d4_9 : decode prog_38_method_5_code 9 = .ok (.dmul, 1) := by decide +kernel
theorem d4_10 : decode prog_38_method_5_code 10 = .ok (.dadd, 1) := by decide +kernel
theorem d4_11 : decode prog_38_method_5_code 11 = .ok (.dreturn, 1) := by decide +kernel
theorem pn_4 : plainName "com/example/kinetic_model_check/kineticmodelcheck/dynamics/Tolerances" = true := by first | (simp [plainName, overriddenIn]; done) | decide +kernel
theorem ef_4 (m : MethodId) (x0 : Addr) (x1 : UInt64) : entryFrame m #[(.ref x0), (.double x1)] 3 = mkF m 0 #[.val (.ref x0), .val (.double x1), .second] [] := by first | (simp [entryFrame, mkF, argsToLocals, Value.category]; done) | rfl
def Q4 (Z : State) (a0 : Addr) (x1 : UInt64) (r0 : UInt64) (b0 : UInt64) (h0 : Heap) (n0 : Nat) (v : Option Value) (h : Heap) (L : List Loc) : Prop := v = some (.double (FP.dadd b0 (FP.dmul r0 x1))) ∧ Fr n0 L ∧ h = h0
set_option maxRecDepth 65536 in
set_option maxHeartbeats 40000000 in
theorem rm4 (l : Launch) (Z : State) (aw : Array Value) (hw : ∀ d ∈ tables_1, d.before aw Z = true) (ws : List Jvm.Cond) (a0 : Addr) (x1 : UInt64) (r0 : UInt64) (b0 : UInt64) (h0 : Heap) (n0 : Nat) (Z0 : n0 ≤ h0.size) (E_a0 : Exa Z h0 a0 "com/example/kinetic_model_check/kineticmodelcheck/dynamics/Tolerances") (F_relative_a0 : Fld Z h0 a0 "com/example/kinetic_model_check/kineticmodelcheck/dynamics/Tolerances" "relative" "D" (.double r0)) (F_absolute_a0 : Fld Z h0 a0 "com/example/kinetic_model_check/kineticmodelcheck/dynamics/Tolerances" "absolute" "D" (.double b0)) (hn1 : Jvm.Free.Fl.NoNaN64 (FP.dmul r0 x1)) (hn2 : Jvm.Free.Fl.NoNaN64 (FP.dadd b0 (FP.dmul r0 x1))) :
    MetFree l (⟨"com/example/kinetic_model_check/kineticmodelcheck/dynamics/Tolerances", "allowed", "(D)D"⟩ : MethodName) (head1 (Jvm.Cond.code (⟨"com/example/kinetic_model_check/kineticmodelcheck/dynamics/Tolerances", "allowed", "(D)D"⟩ : MethodName) prog_38_method_5_code 3 (some .double) :: ws) ({ frames := 0, cells := 0, slots := 0, locals := 0 } : Room)) (fun a U => a = #[(.ref a0), (.double x1)] ∧ Z.Warmed39 U.vm ∧ U.heap = h0) (fun _ _ _ _ _ => True) (fun _ U o U' => ∃ v L, o = .returned v ∧ Q4 Z a0 x1 r0 b0 h0 n0 v U'.heap L ∧ FrameEnd U o U' L ({ frames := 0, cells := 0, slots := 0, locals := 0 } : Room).cells ({ frames := 0, cells := 0, slots := 0, locals := 0 } : Room).slots) := by
  refine MetFree.of_bodySF (plainFor_of_name pn_4) hisR ?_
  intro p e s m args below meth c s₁ Bd hml0 hP hK
  obtain ⟨rfl, hZ, hh⟩ := hP
  have hx := Bd.exec
  have hby := Bd.bytes
  have hml : c.maxLocals = 3 := hml0
  have hown : s.vm.findClass "com/example/kinetic_model_check/kineticmodelcheck/dynamics/Tolerances" = some m.cls := findClass_of_methodNamed Bd.named
  have hnm := (name_of_methodNamed Bd.named Bd.method).1
  have X0 : Stand p l e ({ frames := 0, cells := 0, slots := 0, locals := 0 } : Room) s m #[(.ref a0), (.double x1)] below meth c s₁ [] 0 0 := Stand.of_body Bd
  have e0 : s₁.heap = h0 := by rw [← hh, Bd.state]; rfl
  have N0 := Fr.nil n0
  refine own_back (b := s₁.setTop (mkF m 0 #[.val (.ref a0), .val (.double x1), .second] [])) (fun t kt => castTop (ef_4 m a0 x1) kt) ?_
  obtain ⟨T1, X1, e1, st1⟩ := getF X0 hx hZ hown (host := "") (Or.inl (hw _ (List.mem_of_getElem? (i := 18) rfl))) Via.refl e0 F_absolute_a0 (g := (mkF m 1 #[.val (.ref a0), .val (.double x1), .second] [(.ref a0)])) rfl rfl (hb hby d4_1)
  obtain ⟨T2, X2, e2, st2⟩ := getF X1 hx hZ hown (host := "") (Or.inl (hw _ (List.mem_of_getElem? (i := 11) rfl))) Via.refl e1 F_relative_a0 (g := (mkF m 5 #[.val (.ref a0), .val (.double x1), .second] [(.ref a0), (.double b0)])) rfl rfl (hb hby d4_5)
  refine own_back (b := T2.setTop (mkF m 11 #[.val (.ref a0), .val (.double x1), .second] [(.double (FP.dadd b0 (FP.dmul r0 x1)))])) (fun t kt => ?_) ?_
  · show Steps p.tables e below (s₁.setTop (mkF m 0 #[.val (.ref a0), .val (.double x1), .second] [])) _
    refine XS.aloadN X0.here hx rfl (hb hby d4_0) rfl rfl ?_
    show Steps p.tables e below (s₁.setTop (mkF m 1 #[.val (.ref a0), .val (.double x1), .second] [(.ref a0)])) _
    refine st1 _ ?_
    show Steps p.tables e below (T1.setTop (mkF m 4 #[.val (.ref a0), .val (.double x1), .second] [(.double b0)])) _
    refine XS.aloadN X1.here hx rfl (hb hby d4_4) rfl rfl ?_
    show Steps p.tables e below (T1.setTop (mkF m 5 #[.val (.ref a0), .val (.double x1), .second] [(.ref a0), (.double b0)])) _
    refine st2 _ ?_
    show Steps p.tables e below (T2.setTop (mkF m 8 #[.val (.ref a0), .val (.double x1), .second] [(.double r0), (.double b0)])) _
    refine XS.dloadN X2.here hx rfl (hb hby d4_8) rfl ?_
    show Steps p.tables e below (T2.setTop (mkF m 9 #[.val (.ref a0), .val (.double x1), .second] [(.double x1), (.double r0), (.double b0)])) _
    refine XS.dmulS X2.here hx rfl (hb hby d4_9) rfl hn1 rfl ?_
    show Steps p.tables e below (T2.setTop (mkF m 10 #[.val (.ref a0), .val (.double x1), .second] [(.double (FP.dmul r0 x1)), (.double b0)])) _
    refine XS.daddS X2.here hx rfl (hb hby d4_10) rfl hn2 rfl ?_
    exact kt
  obtain ⟨fs, hr, hrun, hended, hW, hsame⟩ := X2.leave (v := some (.double (FP.dadd b0 (FP.dmul r0 x1)))) (fun h => by rw [Bd.returns] at h; cases h) (BodyLoose.notSynchronized Bd)
  refine ⟨_, _, ?_, hrun, hended, _, _, rfl, ?_, ⟨_, rfl⟩, hW, hsame.mono (by decide) (by decide)⟩
  · show Steps p.tables e below (T2.setTop (mkF m 11 #[.val (.ref a0), .val (.double x1), .second] [(.double (FP.dadd b0 (FP.dmul r0 x1)))])) _
    exact own_retD X2 hx Bd.returns (hb hby d4_11) hr
  · show Q4 Z a0 x1 r0 b0 h0 n0 _ T2.heap _
    rw [e2]
    exact ⟨rfl, N0, rfl⟩
open Jvm.FP.Core (DDy DInt own_mul own_add own_up own_div own_cmp own_nn i2d_int l2d_int) in
theorem own_no {i : Int} {a : UInt64} (h : DDy i a) : Jvm.Free.Fl.NoNaN64 a := Jvm.Free.Fl.noNaN64_no.mpr (by
  have := own_nn h
  rw [← Bool.not_eq_true, Jvm.FP.Core.dIsNaN_iff]
  exact this)
theorem own_b (x : Int32) : (x >>> ((12 : Int32) &&& 31)).toInt.natAbs ≤ 524288 := by
  have h := c_ishr x 12 12 (by decide)
  have hr := rng32 x
  rw [h]
  have : (2 ^ 12 : Nat) = 4096 := by decide
  omega
theorem own_mb (x : Int32) : (x &&& (1048575 : Int32)).toInt.natAbs ≤ 1048576 := by
  have h := c_mask x 1048575 20 (by decide) (by decide)
  rw [h]
  have : (2 ^ 20 : Nat) = 1048576 := by decide
  omega
theorem own_pb {r m : Int} (hr : r.natAbs ≤ 524288) (hm : m.natAbs ≤ 1048576) : (r * m).natAbs ≤ 549755813888 := by
  rw [Int.natAbs_mul]
  exact Nat.mul_le_mul hr hm
open Jvm.FP.Core in
theorem own_rel (r : Int32) : DDy r.toInt (FP.ddiv (FP.i2d r) (4652218415073722368 : UInt64)) := own_div (i2d_int r) (by have := rng32 r; omega)
open Jvm.FP.Core in
theorem own_prd (r m : Int32) (hr : r.toInt.natAbs ≤ 524288) (hm : m.toInt.natAbs ≤ 1048576) : DDy (r.toInt * m.toInt) (FP.dmul (FP.ddiv (FP.i2d r) (4652218415073722368 : UInt64)) (FP.i2d m)) :=
  own_mul (own_rel r) (i2d_int m) (by have := own_pb hr hm; omega)
open Jvm.FP.Core in
theorem own_all {a : Int} {z : UInt64} (hz : DDy (a * 1024) z) (ha : a.natAbs ≤ 524288) (r m : Int32) (hr : r.toInt.natAbs ≤ 524288) (hm : m.toInt.natAbs ≤ 1048576) : DDy (a * 1024 + r.toInt * m.toInt) (FP.dadd z (FP.dmul (FP.ddiv (FP.i2d r) (4652218415073722368 : UInt64)) (FP.i2d m))) :=
  own_add hz (own_prd r m hr hm) (by have := own_pb hr hm; omega)
theorem own_num (z : Int64) (a : Int) (hz : z.toInt = a) (ha : a.natAbs ≤ 524288) (r m : Int32) (hr : r.toInt.natAbs ≤ 524288) (hm : m.toInt.natAbs ≤ 1048576) : ((z * (1024 : Int64)) + ((r.toInt64) * (m.toInt64))).toInt = a * 1024 + r.toInt * m.toInt ∧ (a * 1024 + r.toInt * m.toInt).natAbs ≤ 2 ^ 53 := by
  have h0 := own_pb hr hm
  have h1 := c_lmul r.toInt64 m.toInt64
  have h2 := c_lmul z 1024
  have h3 := c_ladd (z * (1024 : Int64)) ((r.toInt64) * (m.toInt64))
  rw [c_i2l, c_i2l] at h1
  rw [hz, show (1024 : Int64).toInt = 1024 from rfl] at h2
  have g1 := rng64 (r.toInt64 * m.toInt64)
  have g2 := rng64 (z * (1024 : Int64))
  have g3 := rng64 (z * (1024 : Int64) + r.toInt64 * m.toInt64)
  generalize r.toInt * m.toInt = k at *
  omega
open Jvm.FP.Core in
theorem own_den (z : Int64) (a : Int) (hz : z.toInt = a) (ha : a.natAbs ≤ 524288) (r m : Int32) (hr : r.toInt.natAbs ≤ 524288) (hm : m.toInt.natAbs ≤ 1048576) : DDy (a * 1024 + r.toInt * m.toInt) (FP.ddiv (FP.l2d ((z * (1024 : Int64)) + ((r.toInt64) * (m.toInt64)))) (4652218415073722368 : UInt64)) := by
  obtain ⟨e, hb⟩ := own_num z a hz ha r m hr hm
  have := l2d_int (a := (z * (1024 : Int64)) + ((r.toInt64) * (m.toInt64))) (by rw [e]; exact hb)
  rw [e] at this
  exact own_div this hb
open Jvm.FP.Core in
theorem own_eq {i : Int} {a b : UInt64} (ha : DDy i a) (hb : DDy i b) : cmpValue (FP.dcmp a b) .l = (0 : Int32) := by
  have h : FP.dcmp a b = some (compare i i) := own_cmp ha hb
  rw [h, show compare i i = .eq from by simp]
  rfl
theorem own_z0 : Jvm.FP.Core.DDy (0 * 1024) 0 := by
  have h : Jvm.FP.Core.val64 0 = .fin false 0 (-1074) := by decide +kernel
  unfold Jvm.FP.Core.DDy
  rw [h]
  show Jvm.FP.Core.signed false (0 * _) = 0 * 1024 * _
  rw [Nat.zero_mul, Int.zero_mul, Int.zero_mul]
  rfl
theorem pn_0 : plainName "com/example/kinetic_model_check/kineticmodelcheck/dynamics/TolerancesAllowedPinLaw" = true := by first | (simp [plainName, overriddenIn]; done) | decide +kernel
theorem pd_0_0 : parseMethodDescriptor "(D)V" = some ⟨[.double], none⟩ := by decide +kernel
theorem pd_0_1 : parseMethodDescriptor "(D)D" = some ⟨[.double], some .double⟩ := by decide +kernel
theorem ef_0 (m : MethodId) (x0 : Int32) (x1 : Int32) (x2 : Int32) (x3 : Int32) : entryFrame m #[(.int x0), (.int x1), (.int x2), (.int x3)] maxLocals = mkF m 0 #[.val (.int x0), .val (.int x1), .val (.int x2), .val (.int x3), .unset, .unset, .unset, .unset, .unset, .unset, .unset, .unset, .unset, .unset, .unset] [] := by first | (simp [entryFrame, mkF, argsToLocals, Value.category, maxLocals]; done) | rfl
def m0_0 (p0 : Int32) (p1 : Int32) (p2 : Int32) (p3 : Int32) : Int32 := (if (p3 &&& (1 : Int32)) = (0 : Int32) then (0 : Int32) else (1 : Int32))
def f0 (p0 : Int32) (p1 : Int32) (p2 : Int32) (p3 : Int32) : Int32 := (if (m0_0 p0 p1 p2 p3) = (0 : Int32) then (1 : Int32) else (1 : Int32))
def Q0 (Z : State) (p0 : Int32) (p1 : Int32) (p2 : Int32) (p3 : Int32) (h0 : Heap) (n0 : Nat) (v : Option Value) (h : Heap) (L : List Loc) : Prop := v = some (.int (f0 p0 p1 p2 p3)) ∧ Fr n0 L
set_option maxRecDepth 65536 in
set_option maxHeartbeats 40000000 in
theorem rm0 (l : Launch) (Z : State) (aw : Array Value) (hw : ∀ d ∈ tables_1, d.before aw Z = true) (ws : List Jvm.Cond) (p0 : Int32) (p1 : Int32) (p2 : Int32) (p3 : Int32) (h0 : Heap) (n0 : Nat) (Z0 : n0 ≤ h0.size) :
    MetFree l x (head1 (Jvm.Cond.code x code maxLocals ret :: ws) room_1) (fun a U => a = #[(.int p0), (.int p1), (.int p2), (.int p3)] ∧ Z.Warmed39 U.vm ∧ U.heap = h0) (fun _ _ _ _ _ => True) (fun _ U o U' => ∃ v L, o = .returned v ∧ Q0 Z p0 p1 p2 p3 h0 n0 v U'.heap L ∧ FrameEnd U o U' L room_1.cells room_1.slots) := by
  refine MetFree.of_bodySF (plainFor_of_name pn_0) hisR ?_
  intro p e s m args below meth c s₁ Bd hml0 hP hK
  obtain ⟨rfl, hZ, hh⟩ := hP
  have hx := Bd.exec
  have hby := Bd.bytes
  have hml : c.maxLocals = 15 := hml0
  have hown : s.vm.findClass "com/example/kinetic_model_check/kineticmodelcheck/dynamics/TolerancesAllowedPinLaw" = some m.cls := findClass_of_methodNamed Bd.named
  have hnm := (name_of_methodNamed Bd.named Bd.method).1
  have X0 : Stand p l e room_1 s m #[(.int p0), (.int p1), (.int p2), (.int p3)] below meth c s₁ [] 0 0 := Stand.of_body Bd
  have e0 : s₁.heap = h0 := by rw [← hh, Bd.state]; rfl
  have N0 := Fr.nil n0
  refine own_back (b := s₁.setTop (mkF m 0 #[.val (.int p0), .val (.int p1), .val (.int p2), .val (.int p3), .unset, .unset, .unset, .unset, .unset, .unset, .unset, .unset, .unset, .unset, .unset] [])) (fun t kt => castTop (ef_0 m p0 p1 p2 p3) kt) ?_
  refine own_back (b := s₁.setTop (mkF m 21 #[.val (.int p0), .val (.int p1), .val (.int p2), .val (.int p3), .val (.int (p0 >>> ((12 : Int32) &&& 31))), .val (.int (p1 &&& (1048575 : Int32))), .val (.int (p2 >>> ((12 : Int32) &&& 31))), .unset, .unset, .unset, .unset, .unset, .unset, .unset, .unset] [(.int (p3 &&& (1 : Int32)))])) (fun t kt => ?_) ?_
  · show Steps p.tables e below (s₁.setTop (mkF m 0 #[.val (.int p0), .val (.int p1), .val (.int p2), .val (.int p3), .unset, .unset, .unset, .unset, .unset, .unset, .unset, .unset, .unset, .unset, .unset] [])) _
    refine XS.iloadN X0.here hx rfl (hb hby at_0) rfl ?_
    show Steps p.tables e below (s₁.setTop (mkF m 1 #[.val (.int p0), .val (.int p1), .val (.int p2), .val (.int p3), .unset, .unset, .unset, .unset, .unset, .unset, .unset, .unset, .unset, .unset, .unset] [(.int p0)])) _
    refine XS.bipush X0.here hx rfl (hb hby at_1) ?_
    show Steps p.tables e below (s₁.setTop (mkF m 3 #[.val (.int p0), .val (.int p1), .val (.int p2), .val (.int p3), .unset, .unset, .unset, .unset, .unset, .unset, .unset, .unset, .unset, .unset, .unset] [(.int (12 : Int32)), (.int p0)])) _
    refine XS.ishr X0.here hx rfl (hb hby at_3) rfl ?_
    show Steps p.tables e below (s₁.setTop (mkF m 4 #[.val (.int p0), .val (.int p1), .val (.int p2), .val (.int p3), .unset, .unset, .unset, .unset, .unset, .unset, .unset, .unset, .unset, .unset, .unset] [(.int (p0 >>> ((12 : Int32) &&& 31)))])) _
    refine XS.istore X0.here hx rfl (hb hby at_4) rfl (l' := #[.val (.int p0), .val (.int p1), .val (.int p2), .val (.int p3), .val (.int (p0 >>> ((12 : Int32) &&& 31))), .unset, .unset, .unset, .unset, .unset, .unset, .unset, .unset, .unset, .unset]) rfl ?_
    show Steps p.tables e below (s₁.setTop (mkF m 6 #[.val (.int p0), .val (.int p1), .val (.int p2), .val (.int p3), .val (.int (p0 >>> ((12 : Int32) &&& 31))), .unset, .unset, .unset, .unset, .unset, .unset, .unset, .unset, .unset, .unset] [])) _
    refine XS.iloadN X0.here hx rfl (hb hby at_6) rfl ?_
    show Steps p.tables e below (s₁.setTop (mkF m 7 #[.val (.int p0), .val (.int p1), .val (.int p2), .val (.int p3), .val (.int (p0 >>> ((12 : Int32) &&& 31))), .unset, .unset, .unset, .unset, .unset, .unset, .unset, .unset, .unset, .unset] [(.int p1)])) _
    refine X0.ldcInt hx hown (mvT hZ (hw _ (List.mem_of_getElem? (i := 0) rfl))) (g := (mkF m 7 #[.val (.int p0), .val (.int p1), .val (.int p2), .val (.int p3), .val (.int (p0 >>> ((12 : Int32) &&& 31))), .unset, .unset, .unset, .unset, .unset, .unset, .unset, .unset, .unset, .unset] [(.int p1)])) rfl (hb hby at_7) _ ?_
    show Steps p.tables e below (s₁.setTop (mkF m 9 #[.val (.int p0), .val (.int p1), .val (.int p2), .val (.int p3), .val (.int (p0 >>> ((12 : Int32) &&& 31))), .unset, .unset, .unset, .unset, .unset, .unset, .unset, .unset, .unset, .unset] [(.int (1048575 : Int32)), (.int p1)])) _
    refine XS.iand X0.here hx rfl (hb hby at_9) rfl ?_
    show Steps p.tables e below (s₁.setTop (mkF m 10 #[.val (.int p0), .val (.int p1), .val (.int p2), .val (.int p3), .val (.int (p0 >>> ((12 : Int32) &&& 31))), .unset, .unset, .unset, .unset, .unset, .unset, .unset, .unset, .unset, .unset] [(.int (p1 &&& (1048575 : Int32)))])) _
    refine XS.istore X0.here hx rfl (hb hby at_10) rfl (l' := #[.val (.int p0), .val (.int p1), .val (.int p2), .val (.int p3), .val (.int (p0 >>> ((12 : Int32) &&& 31))), .val (.int (p1 &&& (1048575 : Int32))), .unset, .unset, .unset, .unset, .unset, .unset, .unset, .unset, .unset]) rfl ?_
    show Steps p.tables e below (s₁.setTop (mkF m 12 #[.val (.int p0), .val (.int p1), .val (.int p2), .val (.int p3), .val (.int (p0 >>> ((12 : Int32) &&& 31))), .val (.int (p1 &&& (1048575 : Int32))), .unset, .unset, .unset, .unset, .unset, .unset, .unset, .unset, .unset] [])) _
    refine XS.iloadN X0.here hx rfl (hb hby at_12) rfl ?_
    show Steps p.tables e below (s₁.setTop (mkF m 13 #[.val (.int p0), .val (.int p1), .val (.int p2), .val (.int p3), .val (.int (p0 >>> ((12 : Int32) &&& 31))), .val (.int (p1 &&& (1048575 : Int32))), .unset, .unset, .unset, .unset, .unset, .unset, .unset, .unset, .unset] [(.int p2)])) _
    refine XS.bipush X0.here hx rfl (hb hby at_13) ?_
    show Steps p.tables e below (s₁.setTop (mkF m 15 #[.val (.int p0), .val (.int p1), .val (.int p2), .val (.int p3), .val (.int (p0 >>> ((12 : Int32) &&& 31))), .val (.int (p1 &&& (1048575 : Int32))), .unset, .unset, .unset, .unset, .unset, .unset, .unset, .unset, .unset] [(.int (12 : Int32)), (.int p2)])) _
    refine XS.ishr X0.here hx rfl (hb hby at_15) rfl ?_
    show Steps p.tables e below (s₁.setTop (mkF m 16 #[.val (.int p0), .val (.int p1), .val (.int p2), .val (.int p3), .val (.int (p0 >>> ((12 : Int32) &&& 31))), .val (.int (p1 &&& (1048575 : Int32))), .unset, .unset, .unset, .unset, .unset, .unset, .unset, .unset, .unset] [(.int (p2 >>> ((12 : Int32) &&& 31)))])) _
    refine XS.istore X0.here hx rfl (hb hby at_16) rfl (l' := #[.val (.int p0), .val (.int p1), .val (.int p2), .val (.int p3), .val (.int (p0 >>> ((12 : Int32) &&& 31))), .val (.int (p1 &&& (1048575 : Int32))), .val (.int (p2 >>> ((12 : Int32) &&& 31))), .unset, .unset, .unset, .unset, .unset, .unset, .unset, .unset]) rfl ?_
    show Steps p.tables e below (s₁.setTop (mkF m 18 #[.val (.int p0), .val (.int p1), .val (.int p2), .val (.int p3), .val (.int (p0 >>> ((12 : Int32) &&& 31))), .val (.int (p1 &&& (1048575 : Int32))), .val (.int (p2 >>> ((12 : Int32) &&& 31))), .unset, .unset, .unset, .unset, .unset, .unset, .unset, .unset] [])) _
    refine XS.iloadN X0.here hx rfl (hb hby at_18) rfl ?_
    show Steps p.tables e below (s₁.setTop (mkF m 19 #[.val (.int p0), .val (.int p1), .val (.int p2), .val (.int p3), .val (.int (p0 >>> ((12 : Int32) &&& 31))), .val (.int (p1 &&& (1048575 : Int32))), .val (.int (p2 >>> ((12 : Int32) &&& 31))), .unset, .unset, .unset, .unset, .unset, .unset, .unset, .unset] [(.int p3)])) _
    refine XS.iconst X0.here hx rfl (hb hby at_19) ?_
    show Steps p.tables e below (s₁.setTop (mkF m 20 #[.val (.int p0), .val (.int p1), .val (.int p2), .val (.int p3), .val (.int (p0 >>> ((12 : Int32) &&& 31))), .val (.int (p1 &&& (1048575 : Int32))), .val (.int (p2 >>> ((12 : Int32) &&& 31))), .unset, .unset, .unset, .unset, .unset, .unset, .unset, .unset] [(.int (1 : Int32)), (.int p3)])) _
    refine XS.iand X0.here hx rfl (hb hby at_20) rfl ?_
    exact kt
  refine own_back (b := s₁.setTop (mkF m 29 #[.val (.int p0), .val (.int p1), .val (.int p2), .val (.int p3), .val (.int (p0 >>> ((12 : Int32) &&& 31))), .val (.int (p1 &&& (1048575 : Int32))), .val (.int (p2 >>> ((12 : Int32) &&& 31))), .unset, .unset, .unset, .unset, .unset, .unset, .unset, .unset] [(.int (m0_0 p0 p1 p2 p3))])) (fun t kt => ?_) ?_
  · by_cases hm21_1 : (p3 &&& (1 : Int32)) = (0 : Int32)
    · rw [show (m0_0 p0 p1 p2 p3) = (0 : Int32) from by unfold m0_0; rw [if_pos hm21_1]] at kt
      show Steps p.tables e below (s₁.setTop (mkF m 21 #[.val (.int p0), .val (.int p1), .val (.int p2), .val (.int p3), .val (.int (p0 >>> ((12 : Int32) &&& 31))), .val (.int (p1 &&& (1048575 : Int32))), .val (.int (p2 >>> ((12 : Int32) &&& 31))), .unset, .unset, .unset, .unset, .unset, .unset, .unset, .unset] [(.int (p3 &&& (1 : Int32)))])) _
      refine XS.ifYes X0.here hx rfl (pc0 := 21) (pc' := 28) rfl (hb hby at_21) rfl ((if0 _ _).trans (teq hm21_1).1) (by decide) (by decide) ?_
      show Steps p.tables e below (s₁.setTop (mkF m 28 #[.val (.int p0), .val (.int p1), .val (.int p2), .val (.int p3), .val (.int (p0 >>> ((12 : Int32) &&& 31))), .val (.int (p1 &&& (1048575 : Int32))), .val (.int (p2 >>> ((12 : Int32) &&& 31))), .unset, .unset, .unset, .unset, .unset, .unset, .unset, .unset] [])) _
      refine XS.iconst X0.here hx rfl (hb hby at_28) ?_
      exact kt
    · rw [show (m0_0 p0 p1 p2 p3) = (1 : Int32) from by unfold m0_0; rw [if_neg hm21_1]] at kt
      show Steps p.tables e below (s₁.setTop (mkF m 21 #[.val (.int p0), .val (.int p1), .val (.int p2), .val (.int p3), .val (.int (p0 >>> ((12 : Int32) &&& 31))), .val (.int (p1 &&& (1048575 : Int32))), .val (.int (p2 >>> ((12 : Int32) &&& 31))), .unset, .unset, .unset, .unset, .unset, .unset, .unset, .unset] [(.int (p3 &&& (1 : Int32)))])) _
      refine XS.ifNo X0.here hx rfl (hb hby at_21) rfl ((if0 _ _).trans (feq hm21_1).1) ?_
      show Steps p.tables e below (s₁.setTop (mkF m 24 #[.val (.int p0), .val (.int p1), .val (.int p2), .val (.int p3), .val (.int (p0 >>> ((12 : Int32) &&& 31))), .val (.int (p1 &&& (1048575 : Int32))), .val (.int (p2 >>> ((12 : Int32) &&& 31))), .unset, .unset, .unset, .unset, .unset, .unset, .unset, .unset] [])) _
      refine XS.iconst X0.here hx rfl (hb hby at_24) ?_
      show Steps p.tables e below (s₁.setTop (mkF m 25 #[.val (.int p0), .val (.int p1), .val (.int p2), .val (.int p3), .val (.int (p0 >>> ((12 : Int32) &&& 31))), .val (.int (p1 &&& (1048575 : Int32))), .val (.int (p2 >>> ((12 : Int32) &&& 31))), .unset, .unset, .unset, .unset, .unset, .unset, .unset, .unset] [(.int (1 : Int32))])) _
      refine XS.goto X0.here hx rfl (pc0 := 25) (pc' := 29) rfl (hb hby at_25) (by decide) (by decide) ?_
      exact kt
  obtain ⟨T2, h2, X2, e2, E2, A2, D2, -, st2⟩ := newO X0 hx hZ hown (hw _ (List.mem_of_getElem? (i := 1) rfl)) (hw _ (List.mem_of_getElem? (i := 2) rfl)) (hw _ (List.mem_of_getElem? (i := 3) rfl)) e0 (g := (mkF m 31 #[.val (.int p0), .val (.int p1), .val (.int p2), .val (.int p3), .val (.int (p0 >>> ((12 : Int32) &&& 31))), .val (.int (p1 &&& (1048575 : Int32))), .val (.int (p2 >>> ((12 : Int32) &&& 31))), .val (.int (m0_0 p0 p1 p2 p3)), .unset, .unset, .unset, .unset, .unset, .unset, .unset] [])) rfl (hb hby at_31) (by decide) (by decide)
  obtain ⟨b2, g2⟩ : ∃ z, z = h0.size := ⟨_, rfl⟩
  rw [← g2] at A2 D2 st2
  have lo2 : n0 ≤ b2 := Nat.le_trans Z0 (Nat.le_of_eq g2.symm)
  have sz2 : h0.size ≤ b2 := Nat.le_trans (Nat.le_refl _) (Nat.le_of_eq g2.symm)
  have K2 : Keep h0 h2 [] := (Keep.refl h0 _).ext E2
  have Z2 : n0 ≤ h2.size := Nat.le_trans Z0 E2.1
  have F2_relative : Fld Z h2 b2 "com/example/kinetic_model_check/kineticmodelcheck/dynamics/Tolerances" "relative" "D" (.double 0) := D2 (Or.inr (hw _ (List.mem_of_getElem? (i := 12) rfl))) (ty := .double) (by decide)
  have F2_absolute : Fld Z h2 b2 "com/example/kinetic_model_check/kineticmodelcheck/dynamics/Tolerances" "absolute" "D" (.double 0) := D2 (Or.inl (hw _ (List.mem_of_getElem? (i := 19) rfl))) (ty := .double) (by decide)
  obtain ⟨_, _, ⟨T3, L3, k3, n3⟩, -, X3, ⟨Lc3, hQ3, l3, y3, z3⟩, st3⟩ := X2.specialBack hx (y := (⟨"com/example/kinetic_model_check/kineticmodelcheck/dynamics/Tolerances", "<init>", "(D)V"⟩ : MethodName)) rfl hown (mvT hZ (hw _ (List.mem_of_getElem? (i := 5) rfl))) (mvT hZ (hw _ (List.mem_of_getElem? (i := 6) rfl))) (mvT hZ (hw _ (List.mem_of_getElem? (i := 7) rfl))) (by decide) (backOf (W := 1) (rm1 l Z aw hw [] b2 (FP.ddiv (FP.i2d (p0 >>> ((12 : Int32) &&& 31))) (4652218415073722368 : UInt64)) 0 0 h2 n0 Z2 A2 F2_relative F2_absolute lo2) hZ (hw _ (List.mem_of_getElem? (i := 7) rfl)) (hw _ (List.mem_of_getElem? (i := 3) rfl)) (by decide) (by decide)) (g := (mkF m 42 #[.val (.int p0), .val (.int p1), .val (.int p2), .val (.int p3), .val (.int (p0 >>> ((12 : Int32) &&& 31))), .val (.int (p1 &&& (1048575 : Int32))), .val (.int (p2 >>> ((12 : Int32) &&& 31))), .val (.int (m0_0 p0 p1 p2 p3)), .unset, .unset, .unset, .unset, .unset, .unset, .unset] [(.double (FP.ddiv (FP.i2d (p0 >>> ((12 : Int32) &&& 31))) (4652218415073722368 : UInt64))), (.ref b2), (.ref b2)])) rfl (by rw [hml]; rfl) (Steps.refl _) (a := b2) (argsL := [(.double (FP.ddiv (FP.i2d (p0 >>> ((12 : Int32) &&& 31))) (4652218415073722368 : UInt64)))]) (rest := [(.ref b2)]) (lenOf pd_0_0 rfl) rfl (by show 2 * 0 + _ ≤ _; exact Nat.le_of_eq rfl) (hb hby at_42) (fun _ _ => ⟨rfl, e2, (by decide : 1 + 0 ≤ _), (by decide : 2 + 0 ≤ _)⟩)
  dsimp only [Pt.U, Pt.locs, Pt.cells, Pt.slots] at X3 l3 y3 z3 st3 hQ3
  rw [l3, y3, z3] at X3
  obtain ⟨rfl, Nq3, Kq3, P3_0, P3_1⟩ := hQ3
  have N3 := Fr.app N0 Nq3
  have f3_0 := A2.keep Kq3
  have K3 : Keep h0 T3.heap [] := K2.trans Kq3 (allS (Or.inr sz2) all0)
  have Z3 : n0 ≤ T3.heap.size := Nat.le_trans Z2 Kq3.1
  refine own_back (b := T3.setTop (mkF m 49 #[.val (.int p0), .val (.int p1), .val (.int p2), .val (.int p3), .val (.int (p0 >>> ((12 : Int32) &&& 31))), .val (.int (p1 &&& (1048575 : Int32))), .val (.int (p2 >>> ((12 : Int32) &&& 31))), .val (.int (m0_0 p0 p1 p2 p3)), .val (.ref b2), .unset, .unset, .unset, .unset, .unset, .unset] [(.int (m0_0 p0 p1 p2 p3))])) (fun t kt => ?_) ?_
  · show Steps p.tables e below (s₁.setTop (mkF m 29 #[.val (.int p0), .val (.int p1), .val (.int p2), .val (.int p3), .val (.int (p0 >>> ((12 : Int32) &&& 31))), .val (.int (p1 &&& (1048575 : Int32))), .val (.int (p2 >>> ((12 : Int32) &&& 31))), .unset, .unset, .unset, .unset, .unset, .unset, .unset, .unset] [(.int (m0_0 p0 p1 p2 p3))])) _
    refine XS.istore X0.here hx rfl (hb hby at_29) rfl (l' := #[.val (.int p0), .val (.int p1), .val (.int p2), .val (.int p3), .val (.int (p0 >>> ((12 : Int32) &&& 31))), .val (.int (p1 &&& (1048575 : Int32))), .val (.int (p2 >>> ((12 : Int32) &&& 31))), .val (.int (m0_0 p0 p1 p2 p3)), .unset, .unset, .unset, .unset, .unset, .unset, .unset]) rfl ?_
    show Steps p.tables e below (s₁.setTop (mkF m 31 #[.val (.int p0), .val (.int p1), .val (.int p2), .val (.int p3), .val (.int (p0 >>> ((12 : Int32) &&& 31))), .val (.int (p1 &&& (1048575 : Int32))), .val (.int (p2 >>> ((12 : Int32) &&& 31))), .val (.int (m0_0 p0 p1 p2 p3)), .unset, .unset, .unset, .unset, .unset, .unset, .unset] [])) _
    refine st2 _ ?_
    show Steps p.tables e below (T2.setTop (mkF m 34 #[.val (.int p0), .val (.int p1), .val (.int p2), .val (.int p3), .val (.int (p0 >>> ((12 : Int32) &&& 31))), .val (.int (p1 &&& (1048575 : Int32))), .val (.int (p2 >>> ((12 : Int32) &&& 31))), .val (.int (m0_0 p0 p1 p2 p3)), .unset, .unset, .unset, .unset, .unset, .unset, .unset] [(.ref b2)])) _
    refine XS.dup X2.here hx rfl (hb hby at_34) rfl rfl ?_
    show Steps p.tables e below (T2.setTop (mkF m 35 #[.val (.int p0), .val (.int p1), .val (.int p2), .val (.int p3), .val (.int (p0 >>> ((12 : Int32) &&& 31))), .val (.int (p1 &&& (1048575 : Int32))), .val (.int (p2 >>> ((12 : Int32) &&& 31))), .val (.int (m0_0 p0 p1 p2 p3)), .unset, .unset, .unset, .unset, .unset, .unset, .unset] [(.ref b2), (.ref b2)])) _
    refine XS.iload X2.here hx rfl (hb hby at_35) rfl ?_
    show Steps p.tables e below (T2.setTop (mkF m 37 #[.val (.int p0), .val (.int p1), .val (.int p2), .val (.int p3), .val (.int (p0 >>> ((12 : Int32) &&& 31))), .val (.int (p1 &&& (1048575 : Int32))), .val (.int (p2 >>> ((12 : Int32) &&& 31))), .val (.int (m0_0 p0 p1 p2 p3)), .unset, .unset, .unset, .unset, .unset, .unset, .unset] [(.int (p0 >>> ((12 : Int32) &&& 31))), (.ref b2), (.ref b2)])) _
    refine XS.i2dS X2.here hx rfl (hb hby at_37) rfl rfl ?_
    show Steps p.tables e below (T2.setTop (mkF m 38 #[.val (.int p0), .val (.int p1), .val (.int p2), .val (.int p3), .val (.int (p0 >>> ((12 : Int32) &&& 31))), .val (.int (p1 &&& (1048575 : Int32))), .val (.int (p2 >>> ((12 : Int32) &&& 31))), .val (.int (m0_0 p0 p1 p2 p3)), .unset, .unset, .unset, .unset, .unset, .unset, .unset] [(.double (FP.i2d (p0 >>> ((12 : Int32) &&& 31)))), (.ref b2), (.ref b2)])) _
    refine X2.ldc2DoubleC hx hown (mvT hZ (hw _ (List.mem_of_getElem? (i := 4) rfl))) (g := (mkF m 38 #[.val (.int p0), .val (.int p1), .val (.int p2), .val (.int p3), .val (.int (p0 >>> ((12 : Int32) &&& 31))), .val (.int (p1 &&& (1048575 : Int32))), .val (.int (p2 >>> ((12 : Int32) &&& 31))), .val (.int (m0_0 p0 p1 p2 p3)), .unset, .unset, .unset, .unset, .unset, .unset, .unset] [(.double (FP.i2d (p0 >>> ((12 : Int32) &&& 31)))), (.ref b2), (.ref b2)])) rfl (hb hby at_38) _ ?_
    show Steps p.tables e below (T2.setTop (mkF m 41 #[.val (.int p0), .val (.int p1), .val (.int p2), .val (.int p3), .val (.int (p0 >>> ((12 : Int32) &&& 31))), .val (.int (p1 &&& (1048575 : Int32))), .val (.int (p2 >>> ((12 : Int32) &&& 31))), .val (.int (m0_0 p0 p1 p2 p3)), .unset, .unset, .unset, .unset, .unset, .unset, .unset] [(.double (4652218415073722368 : UInt64)), (.double (FP.i2d (p0 >>> ((12 : Int32) &&& 31)))), (.ref b2), (.ref b2)])) _
    refine XS.ddivS X2.here hx rfl (hb hby at_41) rfl (own_no (own_rel _)) rfl ?_
    show Steps p.tables e below (T2.setTop (mkF m 42 #[.val (.int p0), .val (.int p1), .val (.int p2), .val (.int p3), .val (.int (p0 >>> ((12 : Int32) &&& 31))), .val (.int (p1 &&& (1048575 : Int32))), .val (.int (p2 >>> ((12 : Int32) &&& 31))), .val (.int (m0_0 p0 p1 p2 p3)), .unset, .unset, .unset, .unset, .unset, .unset, .unset] [(.double (FP.ddiv (FP.i2d (p0 >>> ((12 : Int32) &&& 31))) (4652218415073722368 : UInt64))), (.ref b2), (.ref b2)])) _
    refine st3.trans ?_
    show Steps p.tables e below (T3.setTop (mkF m 45 #[.val (.int p0), .val (.int p1), .val (.int p2), .val (.int p3), .val (.int (p0 >>> ((12 : Int32) &&& 31))), .val (.int (p1 &&& (1048575 : Int32))), .val (.int (p2 >>> ((12 : Int32) &&& 31))), .val (.int (m0_0 p0 p1 p2 p3)), .unset, .unset, .unset, .unset, .unset, .unset, .unset] [(.ref b2)])) _
    refine XS.astore X3.here hx rfl (hb hby at_45) rfl rfl (l' := #[.val (.int p0), .val (.int p1), .val (.int p2), .val (.int p3), .val (.int (p0 >>> ((12 : Int32) &&& 31))), .val (.int (p1 &&& (1048575 : Int32))), .val (.int (p2 >>> ((12 : Int32) &&& 31))), .val (.int (m0_0 p0 p1 p2 p3)), .val (.ref b2), .unset, .unset, .unset, .unset, .unset, .unset]) rfl ?_
    show Steps p.tables e below (T3.setTop (mkF m 47 #[.val (.int p0), .val (.int p1), .val (.int p2), .val (.int p3), .val (.int (p0 >>> ((12 : Int32) &&& 31))), .val (.int (p1 &&& (1048575 : Int32))), .val (.int (p2 >>> ((12 : Int32) &&& 31))), .val (.int (m0_0 p0 p1 p2 p3)), .val (.ref b2), .unset, .unset, .unset, .unset, .unset, .unset] [])) _
    refine XS.iload X3.here hx rfl (hb hby at_47) rfl ?_
    exact kt
  by_cases hc49_4 : (m0_0 p0 p1 p2 p3) = (0 : Int32)
  · obtain ⟨cq5, kq5, q5a, q5b, q5c⟩ := isOf hZ rfl f3_0
    obtain ⟨_, _, ⟨T5, L5, k5, n5⟩, -, X5, ⟨Lc5, hQ5, l5, y5, z5⟩, st5⟩ := X3.virtualBack hx (y := (⟨"com/example/kinetic_model_check/kineticmodelcheck/dynamics/Tolerances", "allowed", "(D)D"⟩ : MethodName)) (z := (⟨"com/example/kinetic_model_check/kineticmodelcheck/dynamics/Tolerances", "allowed", "(D)D"⟩ : MethodName)) hown (mvT hZ (hw _ (List.mem_of_getElem? (i := 21) rfl))) (mvT hZ (hw _ (List.mem_of_getElem? (i := 22) rfl))) (notFace_of_selects (args := #[]) (mvT hZ (hw _ (List.mem_of_getElem? (i := 24) rfl)))) (mvT hZ (hw _ (List.mem_of_getElem? (i := 24) rfl))) (mvT hZ (hw _ (List.mem_of_getElem? (i := 23) rfl))) (by decide) (backOf (W := 0) (rm4 l Z aw hw [] b2 (FP.i2d (p1 &&& (1048575 : Int32))) (FP.ddiv (FP.i2d (p0 >>> ((12 : Int32) &&& 31))) (4652218415073722368 : UInt64)) 0 T3.heap n0 Z3 f3_0 P3_0 P3_1 (own_no (own_prd _ _ (own_b p0) (own_mb p1))) (own_no (own_all own_z0 (by decide) (p0 >>> ((12 : Int32) &&& 31)) (p1 &&& (1048575 : Int32)) (own_b p0) (own_mb p1)))) hZ (hw _ (List.mem_of_getElem? (i := 25) rfl)) (hw _ (List.mem_of_getElem? (i := 3) rfl)) (by decide) (by decide)) q5a q5c (g := (mkF m 104 #[.val (.int p0), .val (.int p1), .val (.int p2), .val (.int p3), .val (.int (p0 >>> ((12 : Int32) &&& 31))), .val (.int (p1 &&& (1048575 : Int32))), .val (.int (p2 >>> ((12 : Int32) &&& 31))), .val (.int (m0_0 p0 p1 p2 p3)), .val (.ref b2), .val (.long (0 : Int64)), .second, .val (.long (((0 : Int64) * (1024 : Int64)) + (((p0 >>> ((12 : Int32) &&& 31)).toInt64) * ((p1 &&& (1048575 : Int32)).toInt64)))), .second, .val (.double (FP.ddiv (FP.l2d (((0 : Int64) * (1024 : Int64)) + (((p0 >>> ((12 : Int32) &&& 31)).toInt64) * ((p1 &&& (1048575 : Int32)).toInt64)))) (4652218415073722368 : UInt64))), .second] [(.double (FP.i2d (p1 &&& (1048575 : Int32)))), (.ref b2)])) rfl (by rw [hml]; rfl) (Steps.refl _) (argsL := [(.double (FP.i2d (p1 &&& (1048575 : Int32))))]) (rest := []) (lenOf pd_0_1 rfl) rfl (by show 2 * 0 + _ ≤ _; exact Nat.le_of_eq rfl) (hb hby at_104) (fun _ _ => ⟨rfl, rfl, (by decide : 1 + 0 ≤ _), (by decide : 2 + 0 ≤ _)⟩)
    dsimp only [Pt.U, Pt.locs, Pt.cells, Pt.slots] at X5 l5 y5 z5 st5 hQ5
    rw [l5, y5, z5] at X5
    obtain ⟨rfl, Nq5, e5⟩ := hQ5
    have N5 := Fr.app N3 Nq5
    refine own_back (b := T5.setTop (mkF m 118 #[.val (.int p0), .val (.int p1), .val (.int p2), .val (.int p3), .val (.int (p0 >>> ((12 : Int32) &&& 31))), .val (.int (p1 &&& (1048575 : Int32))), .val (.int (p2 >>> ((12 : Int32) &&& 31))), .val (.int (m0_0 p0 p1 p2 p3)), .val (.ref b2), .val (.long (0 : Int64)), .second, .val (.long (((0 : Int64) * (1024 : Int64)) + (((p0 >>> ((12 : Int32) &&& 31)).toInt64) * ((p1 &&& (1048575 : Int32)).toInt64)))), .second, .val (.double (FP.ddiv (FP.l2d (((0 : Int64) * (1024 : Int64)) + (((p0 >>> ((12 : Int32) &&& 31)).toInt64) * ((p1 &&& (1048575 : Int32)).toInt64)))) (4652218415073722368 : UInt64))), .second] [(.int (1 : Int32))])) (fun t kt => ?_) ?_
    · show Steps p.tables e below (T3.setTop (mkF m 49 #[.val (.int p0), .val (.int p1), .val (.int p2), .val (.int p3), .val (.int (p0 >>> ((12 : Int32) &&& 31))), .val (.int (p1 &&& (1048575 : Int32))), .val (.int (p2 >>> ((12 : Int32) &&& 31))), .val (.int (m0_0 p0 p1 p2 p3)), .val (.ref b2), .unset, .unset, .unset, .unset, .unset, .unset] [(.int (m0_0 p0 p1 p2 p3))])) _
      refine XS.ifYes X3.here hx rfl (pc0 := 49) (pc' := 60) rfl (hb hby at_49) rfl ((if0 _ _).trans (teq hc49_4).1) (by decide) (by decide) ?_
      show Steps p.tables e below (T3.setTop (mkF m 60 #[.val (.int p0), .val (.int p1), .val (.int p2), .val (.int p3), .val (.int (p0 >>> ((12 : Int32) &&& 31))), .val (.int (p1 &&& (1048575 : Int32))), .val (.int (p2 >>> ((12 : Int32) &&& 31))), .val (.int (m0_0 p0 p1 p2 p3)), .val (.ref b2), .unset, .unset, .unset, .unset, .unset, .unset] [])) _
      refine XS.iload X3.here hx rfl (hb hby at_60) rfl ?_
      show Steps p.tables e below (T3.setTop (mkF m 62 #[.val (.int p0), .val (.int p1), .val (.int p2), .val (.int p3), .val (.int (p0 >>> ((12 : Int32) &&& 31))), .val (.int (p1 &&& (1048575 : Int32))), .val (.int (p2 >>> ((12 : Int32) &&& 31))), .val (.int (m0_0 p0 p1 p2 p3)), .val (.ref b2), .unset, .unset, .unset, .unset, .unset, .unset] [(.int (m0_0 p0 p1 p2 p3))])) _
      refine XS.ifYes X3.here hx rfl (pc0 := 62) (pc' := 71) rfl (hb hby at_62) rfl ((if0 _ _).trans (teq hc49_4).1) (by decide) (by decide) ?_
      show Steps p.tables e below (T3.setTop (mkF m 71 #[.val (.int p0), .val (.int p1), .val (.int p2), .val (.int p3), .val (.int (p0 >>> ((12 : Int32) &&& 31))), .val (.int (p1 &&& (1048575 : Int32))), .val (.int (p2 >>> ((12 : Int32) &&& 31))), .val (.int (m0_0 p0 p1 p2 p3)), .val (.ref b2), .unset, .unset, .unset, .unset, .unset, .unset] [])) _
      refine XS.lconst X3.here hx rfl (hb hby at_71) ?_
      show Steps p.tables e below (T3.setTop (mkF m 72 #[.val (.int p0), .val (.int p1), .val (.int p2), .val (.int p3), .val (.int (p0 >>> ((12 : Int32) &&& 31))), .val (.int (p1 &&& (1048575 : Int32))), .val (.int (p2 >>> ((12 : Int32) &&& 31))), .val (.int (m0_0 p0 p1 p2 p3)), .val (.ref b2), .unset, .unset, .unset, .unset, .unset, .unset] [(.long (0 : Int64))])) _
      refine XS.lstore X3.here hx rfl (hb hby at_72) rfl (l' := #[.val (.int p0), .val (.int p1), .val (.int p2), .val (.int p3), .val (.int (p0 >>> ((12 : Int32) &&& 31))), .val (.int (p1 &&& (1048575 : Int32))), .val (.int (p2 >>> ((12 : Int32) &&& 31))), .val (.int (m0_0 p0 p1 p2 p3)), .val (.ref b2), .val (.long (0 : Int64)), .second, .unset, .unset, .unset, .unset]) rfl ?_
      show Steps p.tables e below (T3.setTop (mkF m 74 #[.val (.int p0), .val (.int p1), .val (.int p2), .val (.int p3), .val (.int (p0 >>> ((12 : Int32) &&& 31))), .val (.int (p1 &&& (1048575 : Int32))), .val (.int (p2 >>> ((12 : Int32) &&& 31))), .val (.int (m0_0 p0 p1 p2 p3)), .val (.ref b2), .val (.long (0 : Int64)), .second, .unset, .unset, .unset, .unset] [])) _
      refine XS.lload X3.here hx rfl (hb hby at_74) rfl ?_
      show Steps p.tables e below (T3.setTop (mkF m 76 #[.val (.int p0), .val (.int p1), .val (.int p2), .val (.int p3), .val (.int (p0 >>> ((12 : Int32) &&& 31))), .val (.int (p1 &&& (1048575 : Int32))), .val (.int (p2 >>> ((12 : Int32) &&& 31))), .val (.int (m0_0 p0 p1 p2 p3)), .val (.ref b2), .val (.long (0 : Int64)), .second, .unset, .unset, .unset, .unset] [(.long (0 : Int64))])) _
      refine X3.ldc2Long hx hown (mvT hZ (hw _ (List.mem_of_getElem? (i := 20) rfl))) (g := (mkF m 76 #[.val (.int p0), .val (.int p1), .val (.int p2), .val (.int p3), .val (.int (p0 >>> ((12 : Int32) &&& 31))), .val (.int (p1 &&& (1048575 : Int32))), .val (.int (p2 >>> ((12 : Int32) &&& 31))), .val (.int (m0_0 p0 p1 p2 p3)), .val (.ref b2), .val (.long (0 : Int64)), .second, .unset, .unset, .unset, .unset] [(.long (0 : Int64))])) rfl (hb hby at_76) _ ?_
      show Steps p.tables e below (T3.setTop (mkF m 79 #[.val (.int p0), .val (.int p1), .val (.int p2), .val (.int p3), .val (.int (p0 >>> ((12 : Int32) &&& 31))), .val (.int (p1 &&& (1048575 : Int32))), .val (.int (p2 >>> ((12 : Int32) &&& 31))), .val (.int (m0_0 p0 p1 p2 p3)), .val (.ref b2), .val (.long (0 : Int64)), .second, .unset, .unset, .unset, .unset] [(.long (1024 : Int64)), (.long (0 : Int64))])) _
      refine XS.lmul X3.here hx rfl (hb hby at_79) rfl ?_
      show Steps p.tables e below (T3.setTop (mkF m 80 #[.val (.int p0), .val (.int p1), .val (.int p2), .val (.int p3), .val (.int (p0 >>> ((12 : Int32) &&& 31))), .val (.int (p1 &&& (1048575 : Int32))), .val (.int (p2 >>> ((12 : Int32) &&& 31))), .val (.int (m0_0 p0 p1 p2 p3)), .val (.ref b2), .val (.long (0 : Int64)), .second, .unset, .unset, .unset, .unset] [(.long ((0 : Int64) * (1024 : Int64)))])) _
      refine XS.iload X3.here hx rfl (hb hby at_80) rfl ?_
      show Steps p.tables e below (T3.setTop (mkF m 82 #[.val (.int p0), .val (.int p1), .val (.int p2), .val (.int p3), .val (.int (p0 >>> ((12 : Int32) &&& 31))), .val (.int (p1 &&& (1048575 : Int32))), .val (.int (p2 >>> ((12 : Int32) &&& 31))), .val (.int (m0_0 p0 p1 p2 p3)), .val (.ref b2), .val (.long (0 : Int64)), .second, .unset, .unset, .unset, .unset] [(.int (p0 >>> ((12 : Int32) &&& 31))), (.long ((0 : Int64) * (1024 : Int64)))])) _
      refine XS.i2l X3.here hx rfl (hb hby at_82) rfl ?_
      show Steps p.tables e below (T3.setTop (mkF m 83 #[.val (.int p0), .val (.int p1), .val (.int p2), .val (.int p3), .val (.int (p0 >>> ((12 : Int32) &&& 31))), .val (.int (p1 &&& (1048575 : Int32))), .val (.int (p2 >>> ((12 : Int32) &&& 31))), .val (.int (m0_0 p0 p1 p2 p3)), .val (.ref b2), .val (.long (0 : Int64)), .second, .unset, .unset, .unset, .unset] [(.long ((p0 >>> ((12 : Int32) &&& 31)).toInt64)), (.long ((0 : Int64) * (1024 : Int64)))])) _
      refine XS.iload X3.here hx rfl (hb hby at_83) rfl ?_
      show Steps p.tables e below (T3.setTop (mkF m 85 #[.val (.int p0), .val (.int p1), .val (.int p2), .val (.int p3), .val (.int (p0 >>> ((12 : Int32) &&& 31))), .val (.int (p1 &&& (1048575 : Int32))), .val (.int (p2 >>> ((12 : Int32) &&& 31))), .val (.int (m0_0 p0 p1 p2 p3)), .val (.ref b2), .val (.long (0 : Int64)), .second, .unset, .unset, .unset, .unset] [(.int (p1 &&& (1048575 : Int32))), (.long ((p0 >>> ((12 : Int32) &&& 31)).toInt64)), (.long ((0 : Int64) * (1024 : Int64)))])) _
      refine XS.i2l X3.here hx rfl (hb hby at_85) rfl ?_
      show Steps p.tables e below (T3.setTop (mkF m 86 #[.val (.int p0), .val (.int p1), .val (.int p2), .val (.int p3), .val (.int (p0 >>> ((12 : Int32) &&& 31))), .val (.int (p1 &&& (1048575 : Int32))), .val (.int (p2 >>> ((12 : Int32) &&& 31))), .val (.int (m0_0 p0 p1 p2 p3)), .val (.ref b2), .val (.long (0 : Int64)), .second, .unset, .unset, .unset, .unset] [(.long ((p1 &&& (1048575 : Int32)).toInt64)), (.long ((p0 >>> ((12 : Int32) &&& 31)).toInt64)), (.long ((0 : Int64) * (1024 : Int64)))])) _
      refine XS.lmul X3.here hx rfl (hb hby at_86) rfl ?_
      show Steps p.tables e below (T3.setTop (mkF m 87 #[.val (.int p0), .val (.int p1), .val (.int p2), .val (.int p3), .val (.int (p0 >>> ((12 : Int32) &&& 31))), .val (.int (p1 &&& (1048575 : Int32))), .val (.int (p2 >>> ((12 : Int32) &&& 31))), .val (.int (m0_0 p0 p1 p2 p3)), .val (.ref b2), .val (.long (0 : Int64)), .second, .unset, .unset, .unset, .unset] [(.long (((p0 >>> ((12 : Int32) &&& 31)).toInt64) * ((p1 &&& (1048575 : Int32)).toInt64))), (.long ((0 : Int64) * (1024 : Int64)))])) _
      refine XS.ladd X3.here hx rfl (hb hby at_87) rfl ?_
      show Steps p.tables e below (T3.setTop (mkF m 88 #[.val (.int p0), .val (.int p1), .val (.int p2), .val (.int p3), .val (.int (p0 >>> ((12 : Int32) &&& 31))), .val (.int (p1 &&& (1048575 : Int32))), .val (.int (p2 >>> ((12 : Int32) &&& 31))), .val (.int (m0_0 p0 p1 p2 p3)), .val (.ref b2), .val (.long (0 : Int64)), .second, .unset, .unset, .unset, .unset] [(.long (((0 : Int64) * (1024 : Int64)) + (((p0 >>> ((12 : Int32) &&& 31)).toInt64) * ((p1 &&& (1048575 : Int32)).toInt64))))])) _
      refine XS.lstore X3.here hx rfl (hb hby at_88) rfl (l' := #[.val (.int p0), .val (.int p1), .val (.int p2), .val (.int p3), .val (.int (p0 >>> ((12 : Int32) &&& 31))), .val (.int (p1 &&& (1048575 : Int32))), .val (.int (p2 >>> ((12 : Int32) &&& 31))), .val (.int (m0_0 p0 p1 p2 p3)), .val (.ref b2), .val (.long (0 : Int64)), .second, .val (.long (((0 : Int64) * (1024 : Int64)) + (((p0 >>> ((12 : Int32) &&& 31)).toInt64) * ((p1 &&& (1048575 : Int32)).toInt64)))), .second, .unset, .unset]) rfl ?_
      show Steps p.tables e below (T3.setTop (mkF m 90 #[.val (.int p0), .val (.int p1), .val (.int p2), .val (.int p3), .val (.int (p0 >>> ((12 : Int32) &&& 31))), .val (.int (p1 &&& (1048575 : Int32))), .val (.int (p2 >>> ((12 : Int32) &&& 31))), .val (.int (m0_0 p0 p1 p2 p3)), .val (.ref b2), .val (.long (0 : Int64)), .second, .val (.long (((0 : Int64) * (1024 : Int64)) + (((p0 >>> ((12 : Int32) &&& 31)).toInt64) * ((p1 &&& (1048575 : Int32)).toInt64)))), .second, .unset, .unset] [])) _
      refine XS.lload X3.here hx rfl (hb hby at_90) rfl ?_
      show Steps p.tables e below (T3.setTop (mkF m 92 #[.val (.int p0), .val (.int p1), .val (.int p2), .val (.int p3), .val (.int (p0 >>> ((12 : Int32) &&& 31))), .val (.int (p1 &&& (1048575 : Int32))), .val (.int (p2 >>> ((12 : Int32) &&& 31))), .val (.int (m0_0 p0 p1 p2 p3)), .val (.ref b2), .val (.long (0 : Int64)), .second, .val (.long (((0 : Int64) * (1024 : Int64)) + (((p0 >>> ((12 : Int32) &&& 31)).toInt64) * ((p1 &&& (1048575 : Int32)).toInt64)))), .second, .unset, .unset] [(.long (((0 : Int64) * (1024 : Int64)) + (((p0 >>> ((12 : Int32) &&& 31)).toInt64) * ((p1 &&& (1048575 : Int32)).toInt64))))])) _
      refine XS.l2dS X3.here hx rfl (hb hby at_92) rfl rfl ?_
      show Steps p.tables e below (T3.setTop (mkF m 93 #[.val (.int p0), .val (.int p1), .val (.int p2), .val (.int p3), .val (.int (p0 >>> ((12 : Int32) &&& 31))), .val (.int (p1 &&& (1048575 : Int32))), .val (.int (p2 >>> ((12 : Int32) &&& 31))), .val (.int (m0_0 p0 p1 p2 p3)), .val (.ref b2), .val (.long (0 : Int64)), .second, .val (.long (((0 : Int64) * (1024 : Int64)) + (((p0 >>> ((12 : Int32) &&& 31)).toInt64) * ((p1 &&& (1048575 : Int32)).toInt64)))), .second, .unset, .unset] [(.double (FP.l2d (((0 : Int64) * (1024 : Int64)) + (((p0 >>> ((12 : Int32) &&& 31)).toInt64) * ((p1 &&& (1048575 : Int32)).toInt64)))))])) _
      refine X3.ldc2DoubleC hx hown (mvT hZ (hw _ (List.mem_of_getElem? (i := 4) rfl))) (g := (mkF m 93 #[.val (.int p0), .val (.int p1), .val (.int p2), .val (.int p3), .val (.int (p0 >>> ((12 : Int32) &&& 31))), .val (.int (p1 &&& (1048575 : Int32))), .val (.int (p2 >>> ((12 : Int32) &&& 31))), .val (.int (m0_0 p0 p1 p2 p3)), .val (.ref b2), .val (.long (0 : Int64)), .second, .val (.long (((0 : Int64) * (1024 : Int64)) + (((p0 >>> ((12 : Int32) &&& 31)).toInt64) * ((p1 &&& (1048575 : Int32)).toInt64)))), .second, .unset, .unset] [(.double (FP.l2d (((0 : Int64) * (1024 : Int64)) + (((p0 >>> ((12 : Int32) &&& 31)).toInt64) * ((p1 &&& (1048575 : Int32)).toInt64)))))])) rfl (hb hby at_93) _ ?_
      show Steps p.tables e below (T3.setTop (mkF m 96 #[.val (.int p0), .val (.int p1), .val (.int p2), .val (.int p3), .val (.int (p0 >>> ((12 : Int32) &&& 31))), .val (.int (p1 &&& (1048575 : Int32))), .val (.int (p2 >>> ((12 : Int32) &&& 31))), .val (.int (m0_0 p0 p1 p2 p3)), .val (.ref b2), .val (.long (0 : Int64)), .second, .val (.long (((0 : Int64) * (1024 : Int64)) + (((p0 >>> ((12 : Int32) &&& 31)).toInt64) * ((p1 &&& (1048575 : Int32)).toInt64)))), .second, .unset, .unset] [(.double (4652218415073722368 : UInt64)), (.double (FP.l2d (((0 : Int64) * (1024 : Int64)) + (((p0 >>> ((12 : Int32) &&& 31)).toInt64) * ((p1 &&& (1048575 : Int32)).toInt64)))))])) _
      refine XS.ddivS X3.here hx rfl (hb hby at_96) rfl (own_no (own_den (0 : Int64) 0 rfl (by decide) (p0 >>> ((12 : Int32) &&& 31)) (p1 &&& (1048575 : Int32)) (own_b p0) (own_mb p1))) rfl ?_
      show Steps p.tables e below (T3.setTop (mkF m 97 #[.val (.int p0), .val (.int p1), .val (.int p2), .val (.int p3), .val (.int (p0 >>> ((12 : Int32) &&& 31))), .val (.int (p1 &&& (1048575 : Int32))), .val (.int (p2 >>> ((12 : Int32) &&& 31))), .val (.int (m0_0 p0 p1 p2 p3)), .val (.ref b2), .val (.long (0 : Int64)), .second, .val (.long (((0 : Int64) * (1024 : Int64)) + (((p0 >>> ((12 : Int32) &&& 31)).toInt64) * ((p1 &&& (1048575 : Int32)).toInt64)))), .second, .unset, .unset] [(.double (FP.ddiv (FP.l2d (((0 : Int64) * (1024 : Int64)) + (((p0 >>> ((12 : Int32) &&& 31)).toInt64) * ((p1 &&& (1048575 : Int32)).toInt64)))) (4652218415073722368 : UInt64)))])) _
      refine XS.dstore X3.here hx rfl (hb hby at_97) rfl (l' := #[.val (.int p0), .val (.int p1), .val (.int p2), .val (.int p3), .val (.int (p0 >>> ((12 : Int32) &&& 31))), .val (.int (p1 &&& (1048575 : Int32))), .val (.int (p2 >>> ((12 : Int32) &&& 31))), .val (.int (m0_0 p0 p1 p2 p3)), .val (.ref b2), .val (.long (0 : Int64)), .second, .val (.long (((0 : Int64) * (1024 : Int64)) + (((p0 >>> ((12 : Int32) &&& 31)).toInt64) * ((p1 &&& (1048575 : Int32)).toInt64)))), .second, .val (.double (FP.ddiv (FP.l2d (((0 : Int64) * (1024 : Int64)) + (((p0 >>> ((12 : Int32) &&& 31)).toInt64) * ((p1 &&& (1048575 : Int32)).toInt64)))) (4652218415073722368 : UInt64))), .second]) rfl ?_
      show Steps p.tables e below (T3.setTop (mkF m 99 #[.val (.int p0), .val (.int p1), .val (.int p2), .val (.int p3), .val (.int (p0 >>> ((12 : Int32) &&& 31))), .val (.int (p1 &&& (1048575 : Int32))), .val (.int (p2 >>> ((12 : Int32) &&& 31))), .val (.int (m0_0 p0 p1 p2 p3)), .val (.ref b2), .val (.long (0 : Int64)), .second, .val (.long (((0 : Int64) * (1024 : Int64)) + (((p0 >>> ((12 : Int32) &&& 31)).toInt64) * ((p1 &&& (1048575 : Int32)).toInt64)))), .second, .val (.double (FP.ddiv (FP.l2d (((0 : Int64) * (1024 : Int64)) + (((p0 >>> ((12 : Int32) &&& 31)).toInt64) * ((p1 &&& (1048575 : Int32)).toInt64)))) (4652218415073722368 : UInt64))), .second] [])) _
      refine XS.aload X3.here hx rfl (hb hby at_99) rfl rfl ?_
      show Steps p.tables e below (T3.setTop (mkF m 101 #[.val (.int p0), .val (.int p1), .val (.int p2), .val (.int p3), .val (.int (p0 >>> ((12 : Int32) &&& 31))), .val (.int (p1 &&& (1048575 : Int32))), .val (.int (p2 >>> ((12 : Int32) &&& 31))), .val (.int (m0_0 p0 p1 p2 p3)), .val (.ref b2), .val (.long (0 : Int64)), .second, .val (.long (((0 : Int64) * (1024 : Int64)) + (((p0 >>> ((12 : Int32) &&& 31)).toInt64) * ((p1 &&& (1048575 : Int32)).toInt64)))), .second, .val (.double (FP.ddiv (FP.l2d (((0 : Int64) * (1024 : Int64)) + (((p0 >>> ((12 : Int32) &&& 31)).toInt64) * ((p1 &&& (1048575 : Int32)).toInt64)))) (4652218415073722368 : UInt64))), .second] [(.ref b2)])) _
      refine XS.iload X3.here hx rfl (hb hby at_101) rfl ?_
      show Steps p.tables e below (T3.setTop (mkF m 103 #[.val (.int p0), .val (.int p1), .val (.int p2), .val (.int p3), .val (.int (p0 >>> ((12 : Int32) &&& 31))), .val (.int (p1 &&& (1048575 : Int32))), .val (.int (p2 >>> ((12 : Int32) &&& 31))), .val (.int (m0_0 p0 p1 p2 p3)), .val (.ref b2), .val (.long (0 : Int64)), .second, .val (.long (((0 : Int64) * (1024 : Int64)) + (((p0 >>> ((12 : Int32) &&& 31)).toInt64) * ((p1 &&& (1048575 : Int32)).toInt64)))), .second, .val (.double (FP.ddiv (FP.l2d (((0 : Int64) * (1024 : Int64)) + (((p0 >>> ((12 : Int32) &&& 31)).toInt64) * ((p1 &&& (1048575 : Int32)).toInt64)))) (4652218415073722368 : UInt64))), .second] [(.int (p1 &&& (1048575 : Int32))), (.ref b2)])) _
      refine XS.i2dS X3.here hx rfl (hb hby at_103) rfl rfl ?_
      show Steps p.tables e below (T3.setTop (mkF m 104 #[.val (.int p0), .val (.int p1), .val (.int p2), .val (.int p3), .val (.int (p0 >>> ((12 : Int32) &&& 31))), .val (.int (p1 &&& (1048575 : Int32))), .val (.int (p2 >>> ((12 : Int32) &&& 31))), .val (.int (m0_0 p0 p1 p2 p3)), .val (.ref b2), .val (.long (0 : Int64)), .second, .val (.long (((0 : Int64) * (1024 : Int64)) + (((p0 >>> ((12 : Int32) &&& 31)).toInt64) * ((p1 &&& (1048575 : Int32)).toInt64)))), .second, .val (.double (FP.ddiv (FP.l2d (((0 : Int64) * (1024 : Int64)) + (((p0 >>> ((12 : Int32) &&& 31)).toInt64) * ((p1 &&& (1048575 : Int32)).toInt64)))) (4652218415073722368 : UInt64))), .second] [(.double (FP.i2d (p1 &&& (1048575 : Int32)))), (.ref b2)])) _
      refine st5.trans ?_
      show Steps p.tables e below (T5.setTop (mkF m 107 #[.val (.int p0), .val (.int p1), .val (.int p2), .val (.int p3), .val (.int (p0 >>> ((12 : Int32) &&& 31))), .val (.int (p1 &&& (1048575 : Int32))), .val (.int (p2 >>> ((12 : Int32) &&& 31))), .val (.int (m0_0 p0 p1 p2 p3)), .val (.ref b2), .val (.long (0 : Int64)), .second, .val (.long (((0 : Int64) * (1024 : Int64)) + (((p0 >>> ((12 : Int32) &&& 31)).toInt64) * ((p1 &&& (1048575 : Int32)).toInt64)))), .second, .val (.double (FP.ddiv (FP.l2d (((0 : Int64) * (1024 : Int64)) + (((p0 >>> ((12 : Int32) &&& 31)).toInt64) * ((p1 &&& (1048575 : Int32)).toInt64)))) (4652218415073722368 : UInt64))), .second] [(.double (FP.dadd 0 (FP.dmul (FP.ddiv (FP.i2d (p0 >>> ((12 : Int32) &&& 31))) (4652218415073722368 : UInt64)) (FP.i2d (p1 &&& (1048575 : Int32))))))])) _
      refine XS.dload X5.here hx rfl (hb hby at_107) rfl ?_
      show Steps p.tables e below (T5.setTop (mkF m 109 #[.val (.int p0), .val (.int p1), .val (.int p2), .val (.int p3), .val (.int (p0 >>> ((12 : Int32) &&& 31))), .val (.int (p1 &&& (1048575 : Int32))), .val (.int (p2 >>> ((12 : Int32) &&& 31))), .val (.int (m0_0 p0 p1 p2 p3)), .val (.ref b2), .val (.long (0 : Int64)), .second, .val (.long (((0 : Int64) * (1024 : Int64)) + (((p0 >>> ((12 : Int32) &&& 31)).toInt64) * ((p1 &&& (1048575 : Int32)).toInt64)))), .second, .val (.double (FP.ddiv (FP.l2d (((0 : Int64) * (1024 : Int64)) + (((p0 >>> ((12 : Int32) &&& 31)).toInt64) * ((p1 &&& (1048575 : Int32)).toInt64)))) (4652218415073722368 : UInt64))), .second] [(.double (FP.ddiv (FP.l2d (((0 : Int64) * (1024 : Int64)) + (((p0 >>> ((12 : Int32) &&& 31)).toInt64) * ((p1 &&& (1048575 : Int32)).toInt64)))) (4652218415073722368 : UInt64))), (.double (FP.dadd 0 (FP.dmul (FP.ddiv (FP.i2d (p0 >>> ((12 : Int32) &&& 31))) (4652218415073722368 : UInt64)) (FP.i2d (p1 &&& (1048575 : Int32))))))])) _
      refine XS.dcmpS X5.here hx rfl (hb hby at_109) rfl rfl ?_
      show Steps p.tables e below (T5.setTop (mkF m 110 #[.val (.int p0), .val (.int p1), .val (.int p2), .val (.int p3), .val (.int (p0 >>> ((12 : Int32) &&& 31))), .val (.int (p1 &&& (1048575 : Int32))), .val (.int (p2 >>> ((12 : Int32) &&& 31))), .val (.int (m0_0 p0 p1 p2 p3)), .val (.ref b2), .val (.long (0 : Int64)), .second, .val (.long (((0 : Int64) * (1024 : Int64)) + (((p0 >>> ((12 : Int32) &&& 31)).toInt64) * ((p1 &&& (1048575 : Int32)).toInt64)))), .second, .val (.double (FP.ddiv (FP.l2d (((0 : Int64) * (1024 : Int64)) + (((p0 >>> ((12 : Int32) &&& 31)).toInt64) * ((p1 &&& (1048575 : Int32)).toInt64)))) (4652218415073722368 : UInt64))), .second] [(.int (cmpValue (FP.dcmp (FP.dadd 0 (FP.dmul (FP.ddiv (FP.i2d (p0 >>> ((12 : Int32) &&& 31))) (4652218415073722368 : UInt64)) (FP.i2d (p1 &&& (1048575 : Int32))))) (FP.ddiv (FP.l2d (((0 : Int64) * (1024 : Int64)) + (((p0 >>> ((12 : Int32) &&& 31)).toInt64) * ((p1 &&& (1048575 : Int32)).toInt64)))) (4652218415073722368 : UInt64))) .l))])) _
      refine XS.ifNo X5.here hx rfl (hb hby at_110) rfl ((if0 _ _).trans (teq (own_eq (own_all own_z0 (by decide) (p0 >>> ((12 : Int32) &&& 31)) (p1 &&& (1048575 : Int32)) (own_b p0) (own_mb p1)) (own_den (0 : Int64) 0 rfl (by decide) (p0 >>> ((12 : Int32) &&& 31)) (p1 &&& (1048575 : Int32)) (own_b p0) (own_mb p1)))).2) ?_
      show Steps p.tables e below (T5.setTop (mkF m 113 #[.val (.int p0), .val (.int p1), .val (.int p2), .val (.int p3), .val (.int (p0 >>> ((12 : Int32) &&& 31))), .val (.int (p1 &&& (1048575 : Int32))), .val (.int (p2 >>> ((12 : Int32) &&& 31))), .val (.int (m0_0 p0 p1 p2 p3)), .val (.ref b2), .val (.long (0 : Int64)), .second, .val (.long (((0 : Int64) * (1024 : Int64)) + (((p0 >>> ((12 : Int32) &&& 31)).toInt64) * ((p1 &&& (1048575 : Int32)).toInt64)))), .second, .val (.double (FP.ddiv (FP.l2d (((0 : Int64) * (1024 : Int64)) + (((p0 >>> ((12 : Int32) &&& 31)).toInt64) * ((p1 &&& (1048575 : Int32)).toInt64)))) (4652218415073722368 : UInt64))), .second] [])) _
      refine XS.iconst X5.here hx rfl (hb hby at_113) ?_
      show Steps p.tables e below (T5.setTop (mkF m 114 #[.val (.int p0), .val (.int p1), .val (.int p2), .val (.int p3), .val (.int (p0 >>> ((12 : Int32) &&& 31))), .val (.int (p1 &&& (1048575 : Int32))), .val (.int (p2 >>> ((12 : Int32) &&& 31))), .val (.int (m0_0 p0 p1 p2 p3)), .val (.ref b2), .val (.long (0 : Int64)), .second, .val (.long (((0 : Int64) * (1024 : Int64)) + (((p0 >>> ((12 : Int32) &&& 31)).toInt64) * ((p1 &&& (1048575 : Int32)).toInt64)))), .second, .val (.double (FP.ddiv (FP.l2d (((0 : Int64) * (1024 : Int64)) + (((p0 >>> ((12 : Int32) &&& 31)).toInt64) * ((p1 &&& (1048575 : Int32)).toInt64)))) (4652218415073722368 : UInt64))), .second] [(.int (1 : Int32))])) _
      refine XS.goto X5.here hx rfl (pc0 := 114) (pc' := 118) rfl (hb hby at_114) (by decide) (by decide) ?_
      exact kt
    obtain ⟨fs, hr, hrun, hended, hW, hsame⟩ := X5.leave (v := some (.int (1 : Int32))) (fun h => by rw [Bd.returns] at h; cases h) (BodyLoose.notSynchronized Bd)
    refine ⟨_, _, ?_, hrun, hended, _, _, rfl, ?_, ⟨_, rfl⟩, hW, hsame.mono (by decide) (by decide)⟩
    · show Steps p.tables e below (T5.setTop (mkF m 118 #[.val (.int p0), .val (.int p1), .val (.int p2), .val (.int p3), .val (.int (p0 >>> ((12 : Int32) &&& 31))), .val (.int (p1 &&& (1048575 : Int32))), .val (.int (p2 >>> ((12 : Int32) &&& 31))), .val (.int (m0_0 p0 p1 p2 p3)), .val (.ref b2), .val (.long (0 : Int64)), .second, .val (.long (((0 : Int64) * (1024 : Int64)) + (((p0 >>> ((12 : Int32) &&& 31)).toInt64) * ((p1 &&& (1048575 : Int32)).toInt64)))), .second, .val (.double (FP.ddiv (FP.l2d (((0 : Int64) * (1024 : Int64)) + (((p0 >>> ((12 : Int32) &&& 31)).toInt64) * ((p1 &&& (1048575 : Int32)).toInt64)))) (4652218415073722368 : UInt64))), .second] [(.int (1 : Int32))])) _
      exact retN X5 hx (t := .boolean) Bd.returns (by simp) (hb hby at_118) hr
    · show Q0 Z p0 p1 p2 p3 h0 n0 _ T5.heap _
      rw [e5]
      exact ⟨by rw [show f0 p0 p1 p2 p3 = (1 : Int32) from by unfold f0; rw [if_pos hc49_4]], N5⟩
  · obtain ⟨cq6, kq6, q6a, q6b, q6c⟩ := isOf hZ rfl f3_0
    obtain ⟨_, _, ⟨T6, L6, k6, n6⟩, -, X6, ⟨Lc6, hQ6, l6, y6, z6⟩, st6⟩ := X3.virtualBack hx (y := (⟨"com/example/kinetic_model_check/kineticmodelcheck/dynamics/Tolerances", "setAbsolute", "(D)V"⟩ : MethodName)) (z := (⟨"com/example/kinetic_model_check/kineticmodelcheck/dynamics/Tolerances", "setAbsolute", "(D)V"⟩ : MethodName)) hown (mvT hZ (hw _ (List.mem_of_getElem? (i := 13) rfl))) (mvT hZ (hw _ (List.mem_of_getElem? (i := 14) rfl))) (notFace_of_selects (args := #[]) (mvT hZ (hw _ (List.mem_of_getElem? (i := 16) rfl)))) (mvT hZ (hw _ (List.mem_of_getElem? (i := 16) rfl))) (mvT hZ (hw _ (List.mem_of_getElem? (i := 15) rfl))) (by decide) (backOf (W := 0) (rm3 l Z aw hw [] b2 (FP.i2d (p2 >>> ((12 : Int32) &&& 31))) (FP.ddiv (FP.i2d (p0 >>> ((12 : Int32) &&& 31))) (4652218415073722368 : UInt64)) 0 T3.heap n0 Z3 f3_0 P3_0 P3_1 lo2) hZ (hw _ (List.mem_of_getElem? (i := 17) rfl)) (hw _ (List.mem_of_getElem? (i := 3) rfl)) (by decide) (by decide)) q6a q6c (g := (mkF m 57 #[.val (.int p0), .val (.int p1), .val (.int p2), .val (.int p3), .val (.int (p0 >>> ((12 : Int32) &&& 31))), .val (.int (p1 &&& (1048575 : Int32))), .val (.int (p2 >>> ((12 : Int32) &&& 31))), .val (.int (m0_0 p0 p1 p2 p3)), .val (.ref b2), .unset, .unset, .unset, .unset, .unset, .unset] [(.double (FP.i2d (p2 >>> ((12 : Int32) &&& 31)))), (.ref b2)])) rfl (by rw [hml]; rfl) (Steps.refl _) (argsL := [(.double (FP.i2d (p2 >>> ((12 : Int32) &&& 31))))]) (rest := []) (lenOf pd_0_0 rfl) rfl (by show 2 * 0 + _ ≤ _; exact Nat.le_of_eq rfl) (hb hby at_57) (fun _ _ => ⟨rfl, rfl, (by decide : 1 + 0 ≤ _), (by decide : 2 + 0 ≤ _)⟩)
    dsimp only [Pt.U, Pt.locs, Pt.cells, Pt.slots] at X6 l6 y6 z6 st6 hQ6
    rw [l6, y6, z6] at X6
    obtain ⟨rfl, Nq6, Kq6, P6_0, P6_1⟩ := hQ6
    have N6 := Fr.app N3 Nq6
    have f6_0 := f3_0.keep Kq6
    have K6 : Keep h0 T6.heap [] := K3.trans Kq6 (allS (Or.inr sz2) all0)
    have Z6 : n0 ≤ T6.heap.size := Nat.le_trans Z3 Kq6.1
    obtain ⟨cq7, kq7, q7a, q7b, q7c⟩ := isOf hZ rfl f6_0
    obtain ⟨_, _, ⟨T7, L7, k7, n7⟩, -, X7, ⟨Lc7, hQ7, l7, y7, z7⟩, st7⟩ := X6.virtualBack hx (y := (⟨"com/example/kinetic_model_check/kineticmodelcheck/dynamics/Tolerances", "allowed", "(D)D"⟩ : MethodName)) (z := (⟨"com/example/kinetic_model_check/kineticmodelcheck/dynamics/Tolerances", "allowed", "(D)D"⟩ : MethodName)) hown (mvT hZ (hw _ (List.mem_of_getElem? (i := 21) rfl))) (mvT hZ (hw _ (List.mem_of_getElem? (i := 22) rfl))) (notFace_of_selects (args := #[]) (mvT hZ (hw _ (List.mem_of_getElem? (i := 24) rfl)))) (mvT hZ (hw _ (List.mem_of_getElem? (i := 24) rfl))) (mvT hZ (hw _ (List.mem_of_getElem? (i := 23) rfl))) (by decide) (backOf (W := 0) (rm4 l Z aw hw [] b2 (FP.i2d (p1 &&& (1048575 : Int32))) (FP.ddiv (FP.i2d (p0 >>> ((12 : Int32) &&& 31))) (4652218415073722368 : UInt64)) (FP.i2d (p2 >>> ((12 : Int32) &&& 31))) T6.heap n0 Z6 f6_0 P6_0 P6_1 (own_no (own_prd _ _ (own_b p0) (own_mb p1))) (own_no (own_all (Jvm.FP.Core.own_up (Jvm.FP.Core.i2d_int (p2 >>> ((12 : Int32) &&& 31)))) (own_b p2) (p0 >>> ((12 : Int32) &&& 31)) (p1 &&& (1048575 : Int32)) (own_b p0) (own_mb p1)))) hZ (hw _ (List.mem_of_getElem? (i := 25) rfl)) (hw _ (List.mem_of_getElem? (i := 3) rfl)) (by decide) (by decide)) q7a q7c (g := (mkF m 104 #[.val (.int p0), .val (.int p1), .val (.int p2), .val (.int p3), .val (.int (p0 >>> ((12 : Int32) &&& 31))), .val (.int (p1 &&& (1048575 : Int32))), .val (.int (p2 >>> ((12 : Int32) &&& 31))), .val (.int (m0_0 p0 p1 p2 p3)), .val (.ref b2), .val (.long ((p2 >>> ((12 : Int32) &&& 31)).toInt64)), .second, .val (.long ((((p2 >>> ((12 : Int32) &&& 31)).toInt64) * (1024 : Int64)) + (((p0 >>> ((12 : Int32) &&& 31)).toInt64) * ((p1 &&& (1048575 : Int32)).toInt64)))), .second, .val (.double (FP.ddiv (FP.l2d ((((p2 >>> ((12 : Int32) &&& 31)).toInt64) * (1024 : Int64)) + (((p0 >>> ((12 : Int32) &&& 31)).toInt64) * ((p1 &&& (1048575 : Int32)).toInt64)))) (4652218415073722368 : UInt64))), .second] [(.double (FP.i2d (p1 &&& (1048575 : Int32)))), (.ref b2)])) rfl (by rw [hml]; rfl) (Steps.refl _) (argsL := [(.double (FP.i2d (p1 &&& (1048575 : Int32))))]) (rest := []) (lenOf pd_0_1 rfl) rfl (by show 2 * 0 + _ ≤ _; exact Nat.le_of_eq rfl) (hb hby at_104) (fun _ _ => ⟨rfl, rfl, (by decide : 1 + 0 ≤ _), (by decide : 2 + 0 ≤ _)⟩)
    dsimp only [Pt.U, Pt.locs, Pt.cells, Pt.slots] at X7 l7 y7 z7 st7 hQ7
    rw [l7, y7, z7] at X7
    obtain ⟨rfl, Nq7, e7⟩ := hQ7
    have N7 := Fr.app N6 Nq7
    refine own_back (b := T7.setTop (mkF m 118 #[.val (.int p0), .val (.int p1), .val (.int p2), .val (.int p3), .val (.int (p0 >>> ((12 : Int32) &&& 31))), .val (.int (p1 &&& (1048575 : Int32))), .val (.int (p2 >>> ((12 : Int32) &&& 31))), .val (.int (m0_0 p0 p1 p2 p3)), .val (.ref b2), .val (.long ((p2 >>> ((12 : Int32) &&& 31)).toInt64)), .second, .val (.long ((((p2 >>> ((12 : Int32) &&& 31)).toInt64) * (1024 : Int64)) + (((p0 >>> ((12 : Int32) &&& 31)).toInt64) * ((p1 &&& (1048575 : Int32)).toInt64)))), .second, .val (.double (FP.ddiv (FP.l2d ((((p2 >>> ((12 : Int32) &&& 31)).toInt64) * (1024 : Int64)) + (((p0 >>> ((12 : Int32) &&& 31)).toInt64) * ((p1 &&& (1048575 : Int32)).toInt64)))) (4652218415073722368 : UInt64))), .second] [(.int (1 : Int32))])) (fun t kt => ?_) ?_
    · show Steps p.tables e below (T3.setTop (mkF m 49 #[.val (.int p0), .val (.int p1), .val (.int p2), .val (.int p3), .val (.int (p0 >>> ((12 : Int32) &&& 31))), .val (.int (p1 &&& (1048575 : Int32))), .val (.int (p2 >>> ((12 : Int32) &&& 31))), .val (.int (m0_0 p0 p1 p2 p3)), .val (.ref b2), .unset, .unset, .unset, .unset, .unset, .unset] [(.int (m0_0 p0 p1 p2 p3))])) _
      refine XS.ifNo X3.here hx rfl (hb hby at_49) rfl ((if0 _ _).trans (feq hc49_4).1) ?_
      show Steps p.tables e below (T3.setTop (mkF m 52 #[.val (.int p0), .val (.int p1), .val (.int p2), .val (.int p3), .val (.int (p0 >>> ((12 : Int32) &&& 31))), .val (.int (p1 &&& (1048575 : Int32))), .val (.int (p2 >>> ((12 : Int32) &&& 31))), .val (.int (m0_0 p0 p1 p2 p3)), .val (.ref b2), .unset, .unset, .unset, .unset, .unset, .unset] [])) _
      refine XS.aload X3.here hx rfl (hb hby at_52) rfl rfl ?_
      show Steps p.tables e below (T3.setTop (mkF m 54 #[.val (.int p0), .val (.int p1), .val (.int p2), .val (.int p3), .val (.int (p0 >>> ((12 : Int32) &&& 31))), .val (.int (p1 &&& (1048575 : Int32))), .val (.int (p2 >>> ((12 : Int32) &&& 31))), .val (.int (m0_0 p0 p1 p2 p3)), .val (.ref b2), .unset, .unset, .unset, .unset, .unset, .unset] [(.ref b2)])) _
      refine XS.iload X3.here hx rfl (hb hby at_54) rfl ?_
      show Steps p.tables e below (T3.setTop (mkF m 56 #[.val (.int p0), .val (.int p1), .val (.int p2), .val (.int p3), .val (.int (p0 >>> ((12 : Int32) &&& 31))), .val (.int (p1 &&& (1048575 : Int32))), .val (.int (p2 >>> ((12 : Int32) &&& 31))), .val (.int (m0_0 p0 p1 p2 p3)), .val (.ref b2), .unset, .unset, .unset, .unset, .unset, .unset] [(.int (p2 >>> ((12 : Int32) &&& 31))), (.ref b2)])) _
      refine XS.i2dS X3.here hx rfl (hb hby at_56) rfl rfl ?_
      show Steps p.tables e below (T3.setTop (mkF m 57 #[.val (.int p0), .val (.int p1), .val (.int p2), .val (.int p3), .val (.int (p0 >>> ((12 : Int32) &&& 31))), .val (.int (p1 &&& (1048575 : Int32))), .val (.int (p2 >>> ((12 : Int32) &&& 31))), .val (.int (m0_0 p0 p1 p2 p3)), .val (.ref b2), .unset, .unset, .unset, .unset, .unset, .unset] [(.double (FP.i2d (p2 >>> ((12 : Int32) &&& 31)))), (.ref b2)])) _
      refine st6.trans ?_
      show Steps p.tables e below (T6.setTop (mkF m 60 #[.val (.int p0), .val (.int p1), .val (.int p2), .val (.int p3), .val (.int (p0 >>> ((12 : Int32) &&& 31))), .val (.int (p1 &&& (1048575 : Int32))), .val (.int (p2 >>> ((12 : Int32) &&& 31))), .val (.int (m0_0 p0 p1 p2 p3)), .val (.ref b2), .unset, .unset, .unset, .unset, .unset, .unset] [])) _
      refine XS.iload X6.here hx rfl (hb hby at_60) rfl ?_
      show Steps p.tables e below (T6.setTop (mkF m 62 #[.val (.int p0), .val (.int p1), .val (.int p2), .val (.int p3), .val (.int (p0 >>> ((12 : Int32) &&& 31))), .val (.int (p1 &&& (1048575 : Int32))), .val (.int (p2 >>> ((12 : Int32) &&& 31))), .val (.int (m0_0 p0 p1 p2 p3)), .val (.ref b2), .unset, .unset, .unset, .unset, .unset, .unset] [(.int (m0_0 p0 p1 p2 p3))])) _
      refine XS.ifNo X6.here hx rfl (hb hby at_62) rfl ((if0 _ _).trans (feq hc49_4).1) ?_
      show Steps p.tables e below (T6.setTop (mkF m 65 #[.val (.int p0), .val (.int p1), .val (.int p2), .val (.int p3), .val (.int (p0 >>> ((12 : Int32) &&& 31))), .val (.int (p1 &&& (1048575 : Int32))), .val (.int (p2 >>> ((12 : Int32) &&& 31))), .val (.int (m0_0 p0 p1 p2 p3)), .val (.ref b2), .unset, .unset, .unset, .unset, .unset, .unset] [])) _
      refine XS.iload X6.here hx rfl (hb hby at_65) rfl ?_
      show Steps p.tables e below (T6.setTop (mkF m 67 #[.val (.int p0), .val (.int p1), .val (.int p2), .val (.int p3), .val (.int (p0 >>> ((12 : Int32) &&& 31))), .val (.int (p1 &&& (1048575 : Int32))), .val (.int (p2 >>> ((12 : Int32) &&& 31))), .val (.int (m0_0 p0 p1 p2 p3)), .val (.ref b2), .unset, .unset, .unset, .unset, .unset, .unset] [(.int (p2 >>> ((12 : Int32) &&& 31)))])) _
      refine XS.i2l X6.here hx rfl (hb hby at_67) rfl ?_
      show Steps p.tables e below (T6.setTop (mkF m 68 #[.val (.int p0), .val (.int p1), .val (.int p2), .val (.int p3), .val (.int (p0 >>> ((12 : Int32) &&& 31))), .val (.int (p1 &&& (1048575 : Int32))), .val (.int (p2 >>> ((12 : Int32) &&& 31))), .val (.int (m0_0 p0 p1 p2 p3)), .val (.ref b2), .unset, .unset, .unset, .unset, .unset, .unset] [(.long ((p2 >>> ((12 : Int32) &&& 31)).toInt64))])) _
      refine XS.goto X6.here hx rfl (pc0 := 68) (pc' := 72) rfl (hb hby at_68) (by decide) (by decide) ?_
      show Steps p.tables e below (T6.setTop (mkF m 72 #[.val (.int p0), .val (.int p1), .val (.int p2), .val (.int p3), .val (.int (p0 >>> ((12 : Int32) &&& 31))), .val (.int (p1 &&& (1048575 : Int32))), .val (.int (p2 >>> ((12 : Int32) &&& 31))), .val (.int (m0_0 p0 p1 p2 p3)), .val (.ref b2), .unset, .unset, .unset, .unset, .unset, .unset] [(.long ((p2 >>> ((12 : Int32) &&& 31)).toInt64))])) _
      refine XS.lstore X6.here hx rfl (hb hby at_72) rfl (l' := #[.val (.int p0), .val (.int p1), .val (.int p2), .val (.int p3), .val (.int (p0 >>> ((12 : Int32) &&& 31))), .val (.int (p1 &&& (1048575 : Int32))), .val (.int (p2 >>> ((12 : Int32) &&& 31))), .val (.int (m0_0 p0 p1 p2 p3)), .val (.ref b2), .val (.long ((p2 >>> ((12 : Int32) &&& 31)).toInt64)), .second, .unset, .unset, .unset, .unset]) rfl ?_
      show Steps p.tables e below (T6.setTop (mkF m 74 #[.val (.int p0), .val (.int p1), .val (.int p2), .val (.int p3), .val (.int (p0 >>> ((12 : Int32) &&& 31))), .val (.int (p1 &&& (1048575 : Int32))), .val (.int (p2 >>> ((12 : Int32) &&& 31))), .val (.int (m0_0 p0 p1 p2 p3)), .val (.ref b2), .val (.long ((p2 >>> ((12 : Int32) &&& 31)).toInt64)), .second, .unset, .unset, .unset, .unset] [])) _
      refine XS.lload X6.here hx rfl (hb hby at_74) rfl ?_
      show Steps p.tables e below (T6.setTop (mkF m 76 #[.val (.int p0), .val (.int p1), .val (.int p2), .val (.int p3), .val (.int (p0 >>> ((12 : Int32) &&& 31))), .val (.int (p1 &&& (1048575 : Int32))), .val (.int (p2 >>> ((12 : Int32) &&& 31))), .val (.int (m0_0 p0 p1 p2 p3)), .val (.ref b2), .val (.long ((p2 >>> ((12 : Int32) &&& 31)).toInt64)), .second, .unset, .unset, .unset, .unset] [(.long ((p2 >>> ((12 : Int32) &&& 31)).toInt64))])) _
      refine X6.ldc2Long hx hown (mvT hZ (hw _ (List.mem_of_getElem? (i := 20) rfl))) (g := (mkF m 76 #[.val (.int p0), .val (.int p1), .val (.int p2), .val (.int p3), .val (.int (p0 >>> ((12 : Int32) &&& 31))), .val (.int (p1 &&& (1048575 : Int32))), .val (.int (p2 >>> ((12 : Int32) &&& 31))), .val (.int (m0_0 p0 p1 p2 p3)), .val (.ref b2), .val (.long ((p2 >>> ((12 : Int32) &&& 31)).toInt64)), .second, .unset, .unset, .unset, .unset] [(.long ((p2 >>> ((12 : Int32) &&& 31)).toInt64))])) rfl (hb hby at_76) _ ?_
      show Steps p.tables e below (T6.setTop (mkF m 79 #[.val (.int p0), .val (.int p1), .val (.int p2), .val (.int p3), .val (.int (p0 >>> ((12 : Int32) &&& 31))), .val (.int (p1 &&& (1048575 : Int32))), .val (.int (p2 >>> ((12 : Int32) &&& 31))), .val (.int (m0_0 p0 p1 p2 p3)), .val (.ref b2), .val (.long ((p2 >>> ((12 : Int32) &&& 31)).toInt64)), .second, .unset, .unset, .unset, .unset] [(.long (1024 : Int64)), (.long ((p2 >>> ((12 : Int32) &&& 31)).toInt64))])) _
      refine XS.lmul X6.here hx rfl (hb hby at_79) rfl ?_
      show Steps p.tables e below (T6.setTop (mkF m 80 #[.val (.int p0), .val (.int p1), .val (.int p2), .val (.int p3), .val (.int (p0 >>> ((12 : Int32) &&& 31))), .val (.int (p1 &&& (1048575 : Int32))), .val (.int (p2 >>> ((12 : Int32) &&& 31))), .val (.int (m0_0 p0 p1 p2 p3)), .val (.ref b2), .val (.long ((p2 >>> ((12 : Int32) &&& 31)).toInt64)), .second, .unset, .unset, .unset, .unset] [(.long (((p2 >>> ((12 : Int32) &&& 31)).toInt64) * (1024 : Int64)))])) _
      refine XS.iload X6.here hx rfl (hb hby at_80) rfl ?_
      show Steps p.tables e below (T6.setTop (mkF m 82 #[.val (.int p0), .val (.int p1), .val (.int p2), .val (.int p3), .val (.int (p0 >>> ((12 : Int32) &&& 31))), .val (.int (p1 &&& (1048575 : Int32))), .val (.int (p2 >>> ((12 : Int32) &&& 31))), .val (.int (m0_0 p0 p1 p2 p3)), .val (.ref b2), .val (.long ((p2 >>> ((12 : Int32) &&& 31)).toInt64)), .second, .unset, .unset, .unset, .unset] [(.int (p0 >>> ((12 : Int32) &&& 31))), (.long (((p2 >>> ((12 : Int32) &&& 31)).toInt64) * (1024 : Int64)))])) _
      refine XS.i2l X6.here hx rfl (hb hby at_82) rfl ?_
      show Steps p.tables e below (T6.setTop (mkF m 83 #[.val (.int p0), .val (.int p1), .val (.int p2), .val (.int p3), .val (.int (p0 >>> ((12 : Int32) &&& 31))), .val (.int (p1 &&& (1048575 : Int32))), .val (.int (p2 >>> ((12 : Int32) &&& 31))), .val (.int (m0_0 p0 p1 p2 p3)), .val (.ref b2), .val (.long ((p2 >>> ((12 : Int32) &&& 31)).toInt64)), .second, .unset, .unset, .unset, .unset] [(.long ((p0 >>> ((12 : Int32) &&& 31)).toInt64)), (.long (((p2 >>> ((12 : Int32) &&& 31)).toInt64) * (1024 : Int64)))])) _
      refine XS.iload X6.here hx rfl (hb hby at_83) rfl ?_
      show Steps p.tables e below (T6.setTop (mkF m 85 #[.val (.int p0), .val (.int p1), .val (.int p2), .val (.int p3), .val (.int (p0 >>> ((12 : Int32) &&& 31))), .val (.int (p1 &&& (1048575 : Int32))), .val (.int (p2 >>> ((12 : Int32) &&& 31))), .val (.int (m0_0 p0 p1 p2 p3)), .val (.ref b2), .val (.long ((p2 >>> ((12 : Int32) &&& 31)).toInt64)), .second, .unset, .unset, .unset, .unset] [(.int (p1 &&& (1048575 : Int32))), (.long ((p0 >>> ((12 : Int32) &&& 31)).toInt64)), (.long (((p2 >>> ((12 : Int32) &&& 31)).toInt64) * (1024 : Int64)))])) _
      refine XS.i2l X6.here hx rfl (hb hby at_85) rfl ?_
      show Steps p.tables e below (T6.setTop (mkF m 86 #[.val (.int p0), .val (.int p1), .val (.int p2), .val (.int p3), .val (.int (p0 >>> ((12 : Int32) &&& 31))), .val (.int (p1 &&& (1048575 : Int32))), .val (.int (p2 >>> ((12 : Int32) &&& 31))), .val (.int (m0_0 p0 p1 p2 p3)), .val (.ref b2), .val (.long ((p2 >>> ((12 : Int32) &&& 31)).toInt64)), .second, .unset, .unset, .unset, .unset] [(.long ((p1 &&& (1048575 : Int32)).toInt64)), (.long ((p0 >>> ((12 : Int32) &&& 31)).toInt64)), (.long (((p2 >>> ((12 : Int32) &&& 31)).toInt64) * (1024 : Int64)))])) _
      refine XS.lmul X6.here hx rfl (hb hby at_86) rfl ?_
      show Steps p.tables e below (T6.setTop (mkF m 87 #[.val (.int p0), .val (.int p1), .val (.int p2), .val (.int p3), .val (.int (p0 >>> ((12 : Int32) &&& 31))), .val (.int (p1 &&& (1048575 : Int32))), .val (.int (p2 >>> ((12 : Int32) &&& 31))), .val (.int (m0_0 p0 p1 p2 p3)), .val (.ref b2), .val (.long ((p2 >>> ((12 : Int32) &&& 31)).toInt64)), .second, .unset, .unset, .unset, .unset] [(.long (((p0 >>> ((12 : Int32) &&& 31)).toInt64) * ((p1 &&& (1048575 : Int32)).toInt64))), (.long (((p2 >>> ((12 : Int32) &&& 31)).toInt64) * (1024 : Int64)))])) _
      refine XS.ladd X6.here hx rfl (hb hby at_87) rfl ?_
      show Steps p.tables e below (T6.setTop (mkF m 88 #[.val (.int p0), .val (.int p1), .val (.int p2), .val (.int p3), .val (.int (p0 >>> ((12 : Int32) &&& 31))), .val (.int (p1 &&& (1048575 : Int32))), .val (.int (p2 >>> ((12 : Int32) &&& 31))), .val (.int (m0_0 p0 p1 p2 p3)), .val (.ref b2), .val (.long ((p2 >>> ((12 : Int32) &&& 31)).toInt64)), .second, .unset, .unset, .unset, .unset] [(.long ((((p2 >>> ((12 : Int32) &&& 31)).toInt64) * (1024 : Int64)) + (((p0 >>> ((12 : Int32) &&& 31)).toInt64) * ((p1 &&& (1048575 : Int32)).toInt64))))])) _
      refine XS.lstore X6.here hx rfl (hb hby at_88) rfl (l' := #[.val (.int p0), .val (.int p1), .val (.int p2), .val (.int p3), .val (.int (p0 >>> ((12 : Int32) &&& 31))), .val (.int (p1 &&& (1048575 : Int32))), .val (.int (p2 >>> ((12 : Int32) &&& 31))), .val (.int (m0_0 p0 p1 p2 p3)), .val (.ref b2), .val (.long ((p2 >>> ((12 : Int32) &&& 31)).toInt64)), .second, .val (.long ((((p2 >>> ((12 : Int32) &&& 31)).toInt64) * (1024 : Int64)) + (((p0 >>> ((12 : Int32) &&& 31)).toInt64) * ((p1 &&& (1048575 : Int32)).toInt64)))), .second, .unset, .unset]) rfl ?_
      show Steps p.tables e below (T6.setTop (mkF m 90 #[.val (.int p0), .val (.int p1), .val (.int p2), .val (.int p3), .val (.int (p0 >>> ((12 : Int32) &&& 31))), .val (.int (p1 &&& (1048575 : Int32))), .val (.int (p2 >>> ((12 : Int32) &&& 31))), .val (.int (m0_0 p0 p1 p2 p3)), .val (.ref b2), .val (.long ((p2 >>> ((12 : Int32) &&& 31)).toInt64)), .second, .val (.long ((((p2 >>> ((12 : Int32) &&& 31)).toInt64) * (1024 : Int64)) + (((p0 >>> ((12 : Int32) &&& 31)).toInt64) * ((p1 &&& (1048575 : Int32)).toInt64)))), .second, .unset, .unset] [])) _
      refine XS.lload X6.here hx rfl (hb hby at_90) rfl ?_
      show Steps p.tables e below (T6.setTop (mkF m 92 #[.val (.int p0), .val (.int p1), .val (.int p2), .val (.int p3), .val (.int (p0 >>> ((12 : Int32) &&& 31))), .val (.int (p1 &&& (1048575 : Int32))), .val (.int (p2 >>> ((12 : Int32) &&& 31))), .val (.int (m0_0 p0 p1 p2 p3)), .val (.ref b2), .val (.long ((p2 >>> ((12 : Int32) &&& 31)).toInt64)), .second, .val (.long ((((p2 >>> ((12 : Int32) &&& 31)).toInt64) * (1024 : Int64)) + (((p0 >>> ((12 : Int32) &&& 31)).toInt64) * ((p1 &&& (1048575 : Int32)).toInt64)))), .second, .unset, .unset] [(.long ((((p2 >>> ((12 : Int32) &&& 31)).toInt64) * (1024 : Int64)) + (((p0 >>> ((12 : Int32) &&& 31)).toInt64) * ((p1 &&& (1048575 : Int32)).toInt64))))])) _
      refine XS.l2dS X6.here hx rfl (hb hby at_92) rfl rfl ?_
      show Steps p.tables e below (T6.setTop (mkF m 93 #[.val (.int p0), .val (.int p1), .val (.int p2), .val (.int p3), .val (.int (p0 >>> ((12 : Int32) &&& 31))), .val (.int (p1 &&& (1048575 : Int32))), .val (.int (p2 >>> ((12 : Int32) &&& 31))), .val (.int (m0_0 p0 p1 p2 p3)), .val (.ref b2), .val (.long ((p2 >>> ((12 : Int32) &&& 31)).toInt64)), .second, .val (.long ((((p2 >>> ((12 : Int32) &&& 31)).toInt64) * (1024 : Int64)) + (((p0 >>> ((12 : Int32) &&& 31)).toInt64) * ((p1 &&& (1048575 : Int32)).toInt64)))), .second, .unset, .unset] [(.double (FP.l2d ((((p2 >>> ((12 : Int32) &&& 31)).toInt64) * (1024 : Int64)) + (((p0 >>> ((12 : Int32) &&& 31)).toInt64) * ((p1 &&& (1048575 : Int32)).toInt64)))))])) _
      refine X6.ldc2DoubleC hx hown (mvT hZ (hw _ (List.mem_of_getElem? (i := 4) rfl))) (g := (mkF m 93 #[.val (.int p0), .val (.int p1), .val (.int p2), .val (.int p3), .val (.int (p0 >>> ((12 : Int32) &&& 31))), .val (.int (p1 &&& (1048575 : Int32))), .val (.int (p2 >>> ((12 : Int32) &&& 31))), .val (.int (m0_0 p0 p1 p2 p3)), .val (.ref b2), .val (.long ((p2 >>> ((12 : Int32) &&& 31)).toInt64)), .second, .val (.long ((((p2 >>> ((12 : Int32) &&& 31)).toInt64) * (1024 : Int64)) + (((p0 >>> ((12 : Int32) &&& 31)).toInt64) * ((p1 &&& (1048575 : Int32)).toInt64)))), .second, .unset, .unset] [(.double (FP.l2d ((((p2 >>> ((12 : Int32) &&& 31)).toInt64) * (1024 : Int64)) + (((p0 >>> ((12 : Int32) &&& 31)).toInt64) * ((p1 &&& (1048575 : Int32)).toInt64)))))])) rfl (hb hby at_93) _ ?_
      show Steps p.tables e below (T6.setTop (mkF m 96 #[.val (.int p0), .val (.int p1), .val (.int p2), .val (.int p3), .val (.int (p0 >>> ((12 : Int32) &&& 31))), .val (.int (p1 &&& (1048575 : Int32))), .val (.int (p2 >>> ((12 : Int32) &&& 31))), .val (.int (m0_0 p0 p1 p2 p3)), .val (.ref b2), .val (.long ((p2 >>> ((12 : Int32) &&& 31)).toInt64)), .second, .val (.long ((((p2 >>> ((12 : Int32) &&& 31)).toInt64) * (1024 : Int64)) + (((p0 >>> ((12 : Int32) &&& 31)).toInt64) * ((p1 &&& (1048575 : Int32)).toInt64)))), .second, .unset, .unset] [(.double (4652218415073722368 : UInt64)), (.double (FP.l2d ((((p2 >>> ((12 : Int32) &&& 31)).toInt64) * (1024 : Int64)) + (((p0 >>> ((12 : Int32) &&& 31)).toInt64) * ((p1 &&& (1048575 : Int32)).toInt64)))))])) _
      refine XS.ddivS X6.here hx rfl (hb hby at_96) rfl (own_no (own_den ((p2 >>> ((12 : Int32) &&& 31)).toInt64) ((p2 >>> ((12 : Int32) &&& 31)).toInt) (c_i2l _) (own_b p2) (p0 >>> ((12 : Int32) &&& 31)) (p1 &&& (1048575 : Int32)) (own_b p0) (own_mb p1))) rfl ?_
      show Steps p.tables e below (T6.setTop (mkF m 97 #[.val (.int p0), .val (.int p1), .val (.int p2), .val (.int p3), .val (.int (p0 >>> ((12 : Int32) &&& 31))), .val (.int (p1 &&& (1048575 : Int32))), .val (.int (p2 >>> ((12 : Int32) &&& 31))), .val (.int (m0_0 p0 p1 p2 p3)), .val (.ref b2), .val (.long ((p2 >>> ((12 : Int32) &&& 31)).toInt64)), .second, .val (.long ((((p2 >>> ((12 : Int32) &&& 31)).toInt64) * (1024 : Int64)) + (((p0 >>> ((12 : Int32) &&& 31)).toInt64) * ((p1 &&& (1048575 : Int32)).toInt64)))), .second, .unset, .unset] [(.double (FP.ddiv (FP.l2d ((((p2 >>> ((12 : Int32) &&& 31)).toInt64) * (1024 : Int64)) + (((p0 >>> ((12 : Int32) &&& 31)).toInt64) * ((p1 &&& (1048575 : Int32)).toInt64)))) (4652218415073722368 : UInt64)))])) _
      refine XS.dstore X6.here hx rfl (hb hby at_97) rfl (l' := #[.val (.int p0), .val (.int p1), .val (.int p2), .val (.int p3), .val (.int (p0 >>> ((12 : Int32) &&& 31))), .val (.int (p1 &&& (1048575 : Int32))), .val (.int (p2 >>> ((12 : Int32) &&& 31))), .val (.int (m0_0 p0 p1 p2 p3)), .val (.ref b2), .val (.long ((p2 >>> ((12 : Int32) &&& 31)).toInt64)), .second, .val (.long ((((p2 >>> ((12 : Int32) &&& 31)).toInt64) * (1024 : Int64)) + (((p0 >>> ((12 : Int32) &&& 31)).toInt64) * ((p1 &&& (1048575 : Int32)).toInt64)))), .second, .val (.double (FP.ddiv (FP.l2d ((((p2 >>> ((12 : Int32) &&& 31)).toInt64) * (1024 : Int64)) + (((p0 >>> ((12 : Int32) &&& 31)).toInt64) * ((p1 &&& (1048575 : Int32)).toInt64)))) (4652218415073722368 : UInt64))), .second]) rfl ?_
      show Steps p.tables e below (T6.setTop (mkF m 99 #[.val (.int p0), .val (.int p1), .val (.int p2), .val (.int p3), .val (.int (p0 >>> ((12 : Int32) &&& 31))), .val (.int (p1 &&& (1048575 : Int32))), .val (.int (p2 >>> ((12 : Int32) &&& 31))), .val (.int (m0_0 p0 p1 p2 p3)), .val (.ref b2), .val (.long ((p2 >>> ((12 : Int32) &&& 31)).toInt64)), .second, .val (.long ((((p2 >>> ((12 : Int32) &&& 31)).toInt64) * (1024 : Int64)) + (((p0 >>> ((12 : Int32) &&& 31)).toInt64) * ((p1 &&& (1048575 : Int32)).toInt64)))), .second, .val (.double (FP.ddiv (FP.l2d ((((p2 >>> ((12 : Int32) &&& 31)).toInt64) * (1024 : Int64)) + (((p0 >>> ((12 : Int32) &&& 31)).toInt64) * ((p1 &&& (1048575 : Int32)).toInt64)))) (4652218415073722368 : UInt64))), .second] [])) _
      refine XS.aload X6.here hx rfl (hb hby at_99) rfl rfl ?_
      show Steps p.tables e below (T6.setTop (mkF m 101 #[.val (.int p0), .val (.int p1), .val (.int p2), .val (.int p3), .val (.int (p0 >>> ((12 : Int32) &&& 31))), .val (.int (p1 &&& (1048575 : Int32))), .val (.int (p2 >>> ((12 : Int32) &&& 31))), .val (.int (m0_0 p0 p1 p2 p3)), .val (.ref b2), .val (.long ((p2 >>> ((12 : Int32) &&& 31)).toInt64)), .second, .val (.long ((((p2 >>> ((12 : Int32) &&& 31)).toInt64) * (1024 : Int64)) + (((p0 >>> ((12 : Int32) &&& 31)).toInt64) * ((p1 &&& (1048575 : Int32)).toInt64)))), .second, .val (.double (FP.ddiv (FP.l2d ((((p2 >>> ((12 : Int32) &&& 31)).toInt64) * (1024 : Int64)) + (((p0 >>> ((12 : Int32) &&& 31)).toInt64) * ((p1 &&& (1048575 : Int32)).toInt64)))) (4652218415073722368 : UInt64))), .second] [(.ref b2)])) _
      refine XS.iload X6.here hx rfl (hb hby at_101) rfl ?_
      show Steps p.tables e below (T6.setTop (mkF m 103 #[.val (.int p0), .val (.int p1), .val (.int p2), .val (.int p3), .val (.int (p0 >>> ((12 : Int32) &&& 31))), .val (.int (p1 &&& (1048575 : Int32))), .val (.int (p2 >>> ((12 : Int32) &&& 31))), .val (.int (m0_0 p0 p1 p2 p3)), .val (.ref b2), .val (.long ((p2 >>> ((12 : Int32) &&& 31)).toInt64)), .second, .val (.long ((((p2 >>> ((12 : Int32) &&& 31)).toInt64) * (1024 : Int64)) + (((p0 >>> ((12 : Int32) &&& 31)).toInt64) * ((p1 &&& (1048575 : Int32)).toInt64)))), .second, .val (.double (FP.ddiv (FP.l2d ((((p2 >>> ((12 : Int32) &&& 31)).toInt64) * (1024 : Int64)) + (((p0 >>> ((12 : Int32) &&& 31)).toInt64) * ((p1 &&& (1048575 : Int32)).toInt64)))) (4652218415073722368 : UInt64))), .second] [(.int (p1 &&& (1048575 : Int32))), (.ref b2)])) _
      refine XS.i2dS X6.here hx rfl (hb hby at_103) rfl rfl ?_
      show Steps p.tables e below (T6.setTop (mkF m 104 #[.val (.int p0), .val (.int p1), .val (.int p2), .val (.int p3), .val (.int (p0 >>> ((12 : Int32) &&& 31))), .val (.int (p1 &&& (1048575 : Int32))), .val (.int (p2 >>> ((12 : Int32) &&& 31))), .val (.int (m0_0 p0 p1 p2 p3)), .val (.ref b2), .val (.long ((p2 >>> ((12 : Int32) &&& 31)).toInt64)), .second, .val (.long ((((p2 >>> ((12 : Int32) &&& 31)).toInt64) * (1024 : Int64)) + (((p0 >>> ((12 : Int32) &&& 31)).toInt64) * ((p1 &&& (1048575 : Int32)).toInt64)))), .second, .val (.double (FP.ddiv (FP.l2d ((((p2 >>> ((12 : Int32) &&& 31)).toInt64) * (1024 : Int64)) + (((p0 >>> ((12 : Int32) &&& 31)).toInt64) * ((p1 &&& (1048575 : Int32)).toInt64)))) (4652218415073722368 : UInt64))), .second] [(.double (FP.i2d (p1 &&& (1048575 : Int32)))), (.ref b2)])) _
      refine st7.trans ?_
      show Steps p.tables e below (T7.setTop (mkF m 107 #[.val (.int p0), .val (.int p1), .val (.int p2), .val (.int p3), .val (.int (p0 >>> ((12 : Int32) &&& 31))), .val (.int (p1 &&& (1048575 : Int32))), .val (.int (p2 >>> ((12 : Int32) &&& 31))), .val (.int (m0_0 p0 p1 p2 p3)), .val (.ref b2), .val (.long ((p2 >>> ((12 : Int32) &&& 31)).toInt64)), .second, .val (.long ((((p2 >>> ((12 : Int32) &&& 31)).toInt64) * (1024 : Int64)) + (((p0 >>> ((12 : Int32) &&& 31)).toInt64) * ((p1 &&& (1048575 : Int32)).toInt64)))), .second, .val (.double (FP.ddiv (FP.l2d ((((p2 >>> ((12 : Int32) &&& 31)).toInt64) * (1024 : Int64)) + (((p0 >>> ((12 : Int32) &&& 31)).toInt64) * ((p1 &&& (1048575 : Int32)).toInt64)))) (4652218415073722368 : UInt64))), .second] [(.double (FP.dadd (FP.i2d (p2 >>> ((12 : Int32) &&& 31))) (FP.dmul (FP.ddiv (FP.i2d (p0 >>> ((12 : Int32) &&& 31))) (4652218415073722368 : UInt64)) (FP.i2d (p1 &&& (1048575 : Int32))))))])) _
      refine XS.dload X7.here hx rfl (hb hby at_107) rfl ?_
      show Steps p.tables e below (T7.setTop (mkF m 109 #[.val (.int p0), .val (.int p1), .val (.int p2), .val (.int p3), .val (.int (p0 >>> ((12 : Int32) &&& 31))), .val (.int (p1 &&& (1048575 : Int32))), .val (.int (p2 >>> ((12 : Int32) &&& 31))), .val (.int (m0_0 p0 p1 p2 p3)), .val (.ref b2), .val (.long ((p2 >>> ((12 : Int32) &&& 31)).toInt64)), .second, .val (.long ((((p2 >>> ((12 : Int32) &&& 31)).toInt64) * (1024 : Int64)) + (((p0 >>> ((12 : Int32) &&& 31)).toInt64) * ((p1 &&& (1048575 : Int32)).toInt64)))), .second, .val (.double (FP.ddiv (FP.l2d ((((p2 >>> ((12 : Int32) &&& 31)).toInt64) * (1024 : Int64)) + (((p0 >>> ((12 : Int32) &&& 31)).toInt64) * ((p1 &&& (1048575 : Int32)).toInt64)))) (4652218415073722368 : UInt64))), .second] [(.double (FP.ddiv (FP.l2d ((((p2 >>> ((12 : Int32) &&& 31)).toInt64) * (1024 : Int64)) + (((p0 >>> ((12 : Int32) &&& 31)).toInt64) * ((p1 &&& (1048575 : Int32)).toInt64)))) (4652218415073722368 : UInt64))), (.double (FP.dadd (FP.i2d (p2 >>> ((12 : Int32) &&& 31))) (FP.dmul (FP.ddiv (FP.i2d (p0 >>> ((12 : Int32) &&& 31))) (4652218415073722368 : UInt64)) (FP.i2d (p1 &&& (1048575 : Int32))))))])) _
      refine XS.dcmpS X7.here hx rfl (hb hby at_109) rfl rfl ?_
      show Steps p.tables e below (T7.setTop (mkF m 110 #[.val (.int p0), .val (.int p1), .val (.int p2), .val (.int p3), .val (.int (p0 >>> ((12 : Int32) &&& 31))), .val (.int (p1 &&& (1048575 : Int32))), .val (.int (p2 >>> ((12 : Int32) &&& 31))), .val (.int (m0_0 p0 p1 p2 p3)), .val (.ref b2), .val (.long ((p2 >>> ((12 : Int32) &&& 31)).toInt64)), .second, .val (.long ((((p2 >>> ((12 : Int32) &&& 31)).toInt64) * (1024 : Int64)) + (((p0 >>> ((12 : Int32) &&& 31)).toInt64) * ((p1 &&& (1048575 : Int32)).toInt64)))), .second, .val (.double (FP.ddiv (FP.l2d ((((p2 >>> ((12 : Int32) &&& 31)).toInt64) * (1024 : Int64)) + (((p0 >>> ((12 : Int32) &&& 31)).toInt64) * ((p1 &&& (1048575 : Int32)).toInt64)))) (4652218415073722368 : UInt64))), .second] [(.int (cmpValue (FP.dcmp (FP.dadd (FP.i2d (p2 >>> ((12 : Int32) &&& 31))) (FP.dmul (FP.ddiv (FP.i2d (p0 >>> ((12 : Int32) &&& 31))) (4652218415073722368 : UInt64)) (FP.i2d (p1 &&& (1048575 : Int32))))) (FP.ddiv (FP.l2d ((((p2 >>> ((12 : Int32) &&& 31)).toInt64) * (1024 : Int64)) + (((p0 >>> ((12 : Int32) &&& 31)).toInt64) * ((p1 &&& (1048575 : Int32)).toInt64)))) (4652218415073722368 : UInt64))) .l))])) _
      refine XS.ifNo X7.here hx rfl (hb hby at_110) rfl ((if0 _ _).trans (teq (own_eq (own_all (Jvm.FP.Core.own_up (Jvm.FP.Core.i2d_int (p2 >>> ((12 : Int32) &&& 31)))) (own_b p2) (p0 >>> ((12 : Int32) &&& 31)) (p1 &&& (1048575 : Int32)) (own_b p0) (own_mb p1)) (own_den ((p2 >>> ((12 : Int32) &&& 31)).toInt64) ((p2 >>> ((12 : Int32) &&& 31)).toInt) (c_i2l _) (own_b p2) (p0 >>> ((12 : Int32) &&& 31)) (p1 &&& (1048575 : Int32)) (own_b p0) (own_mb p1)))).2) ?_
      show Steps p.tables e below (T7.setTop (mkF m 113 #[.val (.int p0), .val (.int p1), .val (.int p2), .val (.int p3), .val (.int (p0 >>> ((12 : Int32) &&& 31))), .val (.int (p1 &&& (1048575 : Int32))), .val (.int (p2 >>> ((12 : Int32) &&& 31))), .val (.int (m0_0 p0 p1 p2 p3)), .val (.ref b2), .val (.long ((p2 >>> ((12 : Int32) &&& 31)).toInt64)), .second, .val (.long ((((p2 >>> ((12 : Int32) &&& 31)).toInt64) * (1024 : Int64)) + (((p0 >>> ((12 : Int32) &&& 31)).toInt64) * ((p1 &&& (1048575 : Int32)).toInt64)))), .second, .val (.double (FP.ddiv (FP.l2d ((((p2 >>> ((12 : Int32) &&& 31)).toInt64) * (1024 : Int64)) + (((p0 >>> ((12 : Int32) &&& 31)).toInt64) * ((p1 &&& (1048575 : Int32)).toInt64)))) (4652218415073722368 : UInt64))), .second] [])) _
      refine XS.iconst X7.here hx rfl (hb hby at_113) ?_
      show Steps p.tables e below (T7.setTop (mkF m 114 #[.val (.int p0), .val (.int p1), .val (.int p2), .val (.int p3), .val (.int (p0 >>> ((12 : Int32) &&& 31))), .val (.int (p1 &&& (1048575 : Int32))), .val (.int (p2 >>> ((12 : Int32) &&& 31))), .val (.int (m0_0 p0 p1 p2 p3)), .val (.ref b2), .val (.long ((p2 >>> ((12 : Int32) &&& 31)).toInt64)), .second, .val (.long ((((p2 >>> ((12 : Int32) &&& 31)).toInt64) * (1024 : Int64)) + (((p0 >>> ((12 : Int32) &&& 31)).toInt64) * ((p1 &&& (1048575 : Int32)).toInt64)))), .second, .val (.double (FP.ddiv (FP.l2d ((((p2 >>> ((12 : Int32) &&& 31)).toInt64) * (1024 : Int64)) + (((p0 >>> ((12 : Int32) &&& 31)).toInt64) * ((p1 &&& (1048575 : Int32)).toInt64)))) (4652218415073722368 : UInt64))), .second] [(.int (1 : Int32))])) _
      refine XS.goto X7.here hx rfl (pc0 := 114) (pc' := 118) rfl (hb hby at_114) (by decide) (by decide) ?_
      exact kt
    obtain ⟨fs, hr, hrun, hended, hW, hsame⟩ := X7.leave (v := some (.int (1 : Int32))) (fun h => by rw [Bd.returns] at h; cases h) (BodyLoose.notSynchronized Bd)
    refine ⟨_, _, ?_, hrun, hended, _, _, rfl, ?_, ⟨_, rfl⟩, hW, hsame.mono (by decide) (by decide)⟩
    · show Steps p.tables e below (T7.setTop (mkF m 118 #[.val (.int p0), .val (.int p1), .val (.int p2), .val (.int p3), .val (.int (p0 >>> ((12 : Int32) &&& 31))), .val (.int (p1 &&& (1048575 : Int32))), .val (.int (p2 >>> ((12 : Int32) &&& 31))), .val (.int (m0_0 p0 p1 p2 p3)), .val (.ref b2), .val (.long ((p2 >>> ((12 : Int32) &&& 31)).toInt64)), .second, .val (.long ((((p2 >>> ((12 : Int32) &&& 31)).toInt64) * (1024 : Int64)) + (((p0 >>> ((12 : Int32) &&& 31)).toInt64) * ((p1 &&& (1048575 : Int32)).toInt64)))), .second, .val (.double (FP.ddiv (FP.l2d ((((p2 >>> ((12 : Int32) &&& 31)).toInt64) * (1024 : Int64)) + (((p0 >>> ((12 : Int32) &&& 31)).toInt64) * ((p1 &&& (1048575 : Int32)).toInt64)))) (4652218415073722368 : UInt64))), .second] [(.int (1 : Int32))])) _
      exact retN X7 hx (t := .boolean) Bd.returns (by simp) (hb hby at_118) hr
    · show Q0 Z p0 p1 p2 p3 h0 n0 _ T7.heap _
      rw [e7]
      exact ⟨by rw [show f0 p0 p1 p2 p3 = (1 : Int32) from by unfold f0; rw [if_neg hc49_4]], N7⟩
theorem own_law (a b c d : Int32) : f0 a b c d = 1 := by
  unfold f0
  split <;> rfl
set_option maxRecDepth 65536 in
set_option maxHeartbeats 40000000 in
theorem comes_1 {Post : Tables → Env → Array Value → State → Outcome → State → Prop} (hpost : ∀ tb e args s v u, (limb_1_1.after args s (.returned v) u = true ∧ limb_1_2.after args s (.returned v) u = true ∧ True) → FrameEnd s (.returned v) u (Jvm.fieldLocs frame_1_writes args s ++ Jvm.arrayLocs frame_1_arrays args s ++ Jvm.staticLocs frame_1_statics s) 16 128 → Post tb e args s (.returned v) u) :
    ArmFor flags0 classFile x code maxLocals ret World_1 tables_1 room_1 Calls_1 rest_1 Pre_1 Post := by
  intro l hfl _ _ p e ha hc hk s m args below hf hA hF happ hP
  obtain ⟨hcalls, hrest, hpre⟩ := hP
  obtain ⟨-, -, -, hnamed, -, -, -, hat⟩ := (Spec.applies_iff hf).mp happ
  obtain ⟨hg, hn⟩ := and_e (Cond.before_iff.mp (show (Jvm.Cond.and given_1 narrow_1).before args s = true from hpre))
  obtain ⟨gc, gr0⟩ := and_e hg
  obtain ⟨ga0, gr1⟩ := and_e gr0
  obtain ⟨ga1, gr2⟩ := and_e gr1
  obtain ⟨ga2, gr3⟩ := and_e gr2
  obtain ⟨w0, w1, w2, w3, rfl⟩ : ∃ w0 w1 w2 w3 : Value, args = #[w0, w1, w2, w3] := by
    have hs : args.size = 4 := by simpa [Cond.value, given_1] using gc
    obtain ⟨L⟩ := args
    match L, hs with
    | [w0, w1, w2, w3], _ => exact ⟨w0, w1, w2, w3, rfl⟩
  have hw := fun d (hd : d ∈ tables_1) => atoms_spec (ws := Jvm.Cond.code x code maxLocals ret :: tables_1) hat d (List.mem_cons_of_mem _ hd)
  have hfit : Fit s := fun {y c} hc i hi => by
    obtain ⟨ha, rfl⟩ := Array.getElem?_eq_some_iff.mp hc
    have q := List.all_eq_true.mp ((Array.all_eq_true_iff_forall_mem.mp hF) _ (Array.getElem_mem ha)) i (List.mem_range.mpr hi)
    simpa [Array.getElem?_eq_getElem hi] using q
  obtain ⟨i0, ei0⟩ := is_v ga0
  obtain rfl : w0 = (.int i0) := Option.some.inj ei0
  obtain ⟨i1, ei1⟩ := is_v ga1
  obtain rfl : w1 = (.int i1) := Option.some.inj ei1
  obtain ⟨i2, ei2⟩ := is_v ga2
  obtain rfl : w2 = (.int i2) := Option.some.inj ei2
  obtain ⟨i3, ei3⟩ := is_v gr3
  obtain rfl : w3 = (.int i3) := Option.some.inj ei3
  obtain ⟨n, o, h1, h2, h3, _, L, rfl, ⟨rfl, N⟩, hq⟩ := rm0 l s _ hw tables_1 i0 i1 i2 i3 s.heap s.heap.size (Nat.le_refl _)  p e ha hc hk s m _ below hf ((Spec.applies_iff_loose hf).mp happ).1 ⟨rfl, State.Warmed39.refl s, rfl⟩ trivial
  refine ⟨n, _, h1, h2, h3, hpost _ _ _ _ _ _ ⟨Cond.after_iff.mpr rfl, Cond.after_iff.mpr (eq_i res_at (Term.int_eval (1)) (congrArg Value.int (own_law i0 i1 i2 i3))), trivial⟩ ⟨hq.1, hq.2.1, (hq.2.2.sift fun y hy => Or.inr (N y hy)).mono (by decide) (by decide)⟩⟩
theorem main_1_1 : Claimed_1_1 := comes_1 fun _ _ _ _ _ _ h hF => ⟨h.1, hF⟩
theorem main_1_2 : Claimed_1_2 := comes_1 fun _ _ _ _ _ _ h hF => ⟨h.2.1, hF⟩
end Jvm.Pilot.@@N@@
namespace Jvm.Pilot.@@N@@
open Jvm Jvm.ClassFile Sem Op Lib Jvm.Free Jvm.Stand Jvm.Pilot.@@N@@.Jvm.D
/-! MADE BY PROGRAM (witnessworld.py) out of the Statement's table words and the real class files: 9 classes; the members and pool entries that the words name. The judged class is class 1, her method 1. -/
namespace start1
open Jvm.ClassFile
def u (s : String) : CpInfo := .utf8 (stringToUtf16 s)
/-- a pool by its gaps: so many unusable entries, then the entry; so many at the end -/
def gap : Nat → List CpInfo → List CpInfo
  | 0, r => r
  | n + 1, r => .unusable :: gap n r
def poolList (es : List (Nat × CpInfo)) (last : Nat) : List CpInfo := es.foldr (fun e r => gap e.1 (e.2 :: r)) (gap last [])
def pool (es : List (Nat × CpInfo)) (last : Nat) : Array CpInfo := ⟨poolList es last⟩
def fileOf (pool : Array CpInfo) (this : Nat) (attrs : Array Attribute := #[]) (ms : Array MethodInfo := #[]) (fl : Nat := 33) (sup : Nat := 0) (ifs : Array Nat := #[]) (fds : Array FieldInfo := #[]) : ClassFile where
  minorVersion := 0
  majorVersion := 65
  constantPool := pool
  accessFlags := fl
  thisClass := this
  superClass := sup
  interfaces := ifs
  fields := fds
  methods := ms
  attributes := attrs
def plain (name : String) (sup : Option ClassId) : Class where
  name := name
  kind := .ordinary
  loader := none
  accessFlags := 33
  super := sup
  interfaces := #[]
  cf := none
  fields := #[]
  methods := #[]
  instanceTypes := #[]
  staticTypes := #[]
  resolved := #[]
  callSites := []
  init := .initialized
  statics := none
  mirror := none

def pool0 : Array CpInfo := pool [(5, u "<init>"), (0, u "()V"), (1, .class_ 10), (1, u "java/lang/Object")] 113

def k0c0 : Code := { maxStack := 0, maxLocals := 1, code := object_method_1_code, exceptionTable := #[], attributes := #[] }
def k0m0 : Method := { name := "<init>", desc := "()V", sig := { parameters := [], returnType := none }, accessFlags := 1, code := some k0c0 }
/-- java/lang/Object -/
def k0 : Class := { plain "java/lang/Object" none with
  accessFlags := 33
  interfaces := #[]
  cf := some (fileOf pool0 8 #[] #[{ accessFlags := 1, nameIndex := 5, descriptorIndex := 6, attributes := #[] }] 33 0 #[] #[])
  fields := #[]
  methods := #[k0m0]
  instanceTypes := #[]
  staticTypes := #[]
  resolved := Array.replicate 124 none
  statics := none }

def pool1 : Array CpInfo := pool [(2, .class_ 4), (1, u "java/lang/Object"), (0, u "<init>"), (0, u "()V"), (0, .integer 1048575), (0, .class_ 9), (0, u "com/example/kinetic_model_check/kineticmodelcheck/dynamics/Tolerances"), (0, .double 4652218415073722368), (1, .methodref 8 13), (0, .nameAndType 5 14), (0, u "(D)V"), (0, .methodref 8 16), (0, .nameAndType 17 14), (0, u "setAbsolute"), (0, .long 1024), (1, .methodref 8 21), (0, .nameAndType 22 23), (0, u "allowed"), (0, u "(D)D"), (0, .class_ 25), (0, u "com/example/kinetic_model_check/kineticmodelcheck/dynamics/TolerancesAllowedPinLaw"), (2, u "law"), (0, u "(IIII)Z")] 3

def k1m0 : Method := { name := "<init>", desc := "()V", sig := { parameters := [], returnType := none }, accessFlags := 1, code := none }
def k1c1 : Code := { maxStack := 6, maxLocals := 15, code := code, exceptionTable := #[], attributes := #[] }
def k1m1 : Method := { name := "law", desc := "(IIII)Z", sig := { parameters := [.int, .int, .int, .int], returnType := some .boolean }, accessFlags := 9, code := some k1c1 }
/-- com/example/kinetic_model_check/kineticmodelcheck/dynamics/TolerancesAllowedPinLaw -/
def k1 : Class := { plain "com/example/kinetic_model_check/kineticmodelcheck/dynamics/TolerancesAllowedPinLaw" (some 0) with
  accessFlags := 49
  interfaces := #[]
  cf := some (fileOf pool1 24 #[] #[{ accessFlags := 1, nameIndex := 5, descriptorIndex := 6, attributes := #[] }, { accessFlags := 9, nameIndex := 28, descriptorIndex := 29, attributes := #[] }] 49 2 #[] #[])
  fields := #[]
  methods := #[k1m0, k1m1]
  instanceTypes := #[]
  staticTypes := #[]
  resolved := Array.replicate 33 none
  statics := none }

def pool2 : Array CpInfo := pool [(1, .methodref 2 3), (0, .class_ 4), (0, .nameAndType 5 6), (0, u "java/lang/Object"), (0, u "<init>"), (0, u "()V"), (0, .fieldref 8 9), (0, .class_ 10), (0, .nameAndType 11 12), (0, u "com/example/kinetic_model_check/kineticmodelcheck/dynamics/Tolerances"), (0, u "relative"), (0, u "D"), (0, .fieldref 8 14), (0, .nameAndType 15 12), (0, u "absolute"), (5, u "(D)D"), (6, u "allowed"), (3, u "(D)V"), (3, u "setAbsolute")] 5

def k2c0 : Code := { maxStack := 3, maxLocals := 3, code := prog_38_method_1_code, exceptionTable := #[], attributes := #[] }
def k2m0 : Method := { name := "<init>", desc := "(D)V", sig := { parameters := [.double], returnType := none }, accessFlags := 0, code := some k2c0 }
def k2c1 : Code := { maxStack := 3, maxLocals := 3, code := prog_38_method_4_code, exceptionTable := #[], attributes := #[] }
def k2m1 : Method := { name := "setAbsolute", desc := "(D)V", sig := { parameters := [.double], returnType := none }, accessFlags := 0, code := some k2c1 }
def k2c2 : Code := { maxStack := 6, maxLocals := 3, code := prog_38_method_5_code, exceptionTable := #[], attributes := #[] }
def k2m2 : Method := { name := "allowed", desc := "(D)D", sig := { parameters := [.double], returnType := some .double }, accessFlags := 0, code := some k2c2 }
/-- com/example/kinetic_model_check/kineticmodelcheck/dynamics/Tolerances -/
def k2 : Class := { plain "com/example/kinetic_model_check/kineticmodelcheck/dynamics/Tolerances" (some 0) with
  accessFlags := 48
  interfaces := #[]
  cf := some (fileOf pool2 8 #[] #[{ accessFlags := 0, nameIndex := 5, descriptorIndex := 32, attributes := #[] }, { accessFlags := 0, nameIndex := 36, descriptorIndex := 32, attributes := #[] }, { accessFlags := 0, nameIndex := 28, descriptorIndex := 21, attributes := #[] }] 48 2 #[] #[{ accessFlags := 18, nameIndex := 11, descriptorIndex := 12, attributes := #[] }, { accessFlags := 2, nameIndex := 15, descriptorIndex := 12, attributes := #[] }])
  fields := #[{ name := "relative", type := .double, accessFlags := 18, slot := 0, constantValue := 0 }, { name := "absolute", type := .double, accessFlags := 2, slot := 1, constantValue := 0 }]
  methods := #[k2m0, k2m1, k2m2]
  instanceTypes := #[.double, .double]
  staticTypes := #[]
  resolved := Array.replicate 42 none
  statics := none }

def pool3 : Array CpInfo := pool [(1, u "java/lang/Cloneable"), (0, .class_ 1), (0, u "java/lang/Object"), (0, .class_ 3)] 3

/-- java/lang/Cloneable -/
def k3 : Class := { plain "java/lang/Cloneable" (some 0) with
  accessFlags := 1537
  interfaces := #[]
  cf := some (fileOf pool3 2 #[] #[] 1537 4 #[] #[])
  fields := #[]
  methods := #[]
  instanceTypes := #[]
  staticTypes := #[]
  resolved := Array.replicate 8 none
  statics := none }

def pool4 : Array CpInfo := pool [(1, u "java/io/Serializable"), (0, .class_ 1), (0, u "java/lang/Object"), (0, .class_ 3)] 3

/-- java/io/Serializable -/
def k4 : Class := { plain "java/io/Serializable" (some 0) with
  accessFlags := 1537
  interfaces := #[]
  cf := some (fileOf pool4 2 #[] #[] 1537 4 #[] #[])
  fields := #[]
  methods := #[]
  instanceTypes := #[]
  staticTypes := #[]
  resolved := Array.replicate 8 none
  statics := none }

/-- the primitive byte -/
def k5 : Class := { plain "byte" none with kind := .primitive 'B', accessFlags := 0x411 }
/-- [B -/
def k6 : Class := { plain "[B" (some 0) with kind := .array 5 .byte, interfaces := #[3, 4], accessFlags := 1041 }

/-- the primitive int -/
def k7 : Class := { plain "int" none with kind := .primitive 'I', accessFlags := 0x411 }
/-- [I -/
def k8 : Class := { plain "[I" (some 0) with kind := .array 7 .int, interfaces := #[3, 4], accessFlags := 1041 }

def heap : Heap := #[]
def classes : Array Class := #[k0, k1, k2, k3, k4, k5, k6, k7, k8]
def interned : List (Array UInt16 × Addr) := []
def slotsUsed : Nat := 0
def theMethod : MethodId := ⟨1, 1⟩
def args0 : Array Value := #[.int 8192, .int 5, .int 8192, .int 1]
def aboutOver (below : List Frame) : State where
  vm := { classes := classes, interned := interned.toArray }
  heap := heap
  slotsUsed := slotsUsed
  threads := #[{ frames := .invoking theMethod args0 :: below }]
def below0 : List Frame := [.native { method := ⟨0, 0⟩, args := #[] }]
def about1 : State := aboutOver below0
def p0 : Program := .bare "" "" ""
def e0 : Env := launch0.env 0 0 0
theorem w_frames : about1.frames = Frame.invoking theMethod args0 :: below0 := rfl
set_option maxRecDepth 65536 in
theorem w_args : argsFit about1.vm theMethod args0 = true := by decide +kernel
set_option maxRecDepth 65536 in
theorem w_heap : heapFits about1 = true := by decide +kernel
set_option maxRecDepth 65536 in
theorem w_runnable : about1.curStatus? = some .runnable := by decide +kernel
set_option maxRecDepth 65536 in
theorem w_alone : about1.alone = true := by decide +kernel
set_option maxRecDepth 65536 in
theorem w_named : about1.methodNamed? x = some theMethod := by decide +kernel
set_option maxRecDepth 65536 in
theorem w_hears : about1.hears theMethod below0 = true := by decide +kernel
set_option maxRecDepth 65536 in
theorem w_ripe : about1.ripe theMethod args0 below0 = true := by decide +kernel
theorem w_running : about1.status = .running := rfl
set_option maxRecDepth 65536 in
theorem w_room : about1.hasRoom e0.platform room_1 = true :=
  launch0.hasRoom_least _ room_1 (by decide +kernel) (by decide +kernel) (by decide +kernel) (by decide +kernel) (by decide +kernel) (by decide +kernel)
theorem allAtoms_all (ts : List Jvm.Cond) (a : Array Jvm.Value) (st : Jvm.State) : (allAtoms ts).before a st = ts.all (fun c => c.before a st) := by
  induction ts with
  | nil => rfl
  | cons c t ih =>
    show (Jvm.Cond.and c (allAtoms t)).before a st = _
    rw [Jvm.Cond.before_and, ih, List.all_cons]
def words1 : List Jvm.Cond := Jvm.Cond.code x code maxLocals ret :: tables_1
/-- a 'code' word, met by the world's own term for the bytes: nothing is compared byte by byte -/
theorem code_word {y : MethodName} {bytes : ByteArray} {mx : Nat} {rt : Option FieldType} {a : Array Value} {s : State} {m : MethodId} {meth : Method} {c : Code} (h1 : s.methodNamed? y = some m) (h2 : s.vm.method? m = some meth) (h3 : meth.code = some c) (h4 : c.code = bytes)
    (h5 : (c.maxLocals == mx && c.exceptionTable.isEmpty && decide (c.maxStack ≤ mostOperands) && decide (meth.sig.returnType = rt) && !meth.locks && decide (parseMethodDescriptor y.desc = some meth.sig)) = true) : (Jvm.Cond.code y bytes mx rt).before a s = true := by
  simp only [Bool.and_eq_true, beq_iff_eq, Bool.not_eq_true', decide_eq_true_eq] at h5
  obtain ⟨⟨⟨⟨⟨g1, g2⟩, g3⟩, g4⟩, g5⟩, g6⟩ := h5
  simp [Cond.before, Cond.holds, Cond.value, h1, h2, h3, h4, g1, g2, g3, g4, g5, g6]
def isCode : Jvm.Cond → Bool
  | .code _ _ _ _ => true
  | _ => false
theorem all_split {L : List Jvm.Cond} {P : Jvm.Cond → Bool} (h1 : L.all (fun c => isCode c || P c) = true) (h2 : ∀ c ∈ L.filter isCode, P c = true) : L.all P = true := by
  refine List.all_eq_true.mpr fun c hc => ?_
  have h := List.all_eq_true.mp h1 c hc
  rcases Bool.eq_false_or_eq_true (isCode c) with hi | hi
  · exact h2 c (List.mem_filter.mpr ⟨hc, hi⟩)
  · simpa [hi] using h
set_option maxRecDepth 65536 in
theorem w_c0 : (Jvm.Cond.code x code maxLocals ret).before args0 about1 = true := code_word (m := ⟨1, 1⟩) (meth := k1m1) (c := k1c1) (by decide +kernel) rfl rfl rfl (by decide +kernel)
set_option maxRecDepth 65536 in
theorem w_c1 : (Jvm.Cond.code ({ cls := "com/example/kinetic_model_check/kineticmodelcheck/dynamics/Tolerances", name := "<init>", desc := "(D)V" } : Jvm.MethodName) prog_38_method_1_code (3 : Nat) (Option.none : Option Jvm.ClassFile.FieldType)).before args0 about1 = true := code_word (m := ⟨2, 0⟩) (meth := k2m0) (c := k2c0) (by decide +kernel) rfl rfl rfl (by decide +kernel)
set_option maxRecDepth 65536 in
theorem w_c2 : (Jvm.Cond.code ({ cls := "java/lang/Object", name := "<init>", desc := "()V" } : Jvm.MethodName) object_method_1_code (1 : Nat) (Option.none : Option Jvm.ClassFile.FieldType)).before args0 about1 = true := code_word (m := ⟨0, 0⟩) (meth := k0m0) (c := k0c0) (by decide +kernel) rfl rfl rfl (by decide +kernel)
set_option maxRecDepth 65536 in
theorem w_c3 : (Jvm.Cond.code ({ cls := "com/example/kinetic_model_check/kineticmodelcheck/dynamics/Tolerances", name := "setAbsolute", desc := "(D)V" } : Jvm.MethodName) prog_38_method_4_code (3 : Nat) (Option.none : Option Jvm.ClassFile.FieldType)).before args0 about1 = true := code_word (m := ⟨2, 1⟩) (meth := k2m1) (c := k2c1) (by decide +kernel) rfl rfl rfl (by decide +kernel)
set_option maxRecDepth 65536 in
theorem w_c4 : (Jvm.Cond.code ({ cls := "com/example/kinetic_model_check/kineticmodelcheck/dynamics/Tolerances", name := "allowed", desc := "(D)D" } : Jvm.MethodName) prog_38_method_5_code (3 : Nat) (Option.some Jvm.ClassFile.FieldType.double)).before args0 about1 = true := code_word (m := ⟨2, 2⟩) (meth := k2m2) (c := k2c2) (by decide +kernel) rfl rfl rfl (by decide +kernel)
def codes1 : List Jvm.Cond := [Jvm.Cond.code x code maxLocals ret, Jvm.Cond.code ({ cls := "com/example/kinetic_model_check/kineticmodelcheck/dynamics/Tolerances", name := "<init>", desc := "(D)V" } : Jvm.MethodName) prog_38_method_1_code (3 : Nat) (Option.none : Option Jvm.ClassFile.FieldType), Jvm.Cond.code ({ cls := "java/lang/Object", name := "<init>", desc := "()V" } : Jvm.MethodName) object_method_1_code (1 : Nat) (Option.none : Option Jvm.ClassFile.FieldType), Jvm.Cond.code ({ cls := "com/example/kinetic_model_check/kineticmodelcheck/dynamics/Tolerances", name := "setAbsolute", desc := "(D)V" } : Jvm.MethodName) prog_38_method_4_code (3 : Nat) (Option.none : Option Jvm.ClassFile.FieldType), Jvm.Cond.code ({ cls := "com/example/kinetic_model_check/kineticmodelcheck/dynamics/Tolerances", name := "allowed", desc := "(D)D" } : Jvm.MethodName) prog_38_method_5_code (3 : Nat) (Option.some Jvm.ClassFile.FieldType.double)]
set_option maxRecDepth 65536 in
theorem codes_eq : words1.filter isCode = codes1 := rfl
theorem w_codes : ∀ c ∈ words1.filter isCode, c.before args0 about1 = true := by
  rw [codes_eq]
  intro c hc
  simp only [codes1, List.mem_cons, List.not_mem_nil, or_false] at hc
  rcases hc with rfl | rfl | rfl | rfl | rfl
  · exact w_c0
  · exact w_c1
  · exact w_c2
  · exact w_c3
  · exact w_c4
set_option maxRecDepth 65536 in
theorem w_t1 : (words1.take 24).all (fun c => isCode c || c.before args0 about1) = true := by decide +kernel
set_option maxRecDepth 65536 in
theorem w_t2 : (words1.drop 24).all (fun c => isCode c || c.before args0 about1) = true := by decide +kernel
theorem w_tables : (allAtoms (Jvm.Cond.code x code maxLocals ret :: tables_1)).before args0 about1 = true := by
  rw [allAtoms_all]
  show words1.all (fun c => c.before args0 about1) = true
  refine all_split ?_ w_codes
  rw [← List.take_append_drop 24 words1, List.all_append, w_t1, w_t2]
  rfl
set_option maxRecDepth 65536 in
theorem w_case : (Jvm.Cond.and given_1 narrow_1).before args0 about1 = true := by decide +kernel
theorem w_applies : (headSpec (Jvm.Cond.code x code maxLocals ret :: tables_1) room_1).applies x e0.platform about1 = true :=
  (Spec.applies_iff w_frames).mpr ⟨w_running, w_runnable, w_alone, w_named, w_hears, w_ripe, w_room, w_tables⟩
theorem atStart : AtStart classFile x code maxLocals ret World_1 tables_1 room_1 Calls_1 rest_1 Pre_1 launch0 p0 e0 about1 theMethod args0 below0 :=
  ⟨lists_1, trivial, launch0.admits_env _ _ _, launch0.least_env, fairChoices_fair.cas, fairChoices_fair.clock, w_frames, w_args, w_heap, w_applies, trivial, trivial, w_case⟩
end start1
theorem witness_1 : WitnessClaimed_1 := ⟨start1.p0, start1.e0, start1.about1, start1.theMethod, start1.args0, start1.below0, start1.atStart⟩
end Jvm.Pilot.@@N@@
