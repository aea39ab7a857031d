import JvmDerived
import JvmDerived.Pilot.@@N@@Statement
import JvmDerived.Pilot.@@N@@Code
set_option linter.unusedVariables false
set_option linter.unusedSimpArgs false

namespace Jvm.RoadKit
open Sem ClassFile Op Lib Jvm.Stand Jvm.Free Jvm.LawKit
section New
variable {p : Program} {l : Launch} {e : Env} {R : Room} {s : State} {m : MethodId} {args : Array Value} {below : List Frame} {meth : Method} {c : Code} {T : State} {locs : List Loc} {cells slots : Nat}
theorem retI (X : Stand p l e R s m args below meth c T locs cells slots) (hx : p.tables.exec = Jvm.exec) {pc : Nat} {Ls : Array Slot} {z : Int32} {rest : List Value} (hret : meth.sig.returnType = some .int) (hd : decode c.code pc = .ok (.ireturn, 1)) {fs : List Frame}
    (hl : ∀ (f : JFrame) (acts : List Action), f.method = m → f.locked = none → f.entered = [] → (doReturn e (T.setTop f) acts (some (.int z))).1 = T.setFrames fs) : Steps p.tables e below (T.setTop (mkF m pc Ls (.int z :: rest))) (T.setFrames fs) :=
  retOut X hx hret rfl (Or.inl ⟨rfl, Or.inl rfl, z, rfl⟩) hd hl
theorem own_retL (X : Stand p l e R s m args below meth c T locs cells slots) (hx : p.tables.exec = Jvm.exec) {pc : Nat} {Ls : Array Slot} {z : Int64} {rest : List Value} (hret : meth.sig.returnType = some .long) (hd : decode c.code pc = .ok (.lreturn, 1)) {fs : List Frame}
    (hl : ∀ (f : JFrame) (acts : List Action), f.method = m → f.locked = none → f.entered = [] → (doReturn e (T.setTop f) acts (some (.long z))).1 = T.setFrames fs) : Steps p.tables e below (T.setTop (mkF m pc Ls (.long z :: rest))) (T.setFrames fs) :=
  retOut X hx hret rfl (Or.inr (Or.inl ⟨rfl, rfl, z, rfl⟩)) hd hl
theorem own_retA (X : Stand p l e R s m args below meth c T locs cells slots) (hx : p.tables.exec = Jvm.exec) {pc : Nat} {Ls : Array Slot} {w : Value} {t : FieldType} {rest : List Value} (hret : meth.sig.returnType = some t) (ht : t.isReference = true) (hw : w.isRef = true) (hd : decode c.code pc = .ok (.areturn, 1)) {fs : List Frame}
    (hl : ∀ (f : JFrame) (acts : List Action), f.method = m → f.locked = none → f.entered = [] → (doReturn e (T.setTop f) acts (some w)).1 = T.setFrames fs) : Steps p.tables e below (T.setTop (mkF m pc Ls (w :: rest))) (T.setFrames fs) :=
  retOut X hx hret (by cases t <;> first | (cases ht; done) | (cases w <;> first | rfl | cases hw)) (Or.inr (Or.inr (Or.inr (Or.inr ⟨rfl, ht, hw⟩)))) hd hl
theorem own_back {tb : Tables} {e : Env} {below : List Frame} {a b : State} {P : State → Outcome → Prop} (h : ∀ t, Steps tb e below b t → Steps tb e below a t) (k : ∃ t o, Steps tb e below b t ∧ P t o) : ∃ t o, Steps tb e below a t ∧ P t o := by
  obtain ⟨t, o, k1, k2⟩ := k
  exact ⟨t, o, h t k1, k2⟩
theorem own_sta_keep {Z : State} {h h' : Heap} {C n d : String} {v : Value} (F : Sta Z h C n d v) (K : Keep h h' []) : Sta Z h' C n d v := by
  obtain ⟨cf, i, k, f, st, cell, h1, h2, h3, h4, h5, r⟩ := F
  exact ⟨cf, i, k, f, st, cell, h1, h2, h3, h4, K.2.1 _ _ h5 nin0, r⟩
def ElA (Z : State) (h : Heap) (a : Addr) (ty : FieldType) (j : Int32) (v : Value) : Prop := ∃ c : Cell, Arr Z h a c ty ∧ ¬ (j < 0 ∨ c.slots.size ≤ j.toNatClampNeg) ∧ c.slots[j.toNatClampNeg]? = some v
theorem ElA.lt {Z : State} {h : Heap} {a : Addr} {ty : FieldType} {j : Int32} {v : Value} (F : ElA Z h a ty j v) : a < h.size := by obtain ⟨c, A, -⟩ := F; exact A.lt
theorem ElA.ext {Z : State} {h h' : Heap} {a : Addr} {ty : FieldType} {j : Int32} {v : Value} (F : ElA Z h a ty j v) (E : Ext h h') : ElA Z h' a ty j v := by obtain ⟨c, A, r⟩ := F; exact ⟨c, A.ext E, r⟩
theorem ElA.other {Z : State} {h h' : Heap} {a b : Addr} {ty : FieldType} {j : Int32} {v w : Value} {sl : Nat} (F : ElA Z h b ty j v) (W : Wr h h' a sl w) (q : b ≠ a) : ElA Z h' b ty j v := by obtain ⟨c, A, r⟩ := F; exact ⟨c, A.other W q, r⟩
theorem ElA.keep {Z : State} {h h' : Heap} {a : Addr} {ty : FieldType} {j : Int32} {v : Value} {ws : List Addr} (F : ElA Z h a ty j v) (K : Keep h h' ws) (q : a ∉ ws) : ElA Z h' a ty j v := by obtain ⟨c, A, r⟩ := F; exact ⟨c, ⟨K.2.1 a c A.1 q, A.2⟩, r⟩
theorem ElA.store {Z : State} {h h' : Heap} {a : Addr} {ty : FieldType} {j : Int32} {v : Value} {c : Cell} (A : Arr Z h a c ty) (hj : ¬ (j < 0 ∨ c.slots.size ≤ j.toNatClampNeg)) (W : Wr h h' a j.toNatClampNeg v) : ElA Z h' a ty j v :=
  ⟨_, A.same W, by rw [sz_set]; exact hj, get_hit hj rfl⟩
theorem own_irr (x : Int32) : ¬ x < x := by rw [Int32.lt_iff_toInt_lt]; omega
theorem own_irrL (x : Int64) : ¬ x < x := by rw [Int64.lt_iff_toInt_lt]; omega
end New
end Jvm.RoadKit
namespace Jvm.Pilot.@@N@@
open Jvm Jvm.ClassFile Sem Op Lib Jvm.Free Jvm.Stand Jvm.LawKit Jvm.RoadKit Bundle Jvm.Pilot.@@N@@.Jvm.D

def own_get (w0 w1 w2 : Int64) (j : Int32) : Int64 := if j = 0 then w0 else if j = 1 then w1 else w2
theorem own_idx (k : Int32) (h0 : ¬ k < 0) (h1 : k < 192) : (((k.toUInt32 >>> ((6 : Int32) &&& 31).toUInt32).toInt32).toInt = k.toInt / 64) := by
  have h := c_iushr k 6 6 (by decide) (by decide)
  have hr := rng32 k
  have k0 : (0 : Int32).toInt = 0 := rfl
  rw [Int32.lt_iff_toInt_lt, k0] at h0
  rw [h]
  have : (2 ^ 6 : Nat) = 64 := by decide
  omega
theorem own_in (k : Int32) (h0 : ¬ k < 0) (h1 : k < 192) : ¬ ((k.toUInt32 >>> ((6 : Int32) &&& 31).toUInt32).toInt32) < 0 ∧ ((k.toUInt32 >>> ((6 : Int32) &&& 31).toUInt32).toInt32) < (3 : Int32) := by
  have h := own_idx k h0 h1
  have k0 : (0 : Int32).toInt = 0 := rfl
  have k3 : (3 : Int32).toInt = 3 := rfl
  have k192 : (192 : Int32).toInt = 192 := rfl
  rw [Int32.lt_iff_toInt_lt, Int32.lt_iff_toInt_lt, h, k0, k3]
  rw [Int32.lt_iff_toInt_lt, k0] at h0
  rw [Int32.lt_iff_toInt_lt, k192] at h1
  omega
theorem own_at (w0 w1 w2 : Int64) (j : Int32) (h : ¬ j < 0 ∧ j < (3 : Int32)) : ([.long w0, .long w1, .long w2] : List Value).getD j.toNatClampNeg (.long 0) = .long (own_get w0 w1 w2 j) := by
  have k0 : (0 : Int32).toInt = 0 := rfl
  have k3 : (3 : Int32).toInt = 3 := rfl
  rw [Int32.lt_iff_toInt_lt, Int32.lt_iff_toInt_lt, k0, k3] at h
  have hj := nat_of (j := j) (by rw [Int32.lt_iff_toInt_lt, k0]; exact h.1)
  have hc : j.toInt = 0 ∨ j.toInt = 1 ∨ j.toInt = 2 := by omega
  have e : j = Int32.ofInt j.toInt := by simp
  rcases hc with q | q | q <;> (rw [q] at e; subst e; rfl)
theorem d1_0 : decode prog_8_method_19_code 0 = .ok (.aload_n 0, 1) := by decide +kernel
theorem d1_1 : decode prog_8_method_19_code 1 = .ok (.iload_n 1, 1) := by decide +kernel
theorem d1_2 : decode prog_8_method_19_code 2 = .ok (.bipush 6, 2) := by decide +kernel
theorem d1_4 : decode prog_8_method_19_code 4 = .ok (.iushr, 1) := by decide +kernel
theorem d1_5 : decode prog_8_method_19_code 5 = .ok (.laload, 1) := by decide +kernel
theorem d1_6 : decode prog_8_method_19_code 6 = .ok (.lconst 1, 1) := by decide +kernel
theorem d1_7 : decode prog_8_method_19_code 7 = .ok (.iload_n 1, 1) := by decide +kernel
theorem d1_8 : decode prog_8_method_19_code 8 = .ok (.lshl, 1) := by decide +kernel
theorem d1_9 : decode prog_8_method_19_code 9 = .ok (.land, 1) := by decide +kernel
theorem d1_10 : decode prog_8_method_19_code 10 = .ok (.lconst 0, 1) := by decide +kernel
theorem d1_11 : decode prog_8_method_19_code 11 = .ok (.lcmp, 1) := by decide +kernel
theorem d1_12 : decode prog_8_method_19_code 12 = .ok (.ifCond .eq 7, 3) := by decide +kernel
theorem d1_15 : decode prog_8_method_19_code 15 = .ok (.iconst 1, 1) := by decide +kernel
theorem d1_16 : decode prog_8_method_19_code 16 = .ok (.goto 4, 3) := by decide +kernel
theorem d1_19 : decode prog_8_method_19_code 19 = .ok (.iconst 0, 1) := by decide +kernel
theorem d1_20 : decode prog_8_method_19_code 20 = .ok (.ireturn, 1) := by decide +kernel
theorem pn_1 : plainName "com/example/twinrail/twinrail/Dictionary" = true := by first | (simp [plainName, overriddenIn]; done) | decide +kernel
theorem ef_1 (m : MethodId) (x0 : Addr) (x1 : Int32) : entryFrame m #[(.ref x0), (.int x1)] 2 = mkF m 0 #[.val (.ref x0), .val (.int x1)] [] := by first | (simp [entryFrame, mkF, argsToLocals, Value.category]; done) | rfl
def f1 (p1 : Int32) (w0 : Int64) (w1 : Int64) (w2 : Int64) : Int32 := (if ((own_get w0 w1 w2 ((p1.toUInt32 >>> ((6 : Int32) &&& 31).toUInt32).toInt32)) &&& ((1 : Int64) <<< (p1 &&& 0x3f).toInt64)) = (0 : Int64) then (0 : Int32) else (1 : Int32))
def Q1 (Z : State) (a0 : Addr) (p1 : Int32) (kA : ClassId) (w0 : Int64) (w1 : Int64) (w2 : Int64) (h0 : Heap) (n0 : Nat) (v : Option Value) (h : Heap) (L : List Loc) : Prop := v = some (.int (f1 p1 w0 w1 w2)) ∧ Fr n0 L ∧ h = h0
set_option maxRecDepth 65536 in
set_option maxHeartbeats 40000000 in
theorem rm1 (l : Launch) (Z : State) (aw : Array Value) (hw : ∀ d ∈ tables_1, d.before aw Z = true) (ws : List Jvm.Cond) (a0 : Addr) (p1 : Int32) (kA : ClassId) (w0 : Int64) (w1 : Int64) (w2 : Int64) (h0 : Heap) (n0 : Nat) (Z0 : n0 ≤ h0.size) (V_a0 : Arv Z h0 a0 kA .long (3 : Int32) [(.long w0), (.long w1), (.long w2)] (.long (0 : Int64))) (hk0 : ¬ (p1 < (0 : Int32))) (hk1 : p1 < (192 : Int32)) :
    MetFree l (⟨"com/example/twinrail/twinrail/Dictionary", "isTerminal", "([JI)Z"⟩ : MethodName) (head1 (Jvm.Cond.code (⟨"com/example/twinrail/twinrail/Dictionary", "isTerminal", "([JI)Z"⟩ : MethodName) prog_8_method_19_code 2 (some .boolean) :: ws) ({ frames := 0, cells := 0, slots := 0, locals := 0 } : Room)) (fun a U => a = #[(.ref a0), (.int p1)] ∧ Z.Warmed39 U.vm ∧ U.heap = h0) (fun _ _ _ _ _ => True) (fun _ U o U' => ∃ v L, o = .returned v ∧ Q1 Z a0 p1 kA w0 w1 w2 h0 n0 v U'.heap L ∧ FrameEnd U o U' L ({ frames := 0, cells := 0, slots := 0, locals := 0 } : Room).cells ({ frames := 0, cells := 0, slots := 0, locals := 0 } : Room).slots) := by
  refine MetFree.of_bodySF (plainFor_of_name pn_1) hisR ?_
  intro p e s m args below meth c s₁ Bd hml0 hP hK
  obtain ⟨rfl, hZ, hh⟩ := hP
  have hx := Bd.exec
  have hby := Bd.bytes
  have hml : c.maxLocals = 2 := hml0
  have hown : s.vm.findClass "com/example/twinrail/twinrail/Dictionary" = some m.cls := findClass_of_methodNamed Bd.named
  have hnm := (name_of_methodNamed Bd.named Bd.method).1
  have X0 : Stand p l e ({ frames := 0, cells := 0, slots := 0, locals := 0 } : Room) s m #[(.ref a0), (.int p1)] below meth c s₁ [] 0 0 := Stand.of_body Bd
  have e0 : s₁.heap = h0 := by rw [← hh, Bd.state]; rfl
  have N0 := Fr.nil n0
  refine own_back (b := s₁.setTop (mkF m 0 #[.val (.ref a0), .val (.int p1)] [])) (fun t kt => castTop (ef_1 m a0 p1) kt) ?_
  obtain ⟨cl1, Ar1, qk1, S1, N1', Hh1, G1⟩ := V_a0
  have hin1 : ¬ (((p1.toUInt32 >>> ((6 : Int32) &&& 31).toUInt32).toInt32) < 0 ∨ cl1.slots.size ≤ (((p1.toUInt32 >>> ((6 : Int32) &&& 31).toUInt32).toInt32)).toNatClampNeg) := inb_of S1 (own_in p1 hk0 hk1)
  have hat1 : cl1.slots[(((p1.toUInt32 >>> ((6 : Int32) &&& 31).toUInt32).toInt32)).toNatClampNeg]? = some (.long (own_get w0 w1 w2 ((p1.toUInt32 >>> ((6 : Int32) &&& 31).toUInt32).toInt32))) := Has.at Hh1 hin1 (own_at w0 w1 w2 _ (own_in p1 hk0 hk1))
  refine own_back (b := s₁.setTop (mkF m 12 #[.val (.ref a0), .val (.int p1)] [(.int (lcmpW ((own_get w0 w1 w2 ((p1.toUInt32 >>> ((6 : Int32) &&& 31).toUInt32).toInt32)) &&& ((1 : Int64) <<< (p1 &&& 0x3f).toInt64)) (0 : Int64)))])) (fun t kt => ?_) ?_
  · show Steps p.tables e below (s₁.setTop (mkF m 0 #[.val (.ref a0), .val (.int p1)] [])) _
    refine XS.aloadN X0.here hx rfl (hb hby d1_0) rfl rfl ?_
    show Steps p.tables e below (s₁.setTop (mkF m 1 #[.val (.ref a0), .val (.int p1)] [(.ref a0)])) _
    refine XS.iloadN X0.here hx rfl (hb hby d1_1) rfl ?_
    show Steps p.tables e below (s₁.setTop (mkF m 2 #[.val (.ref a0), .val (.int p1)] [(.int p1), (.ref a0)])) _
    refine XS.bipush X0.here hx rfl (hb hby d1_2) ?_
    show Steps p.tables e below (s₁.setTop (mkF m 4 #[.val (.ref a0), .val (.int p1)] [(.int (6 : Int32)), (.int p1), (.ref a0)])) _
    refine XS.iushr X0.here hx rfl (hb hby d1_4) rfl ?_
    show Steps p.tables e below (s₁.setTop (mkF m 5 #[.val (.ref a0), .val (.int p1)] [(.int ((p1.toUInt32 >>> ((6 : Int32) &&& 31).toUInt32).toInt32)), (.ref a0)])) _
    refine X0.laload hx (j := ((p1.toUInt32 >>> ((6 : Int32) &&& 31).toUInt32).toInt32)) (v := (.long (own_get w0 w1 w2 ((p1.toUInt32 >>> ((6 : Int32) &&& 31).toUInt32).toInt32)))) (by rw [e0]; exact Ar1.1) (State.isArrayOf_alike hZ.alike Ar1.2.1) Ar1.2.2 hin1 hat1 (g := (mkF m 5 #[.val (.ref a0), .val (.int p1)] [(.int ((p1.toUInt32 >>> ((6 : Int32) &&& 31).toUInt32).toInt32)), (.ref a0)])) rfl rfl (hb hby d1_5) _ ?_
    show Steps p.tables e below (s₁.setTop (mkF m 6 #[.val (.ref a0), .val (.int p1)] [(.long (own_get w0 w1 w2 ((p1.toUInt32 >>> ((6 : Int32) &&& 31).toUInt32).toInt32)))])) _
    refine XS.lconst X0.here hx rfl (hb hby d1_6) ?_
    show Steps p.tables e below (s₁.setTop (mkF m 7 #[.val (.ref a0), .val (.int p1)] [(.long (1 : Int64)), (.long (own_get w0 w1 w2 ((p1.toUInt32 >>> ((6 : Int32) &&& 31).toUInt32).toInt32)))])) _
    refine XS.iloadN X0.here hx rfl (hb hby d1_7) rfl ?_
    show Steps p.tables e below (s₁.setTop (mkF m 8 #[.val (.ref a0), .val (.int p1)] [(.int p1), (.long (1 : Int64)), (.long (own_get w0 w1 w2 ((p1.toUInt32 >>> ((6 : Int32) &&& 31).toUInt32).toInt32)))])) _
    refine XS.lshl X0.here hx rfl (hb hby d1_8) rfl ?_
    show Steps p.tables e below (s₁.setTop (mkF m 9 #[.val (.ref a0), .val (.int p1)] [(.long ((1 : Int64) <<< (p1 &&& 0x3f).toInt64)), (.long (own_get w0 w1 w2 ((p1.toUInt32 >>> ((6 : Int32) &&& 31).toUInt32).toInt32)))])) _
    refine XS.land X0.here hx rfl (hb hby d1_9) rfl ?_
    show Steps p.tables e below (s₁.setTop (mkF m 10 #[.val (.ref a0), .val (.int p1)] [(.long ((own_get w0 w1 w2 ((p1.toUInt32 >>> ((6 : Int32) &&& 31).toUInt32).toInt32)) &&& ((1 : Int64) <<< (p1 &&& 0x3f).toInt64)))])) _
    refine XS.lconst X0.here hx rfl (hb hby d1_10) ?_
    show Steps p.tables e below (s₁.setTop (mkF m 11 #[.val (.ref a0), .val (.int p1)] [(.long (0 : Int64)), (.long ((own_get w0 w1 w2 ((p1.toUInt32 >>> ((6 : Int32) &&& 31).toUInt32).toInt32)) &&& ((1 : Int64) <<< (p1 &&& 0x3f).toInt64)))])) _
    refine XS.lcmp X0.here hx rfl (hb hby d1_11) rfl ?_
    exact kt
  by_cases hc12_2 : ((own_get w0 w1 w2 ((p1.toUInt32 >>> ((6 : Int32) &&& 31).toUInt32).toInt32)) &&& ((1 : Int64) <<< (p1 &&& 0x3f).toInt64)) = (0 : Int64)
  · refine own_back (b := s₁.setTop (mkF m 20 #[.val (.ref a0), .val (.int p1)] [(.int (0 : Int32))])) (fun t kt => ?_) ?_
    · show Steps p.tables e below (s₁.setTop (mkF m 12 #[.val (.ref a0), .val (.int p1)] [(.int (lcmpW ((own_get w0 w1 w2 ((p1.toUInt32 >>> ((6 : Int32) &&& 31).toUInt32).toInt32)) &&& ((1 : Int64) <<< (p1 &&& 0x3f).toInt64)) (0 : Int64)))])) _
      refine XS.ifYes X0.here hx rfl (pc0 := 12) (pc' := 19) rfl (hb hby d1_12) rfl ((if0 _ _).trans (teq ((lw_eq _ _).mpr hc12_2)).1) (by decide) (by decide) ?_
      show Steps p.tables e below (s₁.setTop (mkF m 19 #[.val (.ref a0), .val (.int p1)] [])) _
      refine XS.iconst X0.here hx rfl (hb hby d1_19) ?_
      exact kt
    obtain ⟨fs, hr, hrun, hended, hW, hsame⟩ := X0.leave (v := some (.int (0 : Int32))) (fun h => by rw [Bd.returns] at h; cases h)
    refine ⟨_, _, ?_, hrun, hended, _, _, rfl, ?_, ⟨_, rfl⟩, hW, hsame.mono (by decide) (by decide)⟩
    · show Steps p.tables e below (s₁.setTop (mkF m 20 #[.val (.ref a0), .val (.int p1)] [(.int (0 : Int32))])) _
      exact retN X0 hx (t := .boolean) Bd.returns (by simp) (hb hby d1_20) hr
    · show Q1 Z a0 p1 kA w0 w1 w2 h0 n0 _ s₁.heap _
      rw [e0]
      exact ⟨by rw [show f1 p1 w0 w1 w2 = (0 : Int32) from by unfold f1; rw [if_pos hc12_2]], N0, rfl⟩
  · refine own_back (b := s₁.setTop (mkF m 20 #[.val (.ref a0), .val (.int p1)] [(.int (1 : Int32))])) (fun t kt => ?_) ?_
    · show Steps p.tables e below (s₁.setTop (mkF m 12 #[.val (.ref a0), .val (.int p1)] [(.int (lcmpW ((own_get w0 w1 w2 ((p1.toUInt32 >>> ((6 : Int32) &&& 31).toUInt32).toInt32)) &&& ((1 : Int64) <<< (p1 &&& 0x3f).toInt64)) (0 : Int64)))])) _
      refine XS.ifNo X0.here hx rfl (hb hby d1_12) rfl ((if0 _ _).trans (feq (fun q => hc12_2 ((lw_eq _ _).mp q))).1) ?_
      show Steps p.tables e below (s₁.setTop (mkF m 15 #[.val (.ref a0), .val (.int p1)] [])) _
      refine XS.iconst X0.here hx rfl (hb hby d1_15) ?_
      show Steps p.tables e below (s₁.setTop (mkF m 16 #[.val (.ref a0), .val (.int p1)] [(.int (1 : Int32))])) _
      refine XS.goto X0.here hx rfl (pc0 := 16) (pc' := 20) rfl (hb hby d1_16) (by decide) (by decide) ?_
      exact kt
    obtain ⟨fs, hr, hrun, hended, hW, hsame⟩ := X0.leave (v := some (.int (1 : Int32))) (fun h => by rw [Bd.returns] at h; cases h)
    refine ⟨_, _, ?_, hrun, hended, _, _, rfl, ?_, ⟨_, rfl⟩, hW, hsame.mono (by decide) (by decide)⟩
    · show Steps p.tables e below (s₁.setTop (mkF m 20 #[.val (.ref a0), .val (.int p1)] [(.int (1 : Int32))])) _
      exact retN X0 hx (t := .boolean) Bd.returns (by simp) (hb hby d1_20) hr
    · show Q1 Z a0 p1 kA w0 w1 w2 h0 n0 _ s₁.heap _
      rw [e0]
      exact ⟨by rw [show f1 p1 w0 w1 w2 = (1 : Int32) from by unfold f1; rw [if_neg hc12_2]], N0, rfl⟩
theorem d2_0 : decode method_3_code 0 = .ok (.iload 6, 2) := by decide +kernel
theorem d2_2 : decode method_3_code 2 = .ok (.bipush 64, 2) := by decide +kernel
theorem d2_4 : decode method_3_code 4 = .ok (.idiv, 1) := by decide +kernel
theorem d2_5 : decode method_3_code 5 = .ok (.istore 7, 2) := by decide +kernel
theorem d2_7 : decode method_3_code 7 = .ok (.iload 6, 2) := by decide +kernel
theorem d2_9 : decode method_3_code 9 = .ok (.bipush 64, 2) := by decide +kernel
theorem d2_11 : decode method_3_code 11 = .ok (.iload 7, 2) := by decide +kernel
theorem d2_13 : decode method_3_code 13 = .ok (.imul, 1) := by decide +kernel
theorem d2_14 : decode method_3_code 14 = .ok (.isub, 1) := by decide +kernel
theorem d2_15 : decode method_3_code 15 = .ok (.istore 8, 2) := by decide +kernel
theorem d2_17 : decode method_3_code 17 = .ok (.iload 7, 2) := by decide +kernel
theorem d2_19 : decode method_3_code 19 = .ok (.ifCond .ne 9, 3) := by decide +kernel
theorem d2_22 : decode method_3_code 22 = .ok (.lload_n 0, 1) := by decide +kernel
theorem d2_23 : decode method_3_code 23 = .ok (.lstore 9, 2) := by decide +kernel
theorem d2_25 : decode method_3_code 25 = .ok (.goto 19, 3) := by decide +kernel
theorem d2_28 : decode method_3_code 28 = .ok (.iload 7, 2) := by decide +kernel
theorem d2_30 : decode method_3_code 30 = .ok (.iconst 1, 1) := by decide +kernel
theorem d2_31 : decode method_3_code 31 = .ok (.if_icmp .ne 9, 3) := by decide +kernel
theorem d2_34 : decode method_3_code 34 = .ok (.lload_n 2, 1) := by decide +kernel
theorem d2_35 : decode method_3_code 35 = .ok (.lstore 9, 2) := by decide +kernel
theorem d2_37 : decode method_3_code 37 = .ok (.goto 7, 3) := by decide +kernel
theorem d2_40 : decode method_3_code 40 = .ok (.lload 4, 2) := by decide +kernel
theorem d2_42 : decode method_3_code 42 = .ok (.lstore 9, 2) := by decide +kernel
theorem d2_44 : decode method_3_code 44 = .ok (.lload 9, 2) := by decide +kernel
theorem d2_46 : decode method_3_code 46 = .ok (.iload 8, 2) := by decide +kernel
theorem d2_48 : decode method_3_code 48 = .ok (.lushr, 1) := by decide +kernel
theorem d2_49 : decode method_3_code 49 = .ok (.lconst 1, 1) := by decide +kernel
theorem d2_50 : decode method_3_code 50 = .ok (.land, 1) := by decide +kernel
theorem d2_51 : decode method_3_code 51 = .ok (.lconst 1, 1) := by decide +kernel
theorem d2_52 : decode method_3_code 52 = .ok (.lcmp, 1) := by decide +kernel
theorem d2_53 : decode method_3_code 53 = .ok (.ifCond .ne 7, 3) := by decide +kernel
theorem d2_56 : decode method_3_code 56 = .ok (.iconst 1, 1) := by decide +kernel
theorem d2_57 : decode method_3_code 57 = .ok (.goto 4, 3) := by decide +kernel
theorem d2_60 : decode method_3_code 60 = .ok (.iconst 0, 1) := by decide +kernel
theorem d2_61 : decode method_3_code 61 = .ok (.ireturn, 1) := by decide +kernel
theorem pn_2 : plainName "com/example/twinrail/twinrail/DictionaryIsTerminalPinLaw" = true := by first | (simp [plainName, overriddenIn]; done) | decide +kernel
theorem ef_2 (m : MethodId) (x0 : Int64) (x1 : Int64) (x2 : Int64) (x3 : Int32) : entryFrame m #[(.long x0), (.long x1), (.long x2), (.int x3)] 11 = mkF m 0 #[.val (.long x0), .second, .val (.long x1), .second, .val (.long x2), .second, .val (.int x3), .unset, .unset, .unset, .unset] [] := by first | (simp [entryFrame, mkF, argsToLocals, Value.category]; done) | rfl
def m2_0 (q0 : Int64) (q1 : Int64) (q2 : Int64) (p3 : Int32) : Int64 := (if (p3 / (64 : Int32)) = (0 : Int32) then q0 else (if (p3 / (64 : Int32)) = (1 : Int32) then q1 else q2))
def f2 (q0 : Int64) (q1 : Int64) (q2 : Int64) (p3 : Int32) : Int32 := (if ((((m2_0 q0 q1 q2 p3).toUInt64 >>> ((p3 - ((64 : Int32) * (p3 / (64 : Int32)))) &&& 0x3f).toInt64.toUInt64).toInt64) &&& (1 : Int64)) = (1 : Int64) then (1 : Int32) else (0 : Int32))
def Q2 (Z : State) (q0 : Int64) (q1 : Int64) (q2 : Int64) (p3 : Int32) (h0 : Heap) (n0 : Nat) (v : Option Value) (h : Heap) (L : List Loc) : Prop := v = some (.int (f2 q0 q1 q2 p3)) ∧ Fr n0 L ∧ h = h0
set_option maxRecDepth 65536 in
set_option maxHeartbeats 40000000 in
theorem rm2 (l : Launch) (Z : State) (aw : Array Value) (hw : ∀ d ∈ tables_1, d.before aw Z = true) (ws : List Jvm.Cond) (q0 : Int64) (q1 : Int64) (q2 : Int64) (p3 : Int32) (h0 : Heap) (n0 : Nat) (Z0 : n0 ≤ h0.size) :
    MetFree l (⟨"com/example/twinrail/twinrail/DictionaryIsTerminalPinLaw", "reference", "(JJJI)Z"⟩ : MethodName) (head1 (Jvm.Cond.code (⟨"com/example/twinrail/twinrail/DictionaryIsTerminalPinLaw", "reference", "(JJJI)Z"⟩ : MethodName) method_3_code 11 (some .boolean) :: ws) ({ frames := 0, cells := 0, slots := 0, locals := 0 } : Room)) (fun a U => a = #[(.long q0), (.long q1), (.long q2), (.int p3)] ∧ Z.Warmed39 U.vm ∧ U.heap = h0) (fun _ _ _ _ _ => True) (fun _ U o U' => ∃ v L, o = .returned v ∧ Q2 Z q0 q1 q2 p3 h0 n0 v U'.heap L ∧ FrameEnd U o U' L ({ frames := 0, cells := 0, slots := 0, locals := 0 } : Room).cells ({ frames := 0, cells := 0, slots := 0, locals := 0 } : Room).slots) := by
  refine MetFree.of_bodySF (plainFor_of_name pn_2) hisR ?_
  intro p e s m args below meth c s₁ Bd hml0 hP hK
  obtain ⟨rfl, hZ, hh⟩ := hP
  have hx := Bd.exec
  have hby := Bd.bytes
  have hml : c.maxLocals = 11 := hml0
  have hown : s.vm.findClass "com/example/twinrail/twinrail/DictionaryIsTerminalPinLaw" = some m.cls := findClass_of_methodNamed Bd.named
  have hnm := (name_of_methodNamed Bd.named Bd.method).1
  have X0 : Stand p l e ({ frames := 0, cells := 0, slots := 0, locals := 0 } : Room) s m #[(.long q0), (.long q1), (.long q2), (.int p3)] below meth c s₁ [] 0 0 := Stand.of_body Bd
  have e0 : s₁.heap = h0 := by rw [← hh, Bd.state]; rfl
  have N0 := Fr.nil n0
  refine own_back (b := s₁.setTop (mkF m 0 #[.val (.long q0), .second, .val (.long q1), .second, .val (.long q2), .second, .val (.int p3), .unset, .unset, .unset, .unset] [])) (fun t kt => castTop (ef_2 m q0 q1 q2 p3) kt) ?_
  refine own_back (b := s₁.setTop (mkF m 19 #[.val (.long q0), .second, .val (.long q1), .second, .val (.long q2), .second, .val (.int p3), .val (.int (p3 / (64 : Int32))), .val (.int (p3 - ((64 : Int32) * (p3 / (64 : Int32))))), .unset, .unset] [(.int (p3 / (64 : Int32)))])) (fun t kt => ?_) ?_
  · show Steps p.tables e below (s₁.setTop (mkF m 0 #[.val (.long q0), .second, .val (.long q1), .second, .val (.long q2), .second, .val (.int p3), .unset, .unset, .unset, .unset] [])) _
    refine XS.iload X0.here hx rfl (hb hby d2_0) rfl ?_
    show Steps p.tables e below (s₁.setTop (mkF m 2 #[.val (.long q0), .second, .val (.long q1), .second, .val (.long q2), .second, .val (.int p3), .unset, .unset, .unset, .unset] [(.int p3)])) _
    refine XS.bipush X0.here hx rfl (hb hby d2_2) ?_
    show Steps p.tables e below (s₁.setTop (mkF m 4 #[.val (.long q0), .second, .val (.long q1), .second, .val (.long q2), .second, .val (.int p3), .unset, .unset, .unset, .unset] [(.int (64 : Int32)), (.int p3)])) _
    refine XS.idiv X0.here hx rfl (hb hby d2_4) rfl (by decide) ?_
    show Steps p.tables e below (s₁.setTop (mkF m 5 #[.val (.long q0), .second, .val (.long q1), .second, .val (.long q2), .second, .val (.int p3), .unset, .unset, .unset, .unset] [(.int (p3 / (64 : Int32)))])) _
    refine XS.istore X0.here hx rfl (hb hby d2_5) rfl (l' := #[.val (.long q0), .second, .val (.long q1), .second, .val (.long q2), .second, .val (.int p3), .val (.int (p3 / (64 : Int32))), .unset, .unset, .unset]) rfl ?_
    show Steps p.tables e below (s₁.setTop (mkF m 7 #[.val (.long q0), .second, .val (.long q1), .second, .val (.long q2), .second, .val (.int p3), .val (.int (p3 / (64 : Int32))), .unset, .unset, .unset] [])) _
    refine XS.iload X0.here hx rfl (hb hby d2_7) rfl ?_
    show Steps p.tables e below (s₁.setTop (mkF m 9 #[.val (.long q0), .second, .val (.long q1), .second, .val (.long q2), .second, .val (.int p3), .val (.int (p3 / (64 : Int32))), .unset, .unset, .unset] [(.int p3)])) _
    refine XS.bipush X0.here hx rfl (hb hby d2_9) ?_
    show Steps p.tables e below (s₁.setTop (mkF m 11 #[.val (.long q0), .second, .val (.long q1), .second, .val (.long q2), .second, .val (.int p3), .val (.int (p3 / (64 : Int32))), .unset, .unset, .unset] [(.int (64 : Int32)), (.int p3)])) _
    refine XS.iload X0.here hx rfl (hb hby d2_11) rfl ?_
    show Steps p.tables e below (s₁.setTop (mkF m 13 #[.val (.long q0), .second, .val (.long q1), .second, .val (.long q2), .second, .val (.int p3), .val (.int (p3 / (64 : Int32))), .unset, .unset, .unset] [(.int (p3 / (64 : Int32))), (.int (64 : Int32)), (.int p3)])) _
    refine XS.imul X0.here hx rfl (hb hby d2_13) rfl ?_
    show Steps p.tables e below (s₁.setTop (mkF m 14 #[.val (.long q0), .second, .val (.long q1), .second, .val (.long q2), .second, .val (.int p3), .val (.int (p3 / (64 : Int32))), .unset, .unset, .unset] [(.int ((64 : Int32) * (p3 / (64 : Int32)))), (.int p3)])) _
    refine XS.isub X0.here hx rfl (hb hby d2_14) rfl ?_
    show Steps p.tables e below (s₁.setTop (mkF m 15 #[.val (.long q0), .second, .val (.long q1), .second, .val (.long q2), .second, .val (.int p3), .val (.int (p3 / (64 : Int32))), .unset, .unset, .unset] [(.int (p3 - ((64 : Int32) * (p3 / (64 : Int32)))))])) _
    refine XS.istore X0.here hx rfl (hb hby d2_15) rfl (l' := #[.val (.long q0), .second, .val (.long q1), .second, .val (.long q2), .second, .val (.int p3), .val (.int (p3 / (64 : Int32))), .val (.int (p3 - ((64 : Int32) * (p3 / (64 : Int32))))), .unset, .unset]) rfl ?_
    show Steps p.tables e below (s₁.setTop (mkF m 17 #[.val (.long q0), .second, .val (.long q1), .second, .val (.long q2), .second, .val (.int p3), .val (.int (p3 / (64 : Int32))), .val (.int (p3 - ((64 : Int32) * (p3 / (64 : Int32))))), .unset, .unset] [])) _
    refine XS.iload X0.here hx rfl (hb hby d2_17) rfl ?_
    exact kt
  refine own_back (b := s₁.setTop (mkF m 44 #[.val (.long q0), .second, .val (.long q1), .second, .val (.long q2), .second, .val (.int p3), .val (.int (p3 / (64 : Int32))), .val (.int (p3 - ((64 : Int32) * (p3 / (64 : Int32))))), .val (.long (m2_0 q0 q1 q2 p3)), .second] [])) (fun t kt => ?_) ?_
  · by_cases hm19_1 : (p3 / (64 : Int32)) = (0 : Int32)
    · rw [show (m2_0 q0 q1 q2 p3) = q0 from by unfold m2_0; rw [if_pos hm19_1]] at kt
      show Steps p.tables e below (s₁.setTop (mkF m 19 #[.val (.long q0), .second, .val (.long q1), .second, .val (.long q2), .second, .val (.int p3), .val (.int (p3 / (64 : Int32))), .val (.int (p3 - ((64 : Int32) * (p3 / (64 : Int32))))), .unset, .unset] [(.int (p3 / (64 : Int32)))])) _
      refine XS.ifNo X0.here hx rfl (hb hby d2_19) rfl ((if0 _ _).trans (teq hm19_1).2) ?_
      show Steps p.tables e below (s₁.setTop (mkF m 22 #[.val (.long q0), .second, .val (.long q1), .second, .val (.long q2), .second, .val (.int p3), .val (.int (p3 / (64 : Int32))), .val (.int (p3 - ((64 : Int32) * (p3 / (64 : Int32))))), .unset, .unset] [])) _
      refine XS.lloadN X0.here hx rfl (hb hby d2_22) rfl ?_
      show Steps p.tables e below (s₁.setTop (mkF m 23 #[.val (.long q0), .second, .val (.long q1), .second, .val (.long q2), .second, .val (.int p3), .val (.int (p3 / (64 : Int32))), .val (.int (p3 - ((64 : Int32) * (p3 / (64 : Int32))))), .unset, .unset] [(.long q0)])) _
      refine XS.lstore X0.here hx rfl (hb hby d2_23) rfl (l' := #[.val (.long q0), .second, .val (.long q1), .second, .val (.long q2), .second, .val (.int p3), .val (.int (p3 / (64 : Int32))), .val (.int (p3 - ((64 : Int32) * (p3 / (64 : Int32))))), .val (.long q0), .second]) rfl ?_
      show Steps p.tables e below (s₁.setTop (mkF m 25 #[.val (.long q0), .second, .val (.long q1), .second, .val (.long q2), .second, .val (.int p3), .val (.int (p3 / (64 : Int32))), .val (.int (p3 - ((64 : Int32) * (p3 / (64 : Int32))))), .val (.long q0), .second] [])) _
      refine XS.goto X0.here hx rfl (pc0 := 25) (pc' := 44) rfl (hb hby d2_25) (by decide) (by decide) ?_
      exact kt
    · by_cases hm31_2 : (p3 / (64 : Int32)) = (1 : Int32)
      · rw [show (m2_0 q0 q1 q2 p3) = q1 from by unfold m2_0; rw [if_neg hm19_1, if_pos hm31_2]] at kt
        show Steps p.tables e below (s₁.setTop (mkF m 19 #[.val (.long q0), .second, .val (.long q1), .second, .val (.long q2), .second, .val (.int p3), .val (.int (p3 / (64 : Int32))), .val (.int (p3 - ((64 : Int32) * (p3 / (64 : Int32))))), .unset, .unset] [(.int (p3 / (64 : Int32)))])) _
        refine XS.ifYes X0.here hx rfl (pc0 := 19) (pc' := 28) rfl (hb hby d2_19) rfl ((if0 _ _).trans (feq hm19_1).2) (by decide) (by decide) ?_
        show Steps p.tables e below (s₁.setTop (mkF m 28 #[.val (.long q0), .second, .val (.long q1), .second, .val (.long q2), .second, .val (.int p3), .val (.int (p3 / (64 : Int32))), .val (.int (p3 - ((64 : Int32) * (p3 / (64 : Int32))))), .unset, .unset] [])) _
        refine XS.iload X0.here hx rfl (hb hby d2_28) rfl ?_
        show Steps p.tables e below (s₁.setTop (mkF m 30 #[.val (.long q0), .second, .val (.long q1), .second, .val (.long q2), .second, .val (.int p3), .val (.int (p3 / (64 : Int32))), .val (.int (p3 - ((64 : Int32) * (p3 / (64 : Int32))))), .unset, .unset] [(.int (p3 / (64 : Int32)))])) _
        refine XS.iconst X0.here hx rfl (hb hby d2_30) ?_
        show Steps p.tables e below (s₁.setTop (mkF m 31 #[.val (.long q0), .second, .val (.long q1), .second, .val (.long q2), .second, .val (.int p3), .val (.int (p3 / (64 : Int32))), .val (.int (p3 - ((64 : Int32) * (p3 / (64 : Int32))))), .unset, .unset] [(.int (1 : Int32)), (.int (p3 / (64 : Int32)))])) _
        refine XS.icmpNo X0.here hx rfl (hb hby d2_31) rfl (teq hm31_2).2 ?_
        show Steps p.tables e below (s₁.setTop (mkF m 34 #[.val (.long q0), .second, .val (.long q1), .second, .val (.long q2), .second, .val (.int p3), .val (.int (p3 / (64 : Int32))), .val (.int (p3 - ((64 : Int32) * (p3 / (64 : Int32))))), .unset, .unset] [])) _
        refine XS.lloadN X0.here hx rfl (hb hby d2_34) rfl ?_
        show Steps p.tables e below (s₁.setTop (mkF m 35 #[.val (.long q0), .second, .val (.long q1), .second, .val (.long q2), .second, .val (.int p3), .val (.int (p3 / (64 : Int32))), .val (.int (p3 - ((64 : Int32) * (p3 / (64 : Int32))))), .unset, .unset] [(.long q1)])) _
        refine XS.lstore X0.here hx rfl (hb hby d2_35) rfl (l' := #[.val (.long q0), .second, .val (.long q1), .second, .val (.long q2), .second, .val (.int p3), .val (.int (p3 / (64 : Int32))), .val (.int (p3 - ((64 : Int32) * (p3 / (64 : Int32))))), .val (.long q1), .second]) rfl ?_
        show Steps p.tables e below (s₁.setTop (mkF m 37 #[.val (.long q0), .second, .val (.long q1), .second, .val (.long q2), .second, .val (.int p3), .val (.int (p3 / (64 : Int32))), .val (.int (p3 - ((64 : Int32) * (p3 / (64 : Int32))))), .val (.long q1), .second] [])) _
        refine XS.goto X0.here hx rfl (pc0 := 37) (pc' := 44) rfl (hb hby d2_37) (by decide) (by decide) ?_
        exact kt
      · rw [show (m2_0 q0 q1 q2 p3) = q2 from by unfold m2_0; rw [if_neg hm19_1, if_neg hm31_2]] at kt
        show Steps p.tables e below (s₁.setTop (mkF m 19 #[.val (.long q0), .second, .val (.long q1), .second, .val (.long q2), .second, .val (.int p3), .val (.int (p3 / (64 : Int32))), .val (.int (p3 - ((64 : Int32) * (p3 / (64 : Int32))))), .unset, .unset] [(.int (p3 / (64 : Int32)))])) _
        refine XS.ifYes X0.here hx rfl (pc0 := 19) (pc' := 28) rfl (hb hby d2_19) rfl ((if0 _ _).trans (feq hm19_1).2) (by decide) (by decide) ?_
        show Steps p.tables e below (s₁.setTop (mkF m 28 #[.val (.long q0), .second, .val (.long q1), .second, .val (.long q2), .second, .val (.int p3), .val (.int (p3 / (64 : Int32))), .val (.int (p3 - ((64 : Int32) * (p3 / (64 : Int32))))), .unset, .unset] [])) _
        refine XS.iload X0.here hx rfl (hb hby d2_28) rfl ?_
        show Steps p.tables e below (s₁.setTop (mkF m 30 #[.val (.long q0), .second, .val (.long q1), .second, .val (.long q2), .second, .val (.int p3), .val (.int (p3 / (64 : Int32))), .val (.int (p3 - ((64 : Int32) * (p3 / (64 : Int32))))), .unset, .unset] [(.int (p3 / (64 : Int32)))])) _
        refine XS.iconst X0.here hx rfl (hb hby d2_30) ?_
        show Steps p.tables e below (s₁.setTop (mkF m 31 #[.val (.long q0), .second, .val (.long q1), .second, .val (.long q2), .second, .val (.int p3), .val (.int (p3 / (64 : Int32))), .val (.int (p3 - ((64 : Int32) * (p3 / (64 : Int32))))), .unset, .unset] [(.int (1 : Int32)), (.int (p3 / (64 : Int32)))])) _
        refine XS.icmpYes X0.here hx rfl (pc0 := 31) (pc' := 40) rfl (hb hby d2_31) rfl (feq hm31_2).2 (by decide) (by decide) ?_
        show Steps p.tables e below (s₁.setTop (mkF m 40 #[.val (.long q0), .second, .val (.long q1), .second, .val (.long q2), .second, .val (.int p3), .val (.int (p3 / (64 : Int32))), .val (.int (p3 - ((64 : Int32) * (p3 / (64 : Int32))))), .unset, .unset] [])) _
        refine XS.lload X0.here hx rfl (hb hby d2_40) rfl ?_
        show Steps p.tables e below (s₁.setTop (mkF m 42 #[.val (.long q0), .second, .val (.long q1), .second, .val (.long q2), .second, .val (.int p3), .val (.int (p3 / (64 : Int32))), .val (.int (p3 - ((64 : Int32) * (p3 / (64 : Int32))))), .unset, .unset] [(.long q2)])) _
        refine XS.lstore X0.here hx rfl (hb hby d2_42) rfl (l' := #[.val (.long q0), .second, .val (.long q1), .second, .val (.long q2), .second, .val (.int p3), .val (.int (p3 / (64 : Int32))), .val (.int (p3 - ((64 : Int32) * (p3 / (64 : Int32))))), .val (.long q2), .second]) rfl ?_
        exact kt
  refine own_back (b := s₁.setTop (mkF m 53 #[.val (.long q0), .second, .val (.long q1), .second, .val (.long q2), .second, .val (.int p3), .val (.int (p3 / (64 : Int32))), .val (.int (p3 - ((64 : Int32) * (p3 / (64 : Int32))))), .val (.long (m2_0 q0 q1 q2 p3)), .second] [(.int (lcmpW ((((m2_0 q0 q1 q2 p3).toUInt64 >>> ((p3 - ((64 : Int32) * (p3 / (64 : Int32)))) &&& 0x3f).toInt64.toUInt64).toInt64) &&& (1 : Int64)) (1 : Int64)))])) (fun t kt => ?_) ?_
  · show Steps p.tables e below (s₁.setTop (mkF m 44 #[.val (.long q0), .second, .val (.long q1), .second, .val (.long q2), .second, .val (.int p3), .val (.int (p3 / (64 : Int32))), .val (.int (p3 - ((64 : Int32) * (p3 / (64 : Int32))))), .val (.long (m2_0 q0 q1 q2 p3)), .second] [])) _
    refine XS.lload X0.here hx rfl (hb hby d2_44) rfl ?_
    show Steps p.tables e below (s₁.setTop (mkF m 46 #[.val (.long q0), .second, .val (.long q1), .second, .val (.long q2), .second, .val (.int p3), .val (.int (p3 / (64 : Int32))), .val (.int (p3 - ((64 : Int32) * (p3 / (64 : Int32))))), .val (.long (m2_0 q0 q1 q2 p3)), .second] [(.long (m2_0 q0 q1 q2 p3))])) _
    refine XS.iload X0.here hx rfl (hb hby d2_46) rfl ?_
    show Steps p.tables e below (s₁.setTop (mkF m 48 #[.val (.long q0), .second, .val (.long q1), .second, .val (.long q2), .second, .val (.int p3), .val (.int (p3 / (64 : Int32))), .val (.int (p3 - ((64 : Int32) * (p3 / (64 : Int32))))), .val (.long (m2_0 q0 q1 q2 p3)), .second] [(.int (p3 - ((64 : Int32) * (p3 / (64 : Int32))))), (.long (m2_0 q0 q1 q2 p3))])) _
    refine XS.lushr X0.here hx rfl (hb hby d2_48) rfl ?_
    show Steps p.tables e below (s₁.setTop (mkF m 49 #[.val (.long q0), .second, .val (.long q1), .second, .val (.long q2), .second, .val (.int p3), .val (.int (p3 / (64 : Int32))), .val (.int (p3 - ((64 : Int32) * (p3 / (64 : Int32))))), .val (.long (m2_0 q0 q1 q2 p3)), .second] [(.long (((m2_0 q0 q1 q2 p3).toUInt64 >>> ((p3 - ((64 : Int32) * (p3 / (64 : Int32)))) &&& 0x3f).toInt64.toUInt64).toInt64))])) _
    refine XS.lconst X0.here hx rfl (hb hby d2_49) ?_
    show Steps p.tables e below (s₁.setTop (mkF m 50 #[.val (.long q0), .second, .val (.long q1), .second, .val (.long q2), .second, .val (.int p3), .val (.int (p3 / (64 : Int32))), .val (.int (p3 - ((64 : Int32) * (p3 / (64 : Int32))))), .val (.long (m2_0 q0 q1 q2 p3)), .second] [(.long (1 : Int64)), (.long (((m2_0 q0 q1 q2 p3).toUInt64 >>> ((p3 - ((64 : Int32) * (p3 / (64 : Int32)))) &&& 0x3f).toInt64.toUInt64).toInt64))])) _
    refine XS.land X0.here hx rfl (hb hby d2_50) rfl ?_
    show Steps p.tables e below (s₁.setTop (mkF m 51 #[.val (.long q0), .second, .val (.long q1), .second, .val (.long q2), .second, .val (.int p3), .val (.int (p3 / (64 : Int32))), .val (.int (p3 - ((64 : Int32) * (p3 / (64 : Int32))))), .val (.long (m2_0 q0 q1 q2 p3)), .second] [(.long ((((m2_0 q0 q1 q2 p3).toUInt64 >>> ((p3 - ((64 : Int32) * (p3 / (64 : Int32)))) &&& 0x3f).toInt64.toUInt64).toInt64) &&& (1 : Int64)))])) _
    refine XS.lconst X0.here hx rfl (hb hby d2_51) ?_
    show Steps p.tables e below (s₁.setTop (mkF m 52 #[.val (.long q0), .second, .val (.long q1), .second, .val (.long q2), .second, .val (.int p3), .val (.int (p3 / (64 : Int32))), .val (.int (p3 - ((64 : Int32) * (p3 / (64 : Int32))))), .val (.long (m2_0 q0 q1 q2 p3)), .second] [(.long (1 : Int64)), (.long ((((m2_0 q0 q1 q2 p3).toUInt64 >>> ((p3 - ((64 : Int32) * (p3 / (64 : Int32)))) &&& 0x3f).toInt64.toUInt64).toInt64) &&& (1 : Int64)))])) _
    refine XS.lcmp X0.here hx rfl (hb hby d2_52) rfl ?_
    exact kt
  by_cases hc53_3 : ((((m2_0 q0 q1 q2 p3).toUInt64 >>> ((p3 - ((64 : Int32) * (p3 / (64 : Int32)))) &&& 0x3f).toInt64.toUInt64).toInt64) &&& (1 : Int64)) = (1 : Int64)
  · refine own_back (b := s₁.setTop (mkF m 61 #[.val (.long q0), .second, .val (.long q1), .second, .val (.long q2), .second, .val (.int p3), .val (.int (p3 / (64 : Int32))), .val (.int (p3 - ((64 : Int32) * (p3 / (64 : Int32))))), .val (.long (m2_0 q0 q1 q2 p3)), .second] [(.int (1 : Int32))])) (fun t kt => ?_) ?_
    · show Steps p.tables e below (s₁.setTop (mkF m 53 #[.val (.long q0), .second, .val (.long q1), .second, .val (.long q2), .second, .val (.int p3), .val (.int (p3 / (64 : Int32))), .val (.int (p3 - ((64 : Int32) * (p3 / (64 : Int32))))), .val (.long (m2_0 q0 q1 q2 p3)), .second] [(.int (lcmpW ((((m2_0 q0 q1 q2 p3).toUInt64 >>> ((p3 - ((64 : Int32) * (p3 / (64 : Int32)))) &&& 0x3f).toInt64.toUInt64).toInt64) &&& (1 : Int64)) (1 : Int64)))])) _
      refine XS.ifNo X0.here hx rfl (hb hby d2_53) rfl ((if0 _ _).trans (teq ((lw_eq _ _).mpr hc53_3)).2) ?_
      show Steps p.tables e below (s₁.setTop (mkF m 56 #[.val (.long q0), .second, .val (.long q1), .second, .val (.long q2), .second, .val (.int p3), .val (.int (p3 / (64 : Int32))), .val (.int (p3 - ((64 : Int32) * (p3 / (64 : Int32))))), .val (.long (m2_0 q0 q1 q2 p3)), .second] [])) _
      refine XS.iconst X0.here hx rfl (hb hby d2_56) ?_
      show Steps p.tables e below (s₁.setTop (mkF m 57 #[.val (.long q0), .second, .val (.long q1), .second, .val (.long q2), .second, .val (.int p3), .val (.int (p3 / (64 : Int32))), .val (.int (p3 - ((64 : Int32) * (p3 / (64 : Int32))))), .val (.long (m2_0 q0 q1 q2 p3)), .second] [(.int (1 : Int32))])) _
      refine XS.goto X0.here hx rfl (pc0 := 57) (pc' := 61) rfl (hb hby d2_57) (by decide) (by decide) ?_
      exact kt
    obtain ⟨fs, hr, hrun, hended, hW, hsame⟩ := X0.leave (v := some (.int (1 : Int32))) (fun h => by rw [Bd.returns] at h; cases h)
    refine ⟨_, _, ?_, hrun, hended, _, _, rfl, ?_, ⟨_, rfl⟩, hW, hsame.mono (by decide) (by decide)⟩
    · show Steps p.tables e below (s₁.setTop (mkF m 61 #[.val (.long q0), .second, .val (.long q1), .second, .val (.long q2), .second, .val (.int p3), .val (.int (p3 / (64 : Int32))), .val (.int (p3 - ((64 : Int32) * (p3 / (64 : Int32))))), .val (.long (m2_0 q0 q1 q2 p3)), .second] [(.int (1 : Int32))])) _
      exact retN X0 hx (t := .boolean) Bd.returns (by simp) (hb hby d2_61) hr
    · show Q2 Z q0 q1 q2 p3 h0 n0 _ s₁.heap _
      rw [e0]
      exact ⟨by rw [show f2 q0 q1 q2 p3 = (1 : Int32) from by unfold f2; rw [if_pos hc53_3]], N0, rfl⟩
  · refine own_back (b := s₁.setTop (mkF m 61 #[.val (.long q0), .second, .val (.long q1), .second, .val (.long q2), .second, .val (.int p3), .val (.int (p3 / (64 : Int32))), .val (.int (p3 - ((64 : Int32) * (p3 / (64 : Int32))))), .val (.long (m2_0 q0 q1 q2 p3)), .second] [(.int (0 : Int32))])) (fun t kt => ?_) ?_
    · show Steps p.tables e below (s₁.setTop (mkF m 53 #[.val (.long q0), .second, .val (.long q1), .second, .val (.long q2), .second, .val (.int p3), .val (.int (p3 / (64 : Int32))), .val (.int (p3 - ((64 : Int32) * (p3 / (64 : Int32))))), .val (.long (m2_0 q0 q1 q2 p3)), .second] [(.int (lcmpW ((((m2_0 q0 q1 q2 p3).toUInt64 >>> ((p3 - ((64 : Int32) * (p3 / (64 : Int32)))) &&& 0x3f).toInt64.toUInt64).toInt64) &&& (1 : Int64)) (1 : Int64)))])) _
      refine XS.ifYes X0.here hx rfl (pc0 := 53) (pc' := 60) rfl (hb hby d2_53) rfl ((if0 _ _).trans (feq (fun q => hc53_3 ((lw_eq _ _).mp q))).2) (by decide) (by decide) ?_
      show Steps p.tables e below (s₁.setTop (mkF m 60 #[.val (.long q0), .second, .val (.long q1), .second, .val (.long q2), .second, .val (.int p3), .val (.int (p3 / (64 : Int32))), .val (.int (p3 - ((64 : Int32) * (p3 / (64 : Int32))))), .val (.long (m2_0 q0 q1 q2 p3)), .second] [])) _
      refine XS.iconst X0.here hx rfl (hb hby d2_60) ?_
      exact kt
    obtain ⟨fs, hr, hrun, hended, hW, hsame⟩ := X0.leave (v := some (.int (0 : Int32))) (fun h => by rw [Bd.returns] at h; cases h)
    refine ⟨_, _, ?_, hrun, hended, _, _, rfl, ?_, ⟨_, rfl⟩, hW, hsame.mono (by decide) (by decide)⟩
    · show Steps p.tables e below (s₁.setTop (mkF m 61 #[.val (.long q0), .second, .val (.long q1), .second, .val (.long q2), .second, .val (.int p3), .val (.int (p3 / (64 : Int32))), .val (.int (p3 - ((64 : Int32) * (p3 / (64 : Int32))))), .val (.long (m2_0 q0 q1 q2 p3)), .second] [(.int (0 : Int32))])) _
      exact retN X0 hx (t := .boolean) Bd.returns (by simp) (hb hby d2_61) hr
    · show Q2 Z q0 q1 q2 p3 h0 n0 _ s₁.heap _
      rw [e0]
      exact ⟨by rw [show f2 q0 q1 q2 p3 = (0 : Int32) from by unfold f2; rw [if_neg hc53_3]], N0, rfl⟩
theorem own_k (c : Int32) : ¬ ((c &&& (2147483647 : Int32)) % (192 : Int32) < (0 : Int32)) ∧ (c &&& (2147483647 : Int32)) % (192 : Int32) < (192 : Int32) := by
  have h := c_mask c 2147483647 31 (by decide) (by decide)
  have h2 := (c_irem (c &&& 2147483647) 192 192 rfl).1
  have k0 : (0 : Int32).toInt = 0 := rfl
  have k1 : (192 : Int32).toInt = 192 := rfl
  rw [Int32.lt_iff_toInt_lt, Int32.lt_iff_toInt_lt, k0, k1]
  have : (2 ^ 31 : Nat) = 2147483648 := by decide
  omega
theorem pn_0 : plainName "com/example/twinrail/twinrail/DictionaryIsTerminalPinLaw" = true := by first | (simp [plainName, overriddenIn]; done) | decide +kernel
theorem pd_0_0 : parseMethodDescriptor "([JI)Z" = some ⟨[(.array .long), .int], some .boolean⟩ := by decide +kernel
theorem pd_0_1 : parseMethodDescriptor "(JJJI)Z" = some ⟨[.long, .long, .long, .int], some .boolean⟩ := by decide +kernel
theorem ef_0 (m : MethodId) (x0 : Int64) (x1 : Int64) (x2 : Int64) (x3 : Int32) : entryFrame m #[(.long x0), (.long x1), (.long x2), (.int x3)] maxLocals = mkF m 0 #[.val (.long x0), .second, .val (.long x1), .second, .val (.long x2), .second, .val (.int x3), .unset, .unset, .unset] [] := by first | (simp [entryFrame, mkF, argsToLocals, Value.category, maxLocals]; done) | rfl
def f0 (q0 : Int64) (q1 : Int64) (q2 : Int64) (p3 : Int32) : Int32 := (if (f1 ((p3 &&& (2147483647 : Int32)) % (192 : Int32)) q0 q1 q2) = (f2 q0 q1 q2 ((p3 &&& (2147483647 : Int32)) % (192 : Int32))) then (1 : Int32) else (0 : Int32))
def Q0 (Z : State) (q0 : Int64) (q1 : Int64) (q2 : Int64) (p3 : Int32) (h0 : Heap) (n0 : Nat) (v : Option Value) (h : Heap) (L : List Loc) : Prop := v = some (.int (f0 q0 q1 q2 p3)) ∧ Fr n0 L
set_option maxRecDepth 65536 in
set_option maxHeartbeats 40000000 in
theorem rm0 (l : Launch) (Z : State) (aw : Array Value) (hw : ∀ d ∈ tables_1, d.before aw Z = true) (ws : List Jvm.Cond) (q0 : Int64) (q1 : Int64) (q2 : Int64) (p3 : Int32) (h0 : Heap) (n0 : Nat) (Z0 : n0 ≤ h0.size) :
    MetFree l x (head1 (Jvm.Cond.code x code maxLocals ret :: ws) room_1) (fun a U => a = #[(.long q0), (.long q1), (.long q2), (.int p3)] ∧ Z.Warmed39 U.vm ∧ U.heap = h0) (fun _ _ _ _ _ => True) (fun _ U o U' => ∃ v L, o = .returned v ∧ Q0 Z q0 q1 q2 p3 h0 n0 v U'.heap L ∧ FrameEnd U o U' L room_1.cells room_1.slots) := by
  refine MetFree.of_bodySF (plainFor_of_name pn_0) hisR ?_
  intro p e s m args below meth c s₁ Bd hml0 hP hK
  obtain ⟨rfl, hZ, hh⟩ := hP
  have hx := Bd.exec
  have hby := Bd.bytes
  have hml : c.maxLocals = 10 := hml0
  have hown : s.vm.findClass "com/example/twinrail/twinrail/DictionaryIsTerminalPinLaw" = some m.cls := findClass_of_methodNamed Bd.named
  have hnm := (name_of_methodNamed Bd.named Bd.method).1
  have X0 : Stand p l e room_1 s m #[(.long q0), (.long q1), (.long q2), (.int p3)] below meth c s₁ [] 0 0 := Stand.of_body Bd
  have e0 : s₁.heap = h0 := by rw [← hh, Bd.state]; rfl
  have N0 := Fr.nil n0
  refine own_back (b := s₁.setTop (mkF m 0 #[.val (.long q0), .second, .val (.long q1), .second, .val (.long q2), .second, .val (.int p3), .unset, .unset, .unset] [])) (fun t kt => castTop (ef_0 m q0 q1 q2 p3) kt) ?_
  obtain ⟨T1, h1, k1, X1, e1, E1, A1, st1⟩ := newP X0 hx hZ (hw _ (List.mem_of_getElem? (i := 0) rfl)) e0 (g := (mkF m 1 #[.val (.long q0), .second, .val (.long q1), .second, .val (.long q2), .second, .val (.int p3), .unset, .unset, .unset] [(.int (3 : Int32))])) rfl (hb hby at_1) rfl (by decide) (cap := 3) (by decide) (by decide) (by decide) (by decide)
  obtain ⟨b1, g1⟩ : ∃ z, z = h0.size := ⟨_, rfl⟩
  rw [← g1] at A1 st1
  have lo1 : n0 ≤ b1 := Nat.le_trans Z0 (Nat.le_of_eq g1.symm)
  have sz1 : h0.size ≤ b1 := Nat.le_trans (Nat.le_refl _) (Nat.le_of_eq g1.symm)
  have K1 : Keep h0 h1 [] := (Keep.refl h0 _).ext E1
  have Z1 : n0 ≤ h1.size := Nat.le_trans Z0 E1.1
  have V1 : Arv Z h1 b1 k1 .long (3 : Int32) [(.long (0 : Int64)), (.long (0 : Int64)), (.long (0 : Int64))] (.long (0 : Int64)) := (Arv.new A1 (by decide)).pad (pad_rep [] (.long (0 : Int64)) 3)
  obtain ⟨cl2, Ar2, qk2, S2, N2', Hh2, G2⟩ := V1
  have hin2 : ¬ ((0 : Int32) < 0 ∨ cl2.slots.size ≤ ((0 : Int32)).toNatClampNeg) := inb_of S2 ⟨by decide, by decide⟩
  obtain ⟨T3, h3, X3, e3, W3, st3⟩ := stJ X1 hx hZ e1 Ar2 (j := (0 : Int32)) hin2 (g := (mkF m 9 #[.val (.long q0), .second, .val (.long q1), .second, .val (.long q2), .second, .val (.int p3), .val (.ref b1), .unset, .unset] [(.long q0), (.int (0 : Int32)), (.ref b1)])) rfl rfl (hb hby at_9)
  have V3 : Arv Z h3 b1 k1 .long (3 : Int32) [(.long q0), (.long (0 : Int64)), (.long (0 : Int64))] (.long (0 : Int64)) := Arv.set Ar2 qk2 S2 N2' Hh2 G2 rfl W3 0 rfl (Nat.le_of_ble_eq_true rfl)
  have K3 : Keep h0 h3 [] := K1.wr W3 (Or.inr sz1)
  have Z3 : n0 ≤ h3.size := Nat.le_trans Z1 (Keep.of_wr W3).1
  have N3 := Fr.snoc X3 N0 lo1
  obtain ⟨cl4, Ar4, qk4, S4, N4', Hh4, G4⟩ := V3
  have hin4 : ¬ ((1 : Int32) < 0 ∨ cl4.slots.size ≤ ((1 : Int32)).toNatClampNeg) := inb_of S4 ⟨by decide, by decide⟩
  obtain ⟨T5, h5, X5, e5, W5, st5⟩ := stJ X3 hx hZ e3 Ar4 (j := (1 : Int32)) hin4 (g := (mkF m 14 #[.val (.long q0), .second, .val (.long q1), .second, .val (.long q2), .second, .val (.int p3), .val (.ref b1), .unset, .unset] [(.long q1), (.int (1 : Int32)), (.ref b1)])) rfl rfl (hb hby at_14)
  have V5 : Arv Z h5 b1 k1 .long (3 : Int32) [(.long q0), (.long q1), (.long (0 : Int64))] (.long (0 : Int64)) := Arv.set Ar4 qk4 S4 N4' Hh4 G4 rfl W5 1 rfl (Nat.le_of_ble_eq_true rfl)
  have K5 : Keep h0 h5 [] := K3.wr W5 (Or.inr sz1)
  have Z5 : n0 ≤ h5.size := Nat.le_trans Z3 (Keep.of_wr W5).1
  have N5 := Fr.snoc X5 N3 lo1
  obtain ⟨cl6, Ar6, qk6, S6, N6', Hh6, G6⟩ := V5
  have hin6 : ¬ ((2 : Int32) < 0 ∨ cl6.slots.size ≤ ((2 : Int32)).toNatClampNeg) := inb_of S6 ⟨by decide, by decide⟩
  obtain ⟨T7, h7, X7, e7, W7, st7⟩ := stJ X5 hx hZ e5 Ar6 (j := (2 : Int32)) hin6 (g := (mkF m 20 #[.val (.long q0), .second, .val (.long q1), .second, .val (.long q2), .second, .val (.int p3), .val (.ref b1), .unset, .unset] [(.long q2), (.int (2 : Int32)), (.ref b1)])) rfl rfl (hb hby at_20)
  have V7 : Arv Z h7 b1 k1 .long (3 : Int32) [(.long q0), (.long q1), (.long q2)] (.long (0 : Int64)) := Arv.set Ar6 qk6 S6 N6' Hh6 G6 rfl W7 2 rfl (Nat.le_of_ble_eq_true rfl)
  have K7 : Keep h0 h7 [] := K5.wr W7 (Or.inr sz1)
  have Z7 : n0 ≤ h7.size := Nat.le_trans Z5 (Keep.of_wr W7).1
  have N7 := Fr.snoc X7 N5 lo1
  obtain ⟨_, _, ⟨T8, L8, k8, n8⟩, -, X8, ⟨Lc8, hQ8, l8, y8, z8⟩, st8⟩ := Jvm.LawKit.callS X7 hx (y := (⟨"com/example/twinrail/twinrail/Dictionary", "isTerminal", "([JI)Z"⟩ : MethodName)) hown (mvT hZ (hw _ (List.mem_of_getElem? (i := 2) rfl))) (mvT hZ (hw _ (List.mem_of_getElem? (i := 3) rfl))) (mvT hZ (hw _ (List.mem_of_getElem? (i := 4) rfl))) (mvT hZ (hw _ (List.mem_of_getElem? (i := 5) rfl))) (by decide) (backOf (W := 0) (rm1 l Z aw hw [] b1 ((p3 &&& (2147483647 : Int32)) % (192 : Int32)) k1 q0 q1 q2 h7 n0 Z7 V7 (own_k p3).1 (own_k p3).2) hZ (hw _ (List.mem_of_getElem? (i := 5) rfl)) (hw _ (List.mem_of_getElem? (i := 4) rfl)) (by decide) (by decide)) (g := (mkF m 36 #[.val (.long q0), .second, .val (.long q1), .second, .val (.long q2), .second, .val (.int p3), .val (.ref b1), .val (.int ((p3 &&& (2147483647 : Int32)) % (192 : Int32))), .unset] [(.int ((p3 &&& (2147483647 : Int32)) % (192 : Int32))), (.ref b1)])) rfl (by rw [hml]; rfl) (argsL := [(.ref b1), (.int ((p3 &&& (2147483647 : Int32)) % (192 : Int32)))]) (rest := []) (lenOf pd_0_0 rfl) rfl (by show 2 * 0 + _ ≤ _; exact Nat.le_of_eq rfl) (hb hby at_36) (fun _ _ => ⟨rfl, e7, (by decide : 1 + 0 ≤ _), (by decide : 3 + 0 ≤ _)⟩)
  dsimp only [Pt.U, Pt.locs, Pt.cells, Pt.slots] at X8 l8 y8 z8 st8 hQ8
  subst l8 y8 z8
  obtain ⟨rfl, Nq8, e8⟩ := hQ8
  have N8 := Fr.app N7 Nq8
  obtain ⟨_, _, ⟨T9, L9, k9, n9⟩, -, X9, ⟨Lc9, hQ9, l9, y9, z9⟩, st9⟩ := Jvm.LawKit.callS X8 hx (y := (⟨"com/example/twinrail/twinrail/DictionaryIsTerminalPinLaw", "reference", "(JJJI)Z"⟩ : MethodName)) hown (mvT hZ (hw _ (List.mem_of_getElem? (i := 6) rfl))) (mvT hZ (hw _ (List.mem_of_getElem? (i := 7) rfl))) (mvT hZ (hw _ (List.mem_of_getElem? (i := 8) rfl))) (mvT hZ (hw _ (List.mem_of_getElem? (i := 9) rfl))) (by decide) (backOf (W := 1) (rm2 l Z aw hw [] q0 q1 q2 ((p3 &&& (2147483647 : Int32)) % (192 : Int32)) h7 n0 Z7 ) hZ (hw _ (List.mem_of_getElem? (i := 9) rfl)) (hw _ (List.mem_of_getElem? (i := 8) rfl)) (by decide) (by decide)) (g := (mkF m 49 #[.val (.long q0), .second, .val (.long q1), .second, .val (.long q2), .second, .val (.int p3), .val (.ref b1), .val (.int ((p3 &&& (2147483647 : Int32)) % (192 : Int32))), .val (.int (f1 ((p3 &&& (2147483647 : Int32)) % (192 : Int32)) q0 q1 q2))] [(.int ((p3 &&& (2147483647 : Int32)) % (192 : Int32))), (.long q2), (.long q1), (.long q0), (.int (f1 ((p3 &&& (2147483647 : Int32)) % (192 : Int32)) q0 q1 q2))])) rfl (by rw [hml]; rfl) (argsL := [(.long q0), (.long q1), (.long q2), (.int ((p3 &&& (2147483647 : Int32)) % (192 : Int32)))]) (rest := [(.int (f1 ((p3 &&& (2147483647 : Int32)) % (192 : Int32)) q0 q1 q2))]) (lenOf pd_0_1 rfl) rfl (by show 2 * 0 + _ ≤ _; exact Nat.le_of_eq rfl) (hb hby at_49) (fun _ _ => ⟨rfl, e8, (by decide : 1 + 0 ≤ _), (by decide : 3 + 0 ≤ _)⟩)
  dsimp only [Pt.U, Pt.locs, Pt.cells, Pt.slots] at X9 l9 y9 z9 st9 hQ9
  subst l9 y9 z9
  obtain ⟨rfl, Nq9, e9⟩ := hQ9
  have N9 := Fr.app N8 Nq9
  refine own_back (b := T9.setTop (mkF m 52 #[.val (.long q0), .second, .val (.long q1), .second, .val (.long q2), .second, .val (.int p3), .val (.ref b1), .val (.int ((p3 &&& (2147483647 : Int32)) % (192 : Int32))), .val (.int (f1 ((p3 &&& (2147483647 : Int32)) % (192 : Int32)) q0 q1 q2))] [(.int (f2 q0 q1 q2 ((p3 &&& (2147483647 : Int32)) % (192 : Int32)))), (.int (f1 ((p3 &&& (2147483647 : Int32)) % (192 : Int32)) q0 q1 q2))])) (fun t kt => ?_) ?_
  · show Steps p.tables e below (s₁.setTop (mkF m 0 #[.val (.long q0), .second, .val (.long q1), .second, .val (.long q2), .second, .val (.int p3), .unset, .unset, .unset] [])) _
    refine XS.iconst X0.here hx rfl (hb hby at_0) ?_
    show Steps p.tables e below (s₁.setTop (mkF m 1 #[.val (.long q0), .second, .val (.long q1), .second, .val (.long q2), .second, .val (.int p3), .unset, .unset, .unset] [(.int (3 : Int32))])) _
    refine st1 _ ?_
    show Steps p.tables e below (T1.setTop (mkF m 3 #[.val (.long q0), .second, .val (.long q1), .second, .val (.long q2), .second, .val (.int p3), .unset, .unset, .unset] [(.ref b1)])) _
    refine XS.astore X1.here hx rfl (hb hby at_3) rfl rfl (l' := #[.val (.long q0), .second, .val (.long q1), .second, .val (.long q2), .second, .val (.int p3), .val (.ref b1), .unset, .unset]) rfl ?_
    show Steps p.tables e below (T1.setTop (mkF m 5 #[.val (.long q0), .second, .val (.long q1), .second, .val (.long q2), .second, .val (.int p3), .val (.ref b1), .unset, .unset] [])) _
    refine XS.aload X1.here hx rfl (hb hby at_5) rfl rfl ?_
    show Steps p.tables e below (T1.setTop (mkF m 7 #[.val (.long q0), .second, .val (.long q1), .second, .val (.long q2), .second, .val (.int p3), .val (.ref b1), .unset, .unset] [(.ref b1)])) _
    refine XS.iconst X1.here hx rfl (hb hby at_7) ?_
    show Steps p.tables e below (T1.setTop (mkF m 8 #[.val (.long q0), .second, .val (.long q1), .second, .val (.long q2), .second, .val (.int p3), .val (.ref b1), .unset, .unset] [(.int (0 : Int32)), (.ref b1)])) _
    refine XS.lloadN X1.here hx rfl (hb hby at_8) rfl ?_
    show Steps p.tables e below (T1.setTop (mkF m 9 #[.val (.long q0), .second, .val (.long q1), .second, .val (.long q2), .second, .val (.int p3), .val (.ref b1), .unset, .unset] [(.long q0), (.int (0 : Int32)), (.ref b1)])) _
    refine st3 _ ?_
    show Steps p.tables e below (T3.setTop (mkF m 10 #[.val (.long q0), .second, .val (.long q1), .second, .val (.long q2), .second, .val (.int p3), .val (.ref b1), .unset, .unset] [])) _
    refine XS.aload X3.here hx rfl (hb hby at_10) rfl rfl ?_
    show Steps p.tables e below (T3.setTop (mkF m 12 #[.val (.long q0), .second, .val (.long q1), .second, .val (.long q2), .second, .val (.int p3), .val (.ref b1), .unset, .unset] [(.ref b1)])) _
    refine XS.iconst X3.here hx rfl (hb hby at_12) ?_
    show Steps p.tables e below (T3.setTop (mkF m 13 #[.val (.long q0), .second, .val (.long q1), .second, .val (.long q2), .second, .val (.int p3), .val (.ref b1), .unset, .unset] [(.int (1 : Int32)), (.ref b1)])) _
    refine XS.lloadN X3.here hx rfl (hb hby at_13) rfl ?_
    show Steps p.tables e below (T3.setTop (mkF m 14 #[.val (.long q0), .second, .val (.long q1), .second, .val (.long q2), .second, .val (.int p3), .val (.ref b1), .unset, .unset] [(.long q1), (.int (1 : Int32)), (.ref b1)])) _
    refine st5 _ ?_
    show Steps p.tables e below (T5.setTop (mkF m 15 #[.val (.long q0), .second, .val (.long q1), .second, .val (.long q2), .second, .val (.int p3), .val (.ref b1), .unset, .unset] [])) _
    refine XS.aload X5.here hx rfl (hb hby at_15) rfl rfl ?_
    show Steps p.tables e below (T5.setTop (mkF m 17 #[.val (.long q0), .second, .val (.long q1), .second, .val (.long q2), .second, .val (.int p3), .val (.ref b1), .unset, .unset] [(.ref b1)])) _
    refine XS.iconst X5.here hx rfl (hb hby at_17) ?_
    show Steps p.tables e below (T5.setTop (mkF m 18 #[.val (.long q0), .second, .val (.long q1), .second, .val (.long q2), .second, .val (.int p3), .val (.ref b1), .unset, .unset] [(.int (2 : Int32)), (.ref b1)])) _
    refine XS.lload X5.here hx rfl (hb hby at_18) rfl ?_
    show Steps p.tables e below (T5.setTop (mkF m 20 #[.val (.long q0), .second, .val (.long q1), .second, .val (.long q2), .second, .val (.int p3), .val (.ref b1), .unset, .unset] [(.long q2), (.int (2 : Int32)), (.ref b1)])) _
    refine st7 _ ?_
    show Steps p.tables e below (T7.setTop (mkF m 21 #[.val (.long q0), .second, .val (.long q1), .second, .val (.long q2), .second, .val (.int p3), .val (.ref b1), .unset, .unset] [])) _
    refine XS.iload X7.here hx rfl (hb hby at_21) rfl ?_
    show Steps p.tables e below (T7.setTop (mkF m 23 #[.val (.long q0), .second, .val (.long q1), .second, .val (.long q2), .second, .val (.int p3), .val (.ref b1), .unset, .unset] [(.int p3)])) _
    refine X7.ldcInt hx hown (mvT hZ (hw _ (List.mem_of_getElem? (i := 1) rfl))) (g := (mkF m 23 #[.val (.long q0), .second, .val (.long q1), .second, .val (.long q2), .second, .val (.int p3), .val (.ref b1), .unset, .unset] [(.int p3)])) rfl (hb hby at_23) _ ?_
    show Steps p.tables e below (T7.setTop (mkF m 25 #[.val (.long q0), .second, .val (.long q1), .second, .val (.long q2), .second, .val (.int p3), .val (.ref b1), .unset, .unset] [(.int (2147483647 : Int32)), (.int p3)])) _
    refine XS.iand X7.here hx rfl (hb hby at_25) rfl ?_
    show Steps p.tables e below (T7.setTop (mkF m 26 #[.val (.long q0), .second, .val (.long q1), .second, .val (.long q2), .second, .val (.int p3), .val (.ref b1), .unset, .unset] [(.int (p3 &&& (2147483647 : Int32)))])) _
    refine XS.sipush X7.here hx rfl (hb hby at_26) ?_
    show Steps p.tables e below (T7.setTop (mkF m 29 #[.val (.long q0), .second, .val (.long q1), .second, .val (.long q2), .second, .val (.int p3), .val (.ref b1), .unset, .unset] [(.int (192 : Int32)), (.int (p3 &&& (2147483647 : Int32)))])) _
    refine iremM X7 hx rfl (hb hby at_29) rfl (by decide) ?_
    show Steps p.tables e below (T7.setTop (mkF m 30 #[.val (.long q0), .second, .val (.long q1), .second, .val (.long q2), .second, .val (.int p3), .val (.ref b1), .unset, .unset] [(.int ((p3 &&& (2147483647 : Int32)) % (192 : Int32)))])) _
    refine XS.istore X7.here hx rfl (hb hby at_30) rfl (l' := #[.val (.long q0), .second, .val (.long q1), .second, .val (.long q2), .second, .val (.int p3), .val (.ref b1), .val (.int ((p3 &&& (2147483647 : Int32)) % (192 : Int32))), .unset]) rfl ?_
    show Steps p.tables e below (T7.setTop (mkF m 32 #[.val (.long q0), .second, .val (.long q1), .second, .val (.long q2), .second, .val (.int p3), .val (.ref b1), .val (.int ((p3 &&& (2147483647 : Int32)) % (192 : Int32))), .unset] [])) _
    refine XS.aload X7.here hx rfl (hb hby at_32) rfl rfl ?_
    show Steps p.tables e below (T7.setTop (mkF m 34 #[.val (.long q0), .second, .val (.long q1), .second, .val (.long q2), .second, .val (.int p3), .val (.ref b1), .val (.int ((p3 &&& (2147483647 : Int32)) % (192 : Int32))), .unset] [(.ref b1)])) _
    refine XS.iload X7.here hx rfl (hb hby at_34) rfl ?_
    show Steps p.tables e below (T7.setTop (mkF m 36 #[.val (.long q0), .second, .val (.long q1), .second, .val (.long q2), .second, .val (.int p3), .val (.ref b1), .val (.int ((p3 &&& (2147483647 : Int32)) % (192 : Int32))), .unset] [(.int ((p3 &&& (2147483647 : Int32)) % (192 : Int32))), (.ref b1)])) _
    refine st8 _ ?_
    show Steps p.tables e below (T8.setTop (mkF m 39 #[.val (.long q0), .second, .val (.long q1), .second, .val (.long q2), .second, .val (.int p3), .val (.ref b1), .val (.int ((p3 &&& (2147483647 : Int32)) % (192 : Int32))), .unset] [(.int (f1 ((p3 &&& (2147483647 : Int32)) % (192 : Int32)) q0 q1 q2))])) _
    refine XS.istore X8.here hx rfl (hb hby at_39) rfl (l' := #[.val (.long q0), .second, .val (.long q1), .second, .val (.long q2), .second, .val (.int p3), .val (.ref b1), .val (.int ((p3 &&& (2147483647 : Int32)) % (192 : Int32))), .val (.int (f1 ((p3 &&& (2147483647 : Int32)) % (192 : Int32)) q0 q1 q2))]) rfl ?_
    show Steps p.tables e below (T8.setTop (mkF m 41 #[.val (.long q0), .second, .val (.long q1), .second, .val (.long q2), .second, .val (.int p3), .val (.ref b1), .val (.int ((p3 &&& (2147483647 : Int32)) % (192 : Int32))), .val (.int (f1 ((p3 &&& (2147483647 : Int32)) % (192 : Int32)) q0 q1 q2))] [])) _
    refine XS.iload X8.here hx rfl (hb hby at_41) rfl ?_
    show Steps p.tables e below (T8.setTop (mkF m 43 #[.val (.long q0), .second, .val (.long q1), .second, .val (.long q2), .second, .val (.int p3), .val (.ref b1), .val (.int ((p3 &&& (2147483647 : Int32)) % (192 : Int32))), .val (.int (f1 ((p3 &&& (2147483647 : Int32)) % (192 : Int32)) q0 q1 q2))] [(.int (f1 ((p3 &&& (2147483647 : Int32)) % (192 : Int32)) q0 q1 q2))])) _
    refine XS.lloadN X8.here hx rfl (hb hby at_43) rfl ?_
    show Steps p.tables e below (T8.setTop (mkF m 44 #[.val (.long q0), .second, .val (.long q1), .second, .val (.long q2), .second, .val (.int p3), .val (.ref b1), .val (.int ((p3 &&& (2147483647 : Int32)) % (192 : Int32))), .val (.int (f1 ((p3 &&& (2147483647 : Int32)) % (192 : Int32)) q0 q1 q2))] [(.long q0), (.int (f1 ((p3 &&& (2147483647 : Int32)) % (192 : Int32)) q0 q1 q2))])) _
    refine XS.lloadN X8.here hx rfl (hb hby at_44) rfl ?_
    show Steps p.tables e below (T8.setTop (mkF m 45 #[.val (.long q0), .second, .val (.long q1), .second, .val (.long q2), .second, .val (.int p3), .val (.ref b1), .val (.int ((p3 &&& (2147483647 : Int32)) % (192 : Int32))), .val (.int (f1 ((p3 &&& (2147483647 : Int32)) % (192 : Int32)) q0 q1 q2))] [(.long q1), (.long q0), (.int (f1 ((p3 &&& (2147483647 : Int32)) % (192 : Int32)) q0 q1 q2))])) _
    refine XS.lload X8.here hx rfl (hb hby at_45) rfl ?_
    show Steps p.tables e below (T8.setTop (mkF m 47 #[.val (.long q0), .second, .val (.long q1), .second, .val (.long q2), .second, .val (.int p3), .val (.ref b1), .val (.int ((p3 &&& (2147483647 : Int32)) % (192 : Int32))), .val (.int (f1 ((p3 &&& (2147483647 : Int32)) % (192 : Int32)) q0 q1 q2))] [(.long q2), (.long q1), (.long q0), (.int (f1 ((p3 &&& (2147483647 : Int32)) % (192 : Int32)) q0 q1 q2))])) _
    refine XS.iload X8.here hx rfl (hb hby at_47) rfl ?_
    show Steps p.tables e below (T8.setTop (mkF m 49 #[.val (.long q0), .second, .val (.long q1), .second, .val (.long q2), .second, .val (.int p3), .val (.ref b1), .val (.int ((p3 &&& (2147483647 : Int32)) % (192 : Int32))), .val (.int (f1 ((p3 &&& (2147483647 : Int32)) % (192 : Int32)) q0 q1 q2))] [(.int ((p3 &&& (2147483647 : Int32)) % (192 : Int32))), (.long q2), (.long q1), (.long q0), (.int (f1 ((p3 &&& (2147483647 : Int32)) % (192 : Int32)) q0 q1 q2))])) _
    refine st9 _ ?_
    exact kt
  by_cases hc52_10 : (f1 ((p3 &&& (2147483647 : Int32)) % (192 : Int32)) q0 q1 q2) = (f2 q0 q1 q2 ((p3 &&& (2147483647 : Int32)) % (192 : Int32)))
  · refine own_back (b := T9.setTop (mkF m 60 #[.val (.long q0), .second, .val (.long q1), .second, .val (.long q2), .second, .val (.int p3), .val (.ref b1), .val (.int ((p3 &&& (2147483647 : Int32)) % (192 : Int32))), .val (.int (f1 ((p3 &&& (2147483647 : Int32)) % (192 : Int32)) q0 q1 q2))] [(.int (1 : Int32))])) (fun t kt => ?_) ?_
    · show Steps p.tables e below (T9.setTop (mkF m 52 #[.val (.long q0), .second, .val (.long q1), .second, .val (.long q2), .second, .val (.int p3), .val (.ref b1), .val (.int ((p3 &&& (2147483647 : Int32)) % (192 : Int32))), .val (.int (f1 ((p3 &&& (2147483647 : Int32)) % (192 : Int32)) q0 q1 q2))] [(.int (f2 q0 q1 q2 ((p3 &&& (2147483647 : Int32)) % (192 : Int32)))), (.int (f1 ((p3 &&& (2147483647 : Int32)) % (192 : Int32)) q0 q1 q2))])) _
      refine XS.icmpNo X9.here hx rfl (hb hby at_52) rfl (teq hc52_10).2 ?_
      show Steps p.tables e below (T9.setTop (mkF m 55 #[.val (.long q0), .second, .val (.long q1), .second, .val (.long q2), .second, .val (.int p3), .val (.ref b1), .val (.int ((p3 &&& (2147483647 : Int32)) % (192 : Int32))), .val (.int (f1 ((p3 &&& (2147483647 : Int32)) % (192 : Int32)) q0 q1 q2))] [])) _
      refine XS.iconst X9.here hx rfl (hb hby at_55) ?_
      show Steps p.tables e below (T9.setTop (mkF m 56 #[.val (.long q0), .second, .val (.long q1), .second, .val (.long q2), .second, .val (.int p3), .val (.ref b1), .val (.int ((p3 &&& (2147483647 : Int32)) % (192 : Int32))), .val (.int (f1 ((p3 &&& (2147483647 : Int32)) % (192 : Int32)) q0 q1 q2))] [(.int (1 : Int32))])) _
      refine XS.goto X9.here hx rfl (pc0 := 56) (pc' := 60) rfl (hb hby at_56) (by decide) (by decide) ?_
      exact kt
    obtain ⟨fs, hr, hrun, hended, hW, hsame⟩ := X9.leave (v := some (.int (1 : Int32))) (fun h => by rw [Bd.returns] at h; cases h)
    refine ⟨_, _, ?_, hrun, hended, _, _, rfl, ?_, ⟨_, rfl⟩, hW, hsame.mono (by decide) (by decide)⟩
    · show Steps p.tables e below (T9.setTop (mkF m 60 #[.val (.long q0), .second, .val (.long q1), .second, .val (.long q2), .second, .val (.int p3), .val (.ref b1), .val (.int ((p3 &&& (2147483647 : Int32)) % (192 : Int32))), .val (.int (f1 ((p3 &&& (2147483647 : Int32)) % (192 : Int32)) q0 q1 q2))] [(.int (1 : Int32))])) _
      exact retN X9 hx (t := .boolean) Bd.returns (by simp) (hb hby at_60) hr
    · show Q0 Z q0 q1 q2 p3 h0 n0 _ T9.heap _
      rw [e9]
      exact ⟨by rw [show f0 q0 q1 q2 p3 = (1 : Int32) from by unfold f0; rw [if_pos hc52_10]], N9⟩
  · refine own_back (b := T9.setTop (mkF m 60 #[.val (.long q0), .second, .val (.long q1), .second, .val (.long q2), .second, .val (.int p3), .val (.ref b1), .val (.int ((p3 &&& (2147483647 : Int32)) % (192 : Int32))), .val (.int (f1 ((p3 &&& (2147483647 : Int32)) % (192 : Int32)) q0 q1 q2))] [(.int (0 : Int32))])) (fun t kt => ?_) ?_
    · show Steps p.tables e below (T9.setTop (mkF m 52 #[.val (.long q0), .second, .val (.long q1), .second, .val (.long q2), .second, .val (.int p3), .val (.ref b1), .val (.int ((p3 &&& (2147483647 : Int32)) % (192 : Int32))), .val (.int (f1 ((p3 &&& (2147483647 : Int32)) % (192 : Int32)) q0 q1 q2))] [(.int (f2 q0 q1 q2 ((p3 &&& (2147483647 : Int32)) % (192 : Int32)))), (.int (f1 ((p3 &&& (2147483647 : Int32)) % (192 : Int32)) q0 q1 q2))])) _
      refine XS.icmpYes X9.here hx rfl (pc0 := 52) (pc' := 59) rfl (hb hby at_52) rfl (feq hc52_10).2 (by decide) (by decide) ?_
      show Steps p.tables e below (T9.setTop (mkF m 59 #[.val (.long q0), .second, .val (.long q1), .second, .val (.long q2), .second, .val (.int p3), .val (.ref b1), .val (.int ((p3 &&& (2147483647 : Int32)) % (192 : Int32))), .val (.int (f1 ((p3 &&& (2147483647 : Int32)) % (192 : Int32)) q0 q1 q2))] [])) _
      refine XS.iconst X9.here hx rfl (hb hby at_59) ?_
      exact kt
    obtain ⟨fs, hr, hrun, hended, hW, hsame⟩ := X9.leave (v := some (.int (0 : Int32))) (fun h => by rw [Bd.returns] at h; cases h)
    refine ⟨_, _, ?_, hrun, hended, _, _, rfl, ?_, ⟨_, rfl⟩, hW, hsame.mono (by decide) (by decide)⟩
    · show Steps p.tables e below (T9.setTop (mkF m 60 #[.val (.long q0), .second, .val (.long q1), .second, .val (.long q2), .second, .val (.int p3), .val (.ref b1), .val (.int ((p3 &&& (2147483647 : Int32)) % (192 : Int32))), .val (.int (f1 ((p3 &&& (2147483647 : Int32)) % (192 : Int32)) q0 q1 q2))] [(.int (0 : Int32))])) _
      exact retN X9 hx (t := .boolean) Bd.returns (by simp) (hb hby at_60) hr
    · show Q0 Z q0 q1 q2 p3 h0 n0 _ T9.heap _
      rw [e9]
      exact ⟨by rw [show f0 q0 q1 q2 p3 = (0 : Int32) from by unfold f0; rw [if_neg hc52_10]], N9⟩
theorem own_bv1 (w : BitVec 64) (n : Nat) (h : n < 64) : (w &&& (1#64 <<< n) = 0#64) ↔ w.getLsbD n = false := by
  constructor
  · intro q
    have := congrArg (fun v => v.getLsbD n) q
    simpa [h] using this
  · intro q
    apply BitVec.eq_of_getLsbD_eq
    intro i hi
    simp only [BitVec.getLsbD_and, BitVec.getLsbD_shiftLeft, BitVec.getLsbD_zero]
    by_cases e : i = n
    · subst e; simp [q]
    · have : (1#64).getLsbD (i - n) = false ∨ i < n := by
        by_cases c : i < n
        · exact Or.inr c
        · left
          rw [BitVec.getLsbD_one]
          simp; omega
      rcases this with t | t <;> simp [t]
theorem own_bv2 (w : BitVec 64) (n : Nat) : ((w >>> n) &&& 1#64 = 1#64) ↔ w.getLsbD n = true := by
  constructor
  · intro q
    have := congrArg (fun v => v.getLsbD 0) q
    simpa using this
  · intro q
    apply BitVec.eq_of_getLsbD_eq
    intro i hi
    simp only [BitVec.getLsbD_and, BitVec.getLsbD_ushiftRight, BitVec.getLsbD_one]
    by_cases e : i = 0
    · subst e; simp [q]
    · simp [e]
theorem own_bit (w : Int64) (k : Int32) : (if (w &&& ((1 : Int64) <<< (k &&& 0x3f).toInt64)) = (0 : Int64) then (0 : Int32) else (1 : Int32)) = (if (((w.toUInt64 >>> (k &&& 0x3f).toInt64.toUInt64).toInt64) &&& (1 : Int64)) = (1 : Int64) then (1 : Int32) else (0 : Int32)) := by
  obtain ⟨hq, hn⟩ := sm64 k (k.toBitVec.toNat % 64) rfl
  generalize hnn : k.toBitVec.toNat % 64 = n at hq hn
  have hs := smod64 n hn
  have e1 : (w &&& ((1 : Int64) <<< (k &&& 0x3f).toInt64)).toBitVec = w.toBitVec &&& (1#64 <<< n) := by
    rw [Int64.toBitVec_and, Int64.toBitVec_shiftLeft, hq, BitVec.shiftLeft_eq', hs]; rfl
  have e2 : (((w.toUInt64 >>> (k &&& 0x3f).toInt64.toUInt64).toInt64) &&& (1 : Int64)).toBitVec = (w.toBitVec >>> n) &&& 1#64 := by
    rw [Int64.toBitVec_and, show ((w.toUInt64 >>> (k &&& 0x3f).toInt64.toUInt64).toInt64).toBitVec = (w.toUInt64 >>> (k &&& 0x3f).toInt64.toUInt64).toBitVec from rfl, UInt64.toBitVec_shiftRight, show (k &&& 0x3f).toInt64.toUInt64.toBitVec = (k &&& 0x3f).toInt64.toBitVec from rfl, hq]
    have : ((BitVec.ofNat 64 n) % 64).toNat = n := by simp; omega
    rw [BitVec.ushiftRight_eq', this]; rfl
  have c1 : (w &&& ((1 : Int64) <<< (k &&& 0x3f).toInt64)) = (0 : Int64) ↔ w.toBitVec.getLsbD n = false := by
    rw [← Int64.toBitVec_inj, e1]; exact own_bv1 _ _ hn
  have c2 : (((w.toUInt64 >>> (k &&& 0x3f).toInt64.toUInt64).toInt64) &&& (1 : Int64)) = (1 : Int64) ↔ w.toBitVec.getLsbD n = true := by
    rw [← Int64.toBitVec_inj, e2]; exact own_bv2 _ _
  cases hb : w.toBitVec.getLsbD n
  · rw [if_pos (c1.mpr hb), if_neg (fun q => by rw [c2.mp q] at hb; cases hb)]
  · rw [if_neg (fun q => by rw [c1.mp q] at hb; cases hb), if_pos (c2.mpr hb)]
theorem own_eq (a b c : Int64) (k : Int32) (h0 : ¬ k < 0) (h1 : k < 192) : f1 k a b c = f2 a b c k := by
  have hi := own_idx k h0 h1
  have hd := (c_idiv k 64 64 rfl (by decide)).1
  have k0 : (0 : Int32).toInt = 0 := rfl
  have k64 : (64 : Int32).toInt = 64 := rfl
  have k192 : (192 : Int32).toInt = 192 := rfl
  rw [Int32.lt_iff_toInt_lt, k0] at h0
  rw [Int32.lt_iff_toInt_lt, k192] at h1
  have hj : ((k.toUInt32 >>> ((6 : Int32) &&& 31).toUInt32).toInt32) = k / 64 := Int32.toInt_inj.mp (by rw [hi, hd (by omega)])
  have hb : (k - ((64 : Int32) * (k / (64 : Int32)))) &&& 0x3f = k &&& 0x3f := by
    apply Int32.toInt_inj.mp
    have m1 := c_mask k 0x3f 6 (by decide) (by decide)
    have m2 := c_mask (k - ((64 : Int32) * (k / (64 : Int32)))) 0x3f 6 (by decide) (by decide)
    have s1 := c_isub k ((64 : Int32) * (k / (64 : Int32)))
    have s2 := c_imul (64 : Int32) (k / (64 : Int32))
    have r1 := rng32 (k - ((64 : Int32) * (k / (64 : Int32))))
    have r2 := rng32 ((64 : Int32) * (k / (64 : Int32)))
    rw [k64] at s2
    have hd' := hd (by omega)
    rw [m1, m2]
    have : (2 ^ 6 : Nat) = 64 := by decide
    omega
  unfold f1 f2
  rw [hb, hj]
  exact own_bit _ _
theorem own_law (a b c : Int64) (d : Int32) : f0 a b c d = 1 := by
  unfold f0
  rw [if_pos (own_eq _ _ _ _ (own_k d).1 (own_k d).2)]
set_option maxRecDepth 65536 in
set_option maxHeartbeats 40000000 in
theorem comes_1 {Post : Tables → Env → Array Value → State → Outcome → State → Prop} (hpost : ∀ tb e args s v u, (limb_1_1.after args s (.returned v) u = true ∧ limb_1_2.after args s (.returned v) u = true ∧ True) → FrameEnd s (.returned v) u (Jvm.fieldLocs frame_1_writes args s ++ Jvm.arrayLocs frame_1_arrays args s ++ Jvm.staticLocs frame_1_statics s) 16 128 → Post tb e args s (.returned v) u) :
    ArmFor flags0 classFile x code maxLocals ret World_1 tables_1 room_1 Calls_1 rest_1 Pre_1 Post := by
  intro l hfl _ _ p e ha hc hk s m args below hf hA hF happ hP
  obtain ⟨hcalls, hrest, hpre⟩ := hP
  obtain ⟨-, -, -, hnamed, -, -, -, hat⟩ := (Spec.applies_iff hf).mp happ
  obtain ⟨hg, hn⟩ := and_e (Cond.before_iff.mp (show (Jvm.Cond.and given_1 narrow_1).before args s = true from hpre))
  obtain ⟨gc, gr0⟩ := and_e hg
  obtain ⟨ga0, gr1⟩ := and_e gr0
  obtain ⟨ga1, gr2⟩ := and_e gr1
  obtain ⟨ga2, gr3⟩ := and_e gr2
  obtain ⟨w0, w1, w2, w3, rfl⟩ : ∃ w0 w1 w2 w3 : Value, args = #[w0, w1, w2, w3] := by
    have hs : args.size = 4 := by simpa [Cond.value, given_1] using gc
    obtain ⟨L⟩ := args
    match L, hs with
    | [w0, w1, w2, w3], _ => exact ⟨w0, w1, w2, w3, rfl⟩
  have hw := fun d (hd : d ∈ tables_1) => atoms_spec (ws := Jvm.Cond.code x code maxLocals ret :: tables_1) hat d (List.mem_cons_of_mem _ hd)
  have hfit : Fit s := fun {y c} hc i hi => by
    obtain ⟨ha, rfl⟩ := Array.getElem?_eq_some_iff.mp hc
    have q := List.all_eq_true.mp ((Array.all_eq_true_iff_forall_mem.mp hF) _ (Array.getElem_mem ha)) i (List.mem_range.mpr hi)
    simpa [Array.getElem?_eq_getElem hi] using q
  obtain ⟨i0, ei0⟩ := isL_v ga0
  obtain rfl : w0 = (.long i0) := Option.some.inj ei0
  obtain ⟨i1, ei1⟩ := isL_v ga1
  obtain rfl : w1 = (.long i1) := Option.some.inj ei1
  obtain ⟨i2, ei2⟩ := isL_v ga2
  obtain rfl : w2 = (.long i2) := Option.some.inj ei2
  obtain ⟨i3, ei3⟩ := is_v gr3
  obtain rfl : w3 = (.int i3) := Option.some.inj ei3
  obtain ⟨n, o, h1, h2, h3, _, L, rfl, ⟨rfl, N⟩, hq⟩ := rm0 l s _ hw tables_1 i0 i1 i2 i3 s.heap s.heap.size (Nat.le_refl _)  p e ha hc hk s m _ below hf ((Spec.applies_iff_loose hf).mp happ).1 ⟨rfl, State.Warmed39.refl s, rfl⟩ trivial
  refine ⟨n, _, h1, h2, h3, hpost _ _ _ _ _ _ ⟨Cond.after_iff.mpr rfl, Cond.after_iff.mpr (eq_i res_at (Term.int_eval (1)) (congrArg Value.int (own_law i0 i1 i2 i3))), trivial⟩ ⟨hq.1, hq.2.1, (hq.2.2.sift fun y hy => Or.inr (N y hy)).mono (by decide) (by decide)⟩⟩
theorem main_1_1 : Claimed_1_1 := comes_1 fun _ _ _ _ _ _ h hF => ⟨h.1, hF⟩
theorem main_1_2 : Claimed_1_2 := comes_1 fun _ _ _ _ _ _ h hF => ⟨h.2.1, hF⟩
end Jvm.Pilot.@@N@@
namespace Jvm.Pilot.@@N@@
open Jvm Jvm.ClassFile Sem Op Lib Jvm.Free Jvm.Stand Jvm.Pilot.@@N@@.Jvm.D
/-! MADE BY PROGRAM (witnessworld.py) out of the Statement's table words and the real class files: 11 classes; the members and pool entries that the words name. The judged class is class 1, her method 1. -/
namespace start1
open Jvm.ClassFile
def u (s : String) : CpInfo := .utf8 (stringToUtf16 s)
/-- a pool by its gaps: so many unusable entries, then the entry; so many at the end -/
def gap : Nat → List CpInfo → List CpInfo
  | 0, r => r
  | n + 1, r => .unusable :: gap n r
def poolList (es : List (Nat × CpInfo)) (last : Nat) : List CpInfo := es.foldr (fun e r => gap e.1 (e.2 :: r)) (gap last [])
def pool (es : List (Nat × CpInfo)) (last : Nat) : Array CpInfo := ⟨poolList es last⟩
def fileOf (pool : Array CpInfo) (this : Nat) (attrs : Array Attribute := #[]) (ms : Array MethodInfo := #[]) (fl : Nat := 33) (sup : Nat := 0) (ifs : Array Nat := #[]) (fds : Array FieldInfo := #[]) : ClassFile where
  minorVersion := 0
  majorVersion := 65
  constantPool := pool
  accessFlags := fl
  thisClass := this
  superClass := sup
  interfaces := ifs
  fields := fds
  methods := ms
  attributes := attrs
def plain (name : String) (sup : Option ClassId) : Class where
  name := name
  kind := .ordinary
  loader := none
  accessFlags := 33
  super := sup
  interfaces := #[]
  cf := none
  fields := #[]
  methods := #[]
  instanceTypes := #[]
  staticTypes := #[]
  resolved := #[]
  callSites := []
  init := .initialized
  statics := none
  mirror := none

def pool0 : Array CpInfo := pool [(5, u "<init>"), (0, u "()V"), (1, .class_ 10), (1, u "java/lang/Object")] 113

def k0m0 : Method := { name := "<init>", desc := "()V", sig := { parameters := [], returnType := none }, accessFlags := 1, code := none }
/-- java/lang/Object -/
def k0 : Class := { plain "java/lang/Object" none with
  accessFlags := 33
  interfaces := #[]
  cf := some (fileOf pool0 8 #[] #[{ accessFlags := 1, nameIndex := 5, descriptorIndex := 6, attributes := #[] }] 33 0 #[] #[])
  fields := #[]
  methods := #[k0m0]
  instanceTypes := #[]
  staticTypes := #[]
  resolved := Array.replicate 124 none
  statics := none }

def pool1 : Array CpInfo := pool [(2, .class_ 4), (1, u "java/lang/Object"), (0, u "<init>"), (0, u "()V"), (0, .integer 2147483647), (0, .methodref 9 10), (0, .class_ 11), (0, .nameAndType 12 13), (0, u "com/example/twinrail/twinrail/Dictionary"), (0, u "isTerminal"), (0, u "([JI)Z"), (0, .methodref 15 16), (0, .class_ 17), (0, .nameAndType 18 19), (0, u "com/example/twinrail/twinrail/DictionaryIsTerminalPinLaw"), (0, u "reference"), (0, u "(JJJI)Z"), (2, u "law")] 5

def k1m0 : Method := { name := "<init>", desc := "()V", sig := { parameters := [], returnType := none }, accessFlags := 2, code := none }
def k1c1 : Code := { maxStack := 8, maxLocals := 10, code := code, exceptionTable := #[], attributes := #[] }
def k1m1 : Method := { name := "law", desc := "(JJJI)Z", sig := { parameters := [.long, .long, .long, .int], returnType := some .boolean }, accessFlags := 9, code := some k1c1 }
def k1c2 : Code := { maxStack := 4, maxLocals := 11, code := method_3_code, exceptionTable := #[], attributes := #[] }
def k1m2 : Method := { name := "reference", desc := "(JJJI)Z", sig := { parameters := [.long, .long, .long, .int], returnType := some .boolean }, accessFlags := 10, code := some k1c2 }
/-- com/example/twinrail/twinrail/DictionaryIsTerminalPinLaw -/
def k1 : Class := { plain "com/example/twinrail/twinrail/DictionaryIsTerminalPinLaw" (some 0) with
  accessFlags := 49
  interfaces := #[]
  cf := some (fileOf pool1 15 #[] #[{ accessFlags := 2, nameIndex := 5, descriptorIndex := 6, attributes := #[] }, { accessFlags := 9, nameIndex := 22, descriptorIndex := 19, attributes := #[] }, { accessFlags := 10, nameIndex := 18, descriptorIndex := 19, attributes := #[] }] 49 2 #[] #[])
  fields := #[]
  methods := #[k1m0, k1m1, k1m2]
  instanceTypes := #[]
  staticTypes := #[]
  resolved := Array.replicate 28 none
  statics := none }

def pool2 : Array CpInfo := pool [(2, .class_ 4), (1, u "java/lang/Object"), (3, .class_ 10), (1, u "com/example/twinrail/twinrail/Dictionary"), (0, u "trie"), (0, u "Lcom/example/twinrail/twinrail/DoubleArray;"), (4, u "alphabet"), (3, u "Lcom/example/twinrail/twinrail/Alphabet;"), (2, u "terminal"), (0, u "[J"), (8, u "links"), (0, u "Lcom/example/twinrail/twinrail/SuffixLinks;"), (2, u "keyRanks"), (0, u "[I"), (12, u "keyCount"), (0, u "I"), (2, u "nodeCount"), (53, u "isTerminal"), (0, u "([JI)Z"), (79, u "ROOT"), (2, u "FREE")] 51

def k2c0 : Code := { maxStack := 5, maxLocals := 2, code := prog_8_method_19_code, exceptionTable := #[], attributes := #[] }
def k2m0 : Method := { name := "isTerminal", desc := "([JI)Z", sig := { parameters := [(.array .long), .int], returnType := some .boolean }, accessFlags := 8, code := some k2c0 }
/-- com/example/twinrail/twinrail/Dictionary -/
def k2 : Class := { plain "com/example/twinrail/twinrail/Dictionary" (some 0) with
  accessFlags := 49
  interfaces := #[]
  cf := some (fileOf pool2 8 #[] #[{ accessFlags := 8, nameIndex := 110, descriptorIndex := 111, attributes := #[] }] 49 2 #[] #[{ accessFlags := 24, nameIndex := 191, descriptorIndex := 53, attributes := #[] }, { accessFlags := 24, nameIndex := 194, descriptorIndex := 53, attributes := #[] }, { accessFlags := 18, nameIndex := 11, descriptorIndex := 12, attributes := #[] }, { accessFlags := 18, nameIndex := 17, descriptorIndex := 21, attributes := #[] }, { accessFlags := 18, nameIndex := 24, descriptorIndex := 25, attributes := #[] }, { accessFlags := 18, nameIndex := 38, descriptorIndex := 39, attributes := #[] }, { accessFlags := 18, nameIndex := 34, descriptorIndex := 35, attributes := #[] }, { accessFlags := 18, nameIndex := 52, descriptorIndex := 53, attributes := #[] }, { accessFlags := 18, nameIndex := 56, descriptorIndex := 53, attributes := #[] }])
  fields := #[{ name := "ROOT", type := .int, accessFlags := 24, slot := 0, constantValue := 0 }, { name := "FREE", type := .int, accessFlags := 24, slot := 1, constantValue := 0 }, { name := "trie", type := (.object "com/example/twinrail/twinrail/DoubleArray"), accessFlags := 18, slot := 0, constantValue := 0 }, { name := "alphabet", type := (.object "com/example/twinrail/twinrail/Alphabet"), accessFlags := 18, slot := 1, constantValue := 0 }, { name := "terminal", type := (.array .long), accessFlags := 18, slot := 2, constantValue := 0 }, { name := "keyRanks", type := (.array .int), accessFlags := 18, slot := 3, constantValue := 0 }, { name := "links", type := (.object "com/example/twinrail/twinrail/SuffixLinks"), accessFlags := 18, slot := 4, constantValue := 0 }, { name := "keyCount", type := .int, accessFlags := 18, slot := 5, constantValue := 0 }, { name := "nodeCount", type := .int, accessFlags := 18, slot := 6, constantValue := 0 }]
  methods := #[k2m0]
  instanceTypes := #[(.object "com/example/twinrail/twinrail/DoubleArray"), (.object "com/example/twinrail/twinrail/Alphabet"), (.array .long), (.array .int), (.object "com/example/twinrail/twinrail/SuffixLinks"), .int, .int]
  staticTypes := #[.int, .int]
  resolved := Array.replicate 246 none
  statics := none }

def pool3 : Array CpInfo := pool [(1, u "java/lang/Cloneable"), (0, .class_ 1), (0, u "java/lang/Object"), (0, .class_ 3)] 3

/-- java/lang/Cloneable -/
def k3 : Class := { plain "java/lang/Cloneable" (some 0) with
  accessFlags := 1537
  interfaces := #[]
  cf := some (fileOf pool3 2 #[] #[] 1537 4 #[] #[])
  fields := #[]
  methods := #[]
  instanceTypes := #[]
  staticTypes := #[]
  resolved := Array.replicate 8 none
  statics := none }

def pool4 : Array CpInfo := pool [(1, u "java/io/Serializable"), (0, .class_ 1), (0, u "java/lang/Object"), (0, .class_ 3)] 3

/-- java/io/Serializable -/
def k4 : Class := { plain "java/io/Serializable" (some 0) with
  accessFlags := 1537
  interfaces := #[]
  cf := some (fileOf pool4 2 #[] #[] 1537 4 #[] #[])
  fields := #[]
  methods := #[]
  instanceTypes := #[]
  staticTypes := #[]
  resolved := Array.replicate 8 none
  statics := none }

/-- the primitive byte -/
def k5 : Class := { plain "byte" none with kind := .primitive 'B', accessFlags := 0x411 }
/-- [B -/
def k6 : Class := { plain "[B" (some 0) with kind := .array 5 .byte, interfaces := #[3, 4], accessFlags := 1041 }

/-- the primitive int -/
def k7 : Class := { plain "int" none with kind := .primitive 'I', accessFlags := 0x411 }
/-- [I -/
def k8 : Class := { plain "[I" (some 0) with kind := .array 7 .int, interfaces := #[3, 4], accessFlags := 1041 }

/-- the primitive long -/
def k9 : Class := { plain "long" none with kind := .primitive 'J', accessFlags := 0x411 }
/-- [J -/
def k10 : Class := { plain "[J" (some 0) with kind := .array 9 .long, interfaces := #[3, 4], accessFlags := 1041 }

def heap : Heap := #[]
def classes : Array Class := #[k0, k1, k2, k3, k4, k5, k6, k7, k8, k9, k10]
def interned : List (Array UInt16 × Addr) := []
def slotsUsed : Nat := 0
def theMethod : MethodId := ⟨1, 1⟩
def args0 : Array Value := #[.long 10, .long 1, .long 4, .int 5]
def aboutOver (below : List Frame) : State where
  vm := { classes := classes, interned := interned.toArray }
  heap := heap
  slotsUsed := slotsUsed
  threads := #[{ frames := .invoking theMethod args0 :: below }]
def below0 : List Frame := [.native { method := ⟨0, 0⟩, args := #[] }]
def about1 : State := aboutOver below0
def p0 : Program := .bare "" "" ""
def e0 : Env := launch0.env 0 0 0
theorem w_frames : about1.frames = Frame.invoking theMethod args0 :: below0 := rfl
set_option maxRecDepth 65536 in
theorem w_args : argsFit about1.vm theMethod args0 = true := by decide +kernel
set_option maxRecDepth 65536 in
theorem w_heap : heapFits about1 = true := by decide +kernel
set_option maxRecDepth 65536 in
theorem w_runnable : about1.curStatus? = some .runnable := by decide +kernel
set_option maxRecDepth 65536 in
theorem w_alone : about1.alone = true := by decide +kernel
set_option maxRecDepth 65536 in
theorem w_named : about1.methodNamed? x = some theMethod := by decide +kernel
set_option maxRecDepth 65536 in
theorem w_hears : about1.hears theMethod below0 = true := by decide +kernel
set_option maxRecDepth 65536 in
theorem w_ripe : about1.ripe theMethod args0 below0 = true := by decide +kernel
theorem w_running : about1.status = .running := rfl
set_option maxRecDepth 65536 in
theorem w_room : about1.hasRoom e0.platform room_1 = true :=
  launch0.hasRoom_least _ room_1 (by decide +kernel) (by decide +kernel) (by decide +kernel) (by decide +kernel) (by decide +kernel) (by decide +kernel)
theorem allAtoms_all (ts : List Jvm.Cond) (a : Array Jvm.Value) (st : Jvm.State) : (allAtoms ts).before a st = ts.all (fun c => c.before a st) := by
  induction ts with
  | nil => rfl
  | cons c t ih =>
    show (Jvm.Cond.and c (allAtoms t)).before a st = _
    rw [Jvm.Cond.before_and, ih, List.all_cons]
def words1 : List Jvm.Cond := Jvm.Cond.code x code maxLocals ret :: tables_1
/-- a 'code' word, met by the world's own term for the bytes: nothing is compared byte by byte -/
theorem code_word {y : MethodName} {bytes : ByteArray} {mx : Nat} {rt : Option FieldType} {a : Array Value} {s : State} {m : MethodId} {meth : Method} {c : Code} (h1 : s.methodNamed? y = some m) (h2 : s.vm.method? m = some meth) (h3 : meth.code = some c) (h4 : c.code = bytes)
    (h5 : (c.maxLocals == mx && c.exceptionTable.isEmpty && decide (c.maxStack ≤ mostOperands) && decide (meth.sig.returnType = rt) && !meth.locks && decide (parseMethodDescriptor y.desc = some meth.sig)) = true) : (Jvm.Cond.code y bytes mx rt).before a s = true := by
  simp only [Bool.and_eq_true, beq_iff_eq, Bool.not_eq_true', decide_eq_true_eq] at h5
  obtain ⟨⟨⟨⟨⟨g1, g2⟩, g3⟩, g4⟩, g5⟩, g6⟩ := h5
  simp [Cond.before, Cond.holds, Cond.value, h1, h2, h3, h4, g1, g2, g3, g4, g5, g6]
def isCode : Jvm.Cond → Bool
  | .code _ _ _ _ => true
  | _ => false
theorem all_split {L : List Jvm.Cond} {P : Jvm.Cond → Bool} (h1 : L.all (fun c => isCode c || P c) = true) (h2 : ∀ c ∈ L.filter isCode, P c = true) : L.all P = true := by
  refine List.all_eq_true.mpr fun c hc => ?_
  have h := List.all_eq_true.mp h1 c hc
  rcases Bool.eq_false_or_eq_true (isCode c) with hi | hi
  · exact h2 c (List.mem_filter.mpr ⟨hc, hi⟩)
  · simpa [hi] using h
set_option maxRecDepth 65536 in
theorem w_c0 : (Jvm.Cond.code x code maxLocals ret).before args0 about1 = true := code_word (m := ⟨1, 1⟩) (meth := k1m1) (c := k1c1) (by decide +kernel) rfl rfl rfl (by decide +kernel)
set_option maxRecDepth 65536 in
theorem w_c1 : (Jvm.Cond.code ({ cls := "com/example/twinrail/twinrail/Dictionary", name := "isTerminal", desc := "([JI)Z" } : Jvm.MethodName) prog_8_method_19_code (2 : Nat) (Option.some Jvm.ClassFile.FieldType.boolean)).before args0 about1 = true := code_word (m := ⟨2, 0⟩) (meth := k2m0) (c := k2c0) (by decide +kernel) rfl rfl rfl (by decide +kernel)
set_option maxRecDepth 65536 in
theorem w_c2 : (Jvm.Cond.code ({ cls := "com/example/twinrail/twinrail/DictionaryIsTerminalPinLaw", name := "reference", desc := "(JJJI)Z" } : Jvm.MethodName) method_3_code (11 : Nat) (Option.some Jvm.ClassFile.FieldType.boolean)).before args0 about1 = true := code_word (m := ⟨1, 2⟩) (meth := k1m2) (c := k1c2) (by decide +kernel) rfl rfl rfl (by decide +kernel)
def codes1 : List Jvm.Cond := [Jvm.Cond.code x code maxLocals ret, Jvm.Cond.code ({ cls := "com/example/twinrail/twinrail/Dictionary", name := "isTerminal", desc := "([JI)Z" } : Jvm.MethodName) prog_8_method_19_code (2 : Nat) (Option.some Jvm.ClassFile.FieldType.boolean), Jvm.Cond.code ({ cls := "com/example/twinrail/twinrail/DictionaryIsTerminalPinLaw", name := "reference", desc := "(JJJI)Z" } : Jvm.MethodName) method_3_code (11 : Nat) (Option.some Jvm.ClassFile.FieldType.boolean)]
set_option maxRecDepth 65536 in
theorem codes_eq : words1.filter isCode = codes1 := rfl
theorem w_codes : ∀ c ∈ words1.filter isCode, c.before args0 about1 = true := by
  rw [codes_eq]
  intro c hc
  simp only [codes1, List.mem_cons, List.not_mem_nil, or_false] at hc
  rcases hc with rfl | rfl | rfl
  · exact w_c0
  · exact w_c1
  · exact w_c2
set_option maxRecDepth 65536 in
theorem w_t1 : words1.all (fun c => isCode c || c.before args0 about1) = true := by decide +kernel
theorem w_tables : (allAtoms (Jvm.Cond.code x code maxLocals ret :: tables_1)).before args0 about1 = true := by
  rw [allAtoms_all]
  show words1.all (fun c => c.before args0 about1) = true
  refine all_split ?_ w_codes
  rw [w_t1]
set_option maxRecDepth 65536 in
theorem w_case : (Jvm.Cond.and given_1 narrow_1).before args0 about1 = true := by decide +kernel
theorem w_applies : (headSpec (Jvm.Cond.code x code maxLocals ret :: tables_1) room_1).applies x e0.platform about1 = true :=
  (Spec.applies_iff w_frames).mpr ⟨w_running, w_runnable, w_alone, w_named, w_hears, w_ripe, w_room, w_tables⟩
theorem atStart : AtStart classFile x code maxLocals ret World_1 tables_1 room_1 Calls_1 rest_1 Pre_1 launch0 p0 e0 about1 theMethod args0 below0 :=
  ⟨lists_1, trivial, launch0.admits_env _ _ _, launch0.least_env, fairChoices_fair.cas, fairChoices_fair.clock, w_frames, w_args, w_heap, w_applies, trivial, trivial, w_case⟩
end start1
theorem witness_1 : WitnessClaimed_1 := ⟨start1.p0, start1.e0, start1.about1, start1.theMethod, start1.args0, start1.below0, start1.atStart⟩
end Jvm.Pilot.@@N@@
