import JvmDerived
import JvmDerived.Pilot.@@N@@Statement
import JvmDerived.Pilot.@@N@@Code
set_option linter.unusedVariables false
set_option linter.unusedSimpArgs false

namespace Jvm.RoadKit
open Sem ClassFile Op Lib Jvm.Stand Jvm.Free Jvm.LawKit
section New
variable {p : Program} {l : Launch} {e : Env} {R : Room} {s : State} {m : MethodId} {args : Array Value} {below : List Frame} {meth : Method} {c : Code} {T : State} {locs : List Loc} {cells slots : Nat}
theorem retI (X : Stand p l e R s m args below meth c T locs cells slots) (hx : p.tables.exec = Jvm.exec) {pc : Nat} {Ls : Array Slot} {z : Int32} {rest : List Value} (hret : meth.sig.returnType = some .int) (hd : decode c.code pc = .ok (.ireturn, 1)) {fs : List Frame}
    (hl : ∀ (f : JFrame) (acts : List Action), f.method = m → f.locked = none → f.entered = [] → (doReturn e (T.setTop f) acts (some (.int z))).1 = T.setFrames fs) : Steps p.tables e below (T.setTop (mkF m pc Ls (.int z :: rest))) (T.setFrames fs) :=
  retOut X hx hret rfl (Or.inl ⟨rfl, Or.inl rfl, z, rfl⟩) hd hl
theorem own_retL (X : Stand p l e R s m args below meth c T locs cells slots) (hx : p.tables.exec = Jvm.exec) {pc : Nat} {Ls : Array Slot} {z : Int64} {rest : List Value} (hret : meth.sig.returnType = some .long) (hd : decode c.code pc = .ok (.lreturn, 1)) {fs : List Frame}
    (hl : ∀ (f : JFrame) (acts : List Action), f.method = m → f.locked = none → f.entered = [] → (doReturn e (T.setTop f) acts (some (.long z))).1 = T.setFrames fs) : Steps p.tables e below (T.setTop (mkF m pc Ls (.long z :: rest))) (T.setFrames fs) :=
  retOut X hx hret rfl (Or.inr (Or.inl ⟨rfl, rfl, z, rfl⟩)) hd hl
theorem own_retA (X : Stand p l e R s m args below meth c T locs cells slots) (hx : p.tables.exec = Jvm.exec) {pc : Nat} {Ls : Array Slot} {w : Value} {t : FieldType} {rest : List Value} (hret : meth.sig.returnType = some t) (ht : t.isReference = true) (hw : w.isRef = true) (hd : decode c.code pc = .ok (.areturn, 1)) {fs : List Frame}
    (hl : ∀ (f : JFrame) (acts : List Action), f.method = m → f.locked = none → f.entered = [] → (doReturn e (T.setTop f) acts (some w)).1 = T.setFrames fs) : Steps p.tables e below (T.setTop (mkF m pc Ls (w :: rest))) (T.setFrames fs) :=
  retOut X hx hret (by cases t <;> first | (cases ht; done) | (cases w <;> first | rfl | cases hw)) (Or.inr (Or.inr (Or.inr (Or.inr ⟨rfl, ht, hw⟩)))) hd hl
theorem own_back {tb : Tables} {e : Env} {below : List Frame} {a b : State} {P : State → Outcome → Prop} (h : ∀ t, Steps tb e below b t → Steps tb e below a t) (k : ∃ t o, Steps tb e below b t ∧ P t o) : ∃ t o, Steps tb e below a t ∧ P t o := by
  obtain ⟨t, o, k1, k2⟩ := k
  exact ⟨t, o, h t k1, k2⟩
theorem own_sta_keep {Z : State} {h h' : Heap} {C n d : String} {v : Value} (F : Sta Z h C n d v) (K : Keep h h' []) : Sta Z h' C n d v := by
  obtain ⟨cf, i, k, f, st, cell, h1, h2, h3, h4, h5, r⟩ := F
  exact ⟨cf, i, k, f, st, cell, h1, h2, h3, h4, K.2.1 _ _ h5 nin0, r⟩
def ElA (Z : State) (h : Heap) (a : Addr) (ty : FieldType) (j : Int32) (v : Value) : Prop := ∃ c : Cell, Arr Z h a c ty ∧ ¬ (j < 0 ∨ c.slots.size ≤ j.toNatClampNeg) ∧ c.slots[j.toNatClampNeg]? = some v
theorem ElA.lt {Z : State} {h : Heap} {a : Addr} {ty : FieldType} {j : Int32} {v : Value} (F : ElA Z h a ty j v) : a < h.size := by obtain ⟨c, A, -⟩ := F; exact A.lt
theorem ElA.ext {Z : State} {h h' : Heap} {a : Addr} {ty : FieldType} {j : Int32} {v : Value} (F : ElA Z h a ty j v) (E : Ext h h') : ElA Z h' a ty j v := by obtain ⟨c, A, r⟩ := F; exact ⟨c, A.ext E, r⟩
theorem ElA.other {Z : State} {h h' : Heap} {a b : Addr} {ty : FieldType} {j : Int32} {v w : Value} {sl : Nat} (F : ElA Z h b ty j v) (W : Wr h h' a sl w) (q : b ≠ a) : ElA Z h' b ty j v := by obtain ⟨c, A, r⟩ := F; exact ⟨c, A.other W q, r⟩
theorem ElA.keep {Z : State} {h h' : Heap} {a : Addr} {ty : FieldType} {j : Int32} {v : Value} {ws : List Addr} (F : ElA Z h a ty j v) (K : Keep h h' ws) (q : a ∉ ws) : ElA Z h' a ty j v := by obtain ⟨c, A, r⟩ := F; exact ⟨c, ⟨K.2.1 a c A.1 q, A.2⟩, r⟩
theorem ElA.store {Z : State} {h h' : Heap} {a : Addr} {ty : FieldType} {j : Int32} {v : Value} {c : Cell} (A : Arr Z h a c ty) (hj : ¬ (j < 0 ∨ c.slots.size ≤ j.toNatClampNeg)) (W : Wr h h' a j.toNatClampNeg v) : ElA Z h' a ty j v :=
  ⟨_, A.same W, by rw [sz_set]; exact hj, get_hit hj rfl⟩
theorem own_endW {s t : State} {o : Outcome} {L : List Loc} {k n k' n' : Nat} (h : ReturnedEndW s o t L k n) (hk : k ≤ k') (hn : n ≤ n') : ReturnedEndW s o t L k' n' := ⟨h.1, h.2.1, h.2.2.1, h.2.2.2.mono hk hn⟩
theorem own_same {P : Prop} (h : P) : P := h
theorem own_irr (x : Int32) : ¬ x < x := by rw [Int32.lt_iff_toInt_lt]; omega
theorem own_irrL (x : Int64) : ¬ x < x := by rw [Int64.lt_iff_toInt_lt]; omega
end New
end Jvm.RoadKit
namespace Jvm.Pilot.@@N@@
open Jvm Jvm.ClassFile Sem Op Lib Jvm.Free Jvm.Stand Jvm.LawKit Jvm.RoadKit Bundle Jvm.Pilot.@@N@@.Jvm.D

theorem d3_0 : decode jdk_31_method_11_code 0 = .ok (.aload_n 0, 1) := by decide +kernel
theorem d3_1 : decode jdk_31_method_11_code 1 = .ok (.ifnonnull 12, 3) := by decide +kernel
theorem d3_13 : decode jdk_31_method_11_code 13 = .ok (.aload_n 0, 1) := by decide +kernel
theorem d3_14 : decode jdk_31_method_11_code 14 = .ok (.areturn, 1) := by decide +kernel
theorem pn_3 : plainName "java/util/Objects" = true := by first | (simp [plainName, overriddenIn]; done) | decide +kernel
theorem ef_3 (m : MethodId) (x0 : Addr) (x1 : Addr) : entryFrame m #[(.ref x0), (.ref x1)] 2 = mkF m 0 #[.val (.ref x0), .val (.ref x1)] [] := by first | (simp [entryFrame, mkF, argsToLocals, Value.category]; done) | rfl
def Q3 (Z : State) (a0 : Addr) (a1 : Addr) (h0 : Heap) (n0 : Nat) (v : Option Value) (h : Heap) (L : List Loc) : Prop := v = some (.ref a0) ∧ Fr n0 L ∧ h = h0
set_option maxRecDepth 65536 in
set_option maxHeartbeats 40000000 in
theorem rm3 (l : Launch) (Z : State) (aw : Array Value) (hw : ∀ d ∈ tables_1, d.before aw Z = true) (ws : List Jvm.Cond) (a0 : Addr) (a1 : Addr) (h0 : Heap) (n0 : Nat) (Z0 : n0 ≤ h0.size) :
    MetFree l (⟨"java/util/Objects", "requireNonNull", "(Ljava/lang/Object;Ljava/lang/String;)Ljava/lang/Object;"⟩ : MethodName) (head1 (Jvm.Cond.code (⟨"java/util/Objects", "requireNonNull", "(Ljava/lang/Object;Ljava/lang/String;)Ljava/lang/Object;"⟩ : MethodName) jdk_31_method_11_code 2 (some (.object "java/lang/Object")) :: ws) ({ frames := 0, cells := 0, slots := 0, locals := 0 } : Room)) (fun a U => a = #[(.ref a0), (.ref a1)] ∧ Z.Warmed39 U.vm ∧ U.heap = h0) (fun _ _ _ _ _ => True) (fun _ U o U' => ∃ v L, o = .returned v ∧ Q3 Z a0 a1 h0 n0 v U'.heap L ∧ FrameEnd U o U' L ({ frames := 0, cells := 0, slots := 0, locals := 0 } : Room).cells ({ frames := 0, cells := 0, slots := 0, locals := 0 } : Room).slots) := by
  refine MetFree.of_bodySF (plainFor_of_name pn_3) hisR ?_
  intro p e s m args below meth c s₁ Bd hml0 hP hK
  obtain ⟨rfl, hZ, hh⟩ := hP
  have hx := Bd.exec
  have hby := Bd.bytes
  have hml : c.maxLocals = 2 := hml0
  have hown : s.vm.findClass "java/util/Objects" = some m.cls := findClass_of_methodNamed Bd.named
  have hnm := (name_of_methodNamed Bd.named Bd.method).1
  have X0 : Stand p l e ({ frames := 0, cells := 0, slots := 0, locals := 0 } : Room) s m #[(.ref a0), (.ref a1)] below meth c s₁ [] 0 0 := Stand.of_body Bd
  have e0 : s₁.heap = h0 := by rw [← hh, Bd.state]; rfl
  have N0 := Fr.nil n0
  refine own_back (b := s₁.setTop (mkF m 0 #[.val (.ref a0), .val (.ref a1)] [])) (fun t kt => castTop (ef_3 m a0 a1) kt) ?_
  refine own_back (b := s₁.setTop (mkF m 14 #[.val (.ref a0), .val (.ref a1)] [(.ref a0)])) (fun t kt => ?_) ?_
  · show Steps p.tables e below (s₁.setTop (mkF m 0 #[.val (.ref a0), .val (.ref a1)] [])) _
    refine XS.aloadN X0.here hx rfl (hb hby d3_0) rfl rfl ?_
    show Steps p.tables e below (s₁.setTop (mkF m 1 #[.val (.ref a0), .val (.ref a1)] [(.ref a0)])) _
    refine XS.ifnonnullYes X0.here hx rfl (pc0 := 1) (pc' := 13) rfl (hb hby d3_1) rfl (by decide) (by decide) ?_
    show Steps p.tables e below (s₁.setTop (mkF m 13 #[.val (.ref a0), .val (.ref a1)] [])) _
    refine XS.aloadN X0.here hx rfl (hb hby d3_13) rfl rfl ?_
    exact kt
  obtain ⟨fs, hr, hrun, hended, hW, hsame⟩ := X0.leave (v := some (.ref a0)) (fun h => by rw [Bd.returns] at h; cases h) (BodyLoose.notSynchronized Bd)
  refine ⟨_, _, ?_, hrun, hended, _, _, rfl, ?_, ⟨_, rfl⟩, hW, hsame.mono (by decide) (by decide)⟩
  · show Steps p.tables e below (s₁.setTop (mkF m 14 #[.val (.ref a0), .val (.ref a1)] [(.ref a0)])) _
    exact own_retA X0 hx Bd.returns rfl rfl (hb hby d3_14) hr
  · show Q3 Z a0 a1 h0 n0 _ s₁.heap _
    rw [e0]
    exact ⟨rfl, N0, rfl⟩
theorem d1_0 : decode prog_14_method_1_code 0 = .ok (.aload_n 0, 1) := by decide +kernel
theorem d1_1 : decode prog_14_method_1_code 1 = .ok (.invokespecial 1, 3) := by decide +kernel
theorem d1_4 : decode prog_14_method_1_code 4 = .ok (.aload_n 1, 1) := by decide +kernel
theorem d1_5 : decode prog_14_method_1_code 5 = .ok (.ldc 7, 2) := by decide +kernel
theorem d1_7 : decode prog_14_method_1_code 7 = .ok (.invokestatic 9, 3) := by decide +kernel
theorem d1_10 : decode prog_14_method_1_code 10 = .ok (.pop, 1) := by decide +kernel
theorem d1_11 : decode prog_14_method_1_code 11 = .ok (.aload_n 2, 1) := by decide +kernel
theorem d1_12 : decode prog_14_method_1_code 12 = .ok (.ldc 15, 2) := by decide +kernel
theorem d1_14 : decode prog_14_method_1_code 14 = .ok (.invokestatic 9, 3) := by decide +kernel
theorem d1_17 : decode prog_14_method_1_code 17 = .ok (.pop, 1) := by decide +kernel
theorem d1_18 : decode prog_14_method_1_code 18 = .ok (.aload_n 1, 1) := by decide +kernel
theorem d1_19 : decode prog_14_method_1_code 19 = .ok (.arraylength, 1) := by decide +kernel
theorem d1_20 : decode prog_14_method_1_code 20 = .ok (.ifCond .ne 13, 3) := by decide +kernel
theorem d1_33 : decode prog_14_method_1_code 33 = .ok (.aload_n 1, 1) := by decide +kernel
theorem d1_34 : decode prog_14_method_1_code 34 = .ok (.arraylength, 1) := by decide +kernel
theorem d1_35 : decode prog_14_method_1_code 35 = .ok (.aload_n 2, 1) := by decide +kernel
theorem d1_36 : decode prog_14_method_1_code 36 = .ok (.arraylength, 1) := by decide +kernel
theorem d1_37 : decode prog_14_method_1_code 37 = .ok (.if_icmp .eq 20, 3) := by decide +kernel
theorem d1_57 : decode prog_14_method_1_code 57 = .ok (.lconst 0, 1) := by decide +kernel
theorem d1_58 : decode prog_14_method_1_code 58 = .ok (.lstore_n 3, 1) := by decide +kernel
theorem d1_59 : decode prog_14_method_1_code 59 = .ok (.iconst 0, 1) := by decide +kernel
theorem d1_60 : decode prog_14_method_1_code 60 = .ok (.istore 5, 2) := by decide +kernel
theorem d1_62 : decode prog_14_method_1_code 62 = .ok (.iload 5, 2) := by decide +kernel
theorem d1_64 : decode prog_14_method_1_code 64 = .ok (.aload_n 1, 1) := by decide +kernel
theorem d1_65 : decode prog_14_method_1_code 65 = .ok (.arraylength, 1) := by decide +kernel
theorem d1_66 : decode prog_14_method_1_code 66 = .ok (.if_icmp .ge 116, 3) := by decide +kernel
theorem d1_69 : decode prog_14_method_1_code 69 = .ok (.aload_n 1, 1) := by decide +kernel
theorem d1_70 : decode prog_14_method_1_code 70 = .ok (.iload 5, 2) := by decide +kernel
theorem d1_72 : decode prog_14_method_1_code 72 = .ok (.iaload, 1) := by decide +kernel
theorem d1_73 : decode prog_14_method_1_code 73 = .ok (.istore 6, 2) := by decide +kernel
theorem d1_75 : decode prog_14_method_1_code 75 = .ok (.aload_n 2, 1) := by decide +kernel
theorem d1_76 : decode prog_14_method_1_code 76 = .ok (.iload 5, 2) := by decide +kernel
theorem d1_78 : decode prog_14_method_1_code 78 = .ok (.iaload, 1) := by decide +kernel
theorem d1_79 : decode prog_14_method_1_code 79 = .ok (.istore 7, 2) := by decide +kernel
theorem d1_81 : decode prog_14_method_1_code 81 = .ok (.iload 6, 2) := by decide +kernel
theorem d1_83 : decode prog_14_method_1_code 83 = .ok (.iconst 1, 1) := by decide +kernel
theorem d1_84 : decode prog_14_method_1_code 84 = .ok (.if_icmp .ge 20, 3) := by decide +kernel
theorem d1_104 : decode prog_14_method_1_code 104 = .ok (.iload 7, 2) := by decide +kernel
theorem d1_106 : decode prog_14_method_1_code 106 = .ok (.iconst 1, 1) := by decide +kernel
theorem d1_107 : decode prog_14_method_1_code 107 = .ok (.if_icmp .ge 20, 3) := by decide +kernel
theorem d1_127 : decode prog_14_method_1_code 127 = .ok (.iload 5, 2) := by decide +kernel
theorem d1_129 : decode prog_14_method_1_code 129 = .ok (.ifCond .le 37, 3) := by decide +kernel
theorem d1_166 : decode prog_14_method_1_code 166 = .ok (.lload_n 3, 1) := by decide +kernel
theorem d1_167 : decode prog_14_method_1_code 167 = .ok (.iload 6, 2) := by decide +kernel
theorem d1_169 : decode prog_14_method_1_code 169 = .ok (.i2l, 1) := by decide +kernel
theorem d1_170 : decode prog_14_method_1_code 170 = .ok (.iload 7, 2) := by decide +kernel
theorem d1_172 : decode prog_14_method_1_code 172 = .ok (.i2l, 1) := by decide +kernel
theorem d1_173 : decode prog_14_method_1_code 173 = .ok (.lmul, 1) := by decide +kernel
theorem d1_174 : decode prog_14_method_1_code 174 = .ok (.ladd, 1) := by decide +kernel
theorem d1_175 : decode prog_14_method_1_code 175 = .ok (.lstore_n 3, 1) := by decide +kernel
theorem d1_176 : decode prog_14_method_1_code 176 = .ok (.iinc 5 1, 3) := by decide +kernel
theorem d1_179 : decode prog_14_method_1_code 179 = .ok (.goto (-117), 3) := by decide +kernel
theorem d1_182 : decode prog_14_method_1_code 182 = .ok (.aload_n 0, 1) := by decide +kernel
theorem d1_183 : decode prog_14_method_1_code 183 = .ok (.aload_n 1, 1) := by decide +kernel
theorem d1_184 : decode prog_14_method_1_code 184 = .ok (.invokevirtual 33, 3) := by decide +kernel
theorem d1_187 : decode prog_14_method_1_code 187 = .ok (.checkcast 34, 3) := by decide +kernel
theorem d1_190 : decode prog_14_method_1_code 190 = .ok (.putfield 39, 3) := by decide +kernel
theorem d1_193 : decode prog_14_method_1_code 193 = .ok (.aload_n 0, 1) := by decide +kernel
theorem d1_194 : decode prog_14_method_1_code 194 = .ok (.aload_n 2, 1) := by decide +kernel
theorem d1_195 : decode prog_14_method_1_code 195 = .ok (.invokevirtual 33, 3) := by decide +kernel
theorem d1_198 : decode prog_14_method_1_code 198 = .ok (.checkcast 34, 3) := by decide +kernel
theorem d1_201 : decode prog_14_method_1_code 201 = .ok (.putfield 43, 3) := by decide +kernel
theorem d1_204 : decode prog_14_method_1_code 204 = .ok (.aload_n 0, 1) := by decide +kernel
theorem d1_205 : decode prog_14_method_1_code 205 = .ok (.lload_n 3, 1) := by decide +kernel
theorem d1_206 : decode prog_14_method_1_code 206 = .ok (.putfield 45, 3) := by decide +kernel
theorem d1_209 : decode prog_14_method_1_code 209 = .ok (.return_, 1) := by decide +kernel
theorem pn_1a : plainName "com/example/byteloom/byteloom/SectionLayout" = true := by first | (simp [plainName, overriddenIn]; done) | decide +kernel
theorem pd_1a_0 : parseMethodDescriptor "(Ljava/lang/Object;Ljava/lang/String;)Ljava/lang/Object;" = some ⟨[(.object "java/lang/Object"), (.object "java/lang/String")], some (.object "java/lang/Object")⟩ := by decide +kernel
theorem ef_1a (m : MethodId) (x0 : Addr) (x1 : Addr) (x2 : Addr) : entryFrame m #[(.ref x0), (.ref x1), (.ref x2)] 8 = mkF m 0 #[.val (.ref x0), .val (.ref x1), .val (.ref x2), .unset, .unset, .unset, .unset, .unset] [] := by first | (simp [entryFrame, mkF, argsToLocals, Value.category]; done) | rfl
def Q1a (Z : State) (a0 : Addr) (a1 : Addr) (a2 : Addr) (kx1 : ClassId) (kx2 : ClassId) (sv0 : Int32) (h0 : Heap) (n0 : Nat) (v : Option Value) (h : Heap) (L : List Loc) : Prop := ∃ (bb : Addr), v = none ∧ Fr n0 L ∧ Keep h0 h [a0] ∧ Exa Z h a0 "com/example/byteloom/byteloom/SectionLayout" ∧ Fld Z h a0 "com/example/byteloom/byteloom/SectionLayout" "blockSizes" "[I" (.ref bb) ∧ Arv Z h bb kx1 .int (1 : Int32) [(.int sv0)] (.int (0 : Int32))
set_option maxRecDepth 65536 in
set_option maxHeartbeats 40000000 in
theorem rm1a (l : Launch) (Z : State) (aw : Array Value) (hw : ∀ d ∈ tables_1, d.before aw Z = true) (ws : List Jvm.Cond) (a0 : Addr) (a1 : Addr) (a2 : Addr) (kx1 : ClassId) (kx2 : ClassId) (sv0 : Int32) (h0 : Heap) (n0 : Nat) (Z0 : n0 ≤ h0.size) (F_blockSizes_a0 : Fld Z h0 a0 "com/example/byteloom/byteloom/SectionLayout" "blockSizes" "[I" .null) (F_blockCounts_a0 : Fld Z h0 a0 "com/example/byteloom/byteloom/SectionLayout" "blockCounts" "[I" .null) (F_reservedBytes_a0 : Fld Z h0 a0 "com/example/byteloom/byteloom/SectionLayout" "reservedBytes" "J" (.long (0 : Int64))) (E_a0 : Exa Z h0 a0 "com/example/byteloom/byteloom/SectionLayout") (g_a0 : n0 ≤ a0) (V_a1 : Arv Z h0 a1 kx1 .int (1 : Int32) [(.int sv0)] (.int (0 : Int32))) (V_a2 : Arv Z h0 a2 kx2 .int (1 : Int32) [(.int (1 : Int32))] (.int (0 : Int32))) (E_a1 : Exa Z h0 a1 "[I") (E_a2 : Exa Z h0 a2 "[I") (ne_a1_a0 : a1 ≠ a0) (ne_a2_a0 : a2 ≠ a0) (hps0 : ¬ (sv0 < (1 : Int32))) :
    MetFree l (⟨"com/example/byteloom/byteloom/SectionLayout", "<init>", "([I[I)V"⟩ : MethodName) (head1 (Jvm.Cond.code (⟨"com/example/byteloom/byteloom/SectionLayout", "<init>", "([I[I)V"⟩ : MethodName) prog_14_method_1_code 8 none :: ws) ({ frames := 1, cells := 6, slots := 94, locals := 15 } : Room)) (fun a U => a = #[(.ref a0), (.ref a1), (.ref a2)] ∧ Z.Warmed39 U.vm ∧ U.heap = h0) (fun _ _ _ _ _ => True) (fun _ U o U' => ∃ v L, o = .returned v ∧ Q1a Z a0 a1 a2 kx1 kx2 sv0 h0 n0 v U'.heap L ∧ ReturnedEndW U o U' L ({ frames := 1, cells := 6, slots := 94, locals := 15 } : Room).cells ({ frames := 1, cells := 6, slots := 94, locals := 15 } : Room).slots) := by
  refine MetFree.of_bodySF (plainFor_of_name pn_1a) hisR ?_
  intro p e s m args below meth c s₁ Bd hml0 hP hK
  obtain ⟨rfl, hZ, hh⟩ := hP
  have hx := Bd.exec
  have hby := Bd.bytes
  have hml : c.maxLocals = 8 := hml0
  have hown : s.vm.findClass "com/example/byteloom/byteloom/SectionLayout" = some m.cls := findClass_of_methodNamed Bd.named
  have hnm := (name_of_methodNamed Bd.named Bd.method).1
  have X0 : Stand p l e ({ frames := 1, cells := 6, slots := 94, locals := 15 } : Room) s m #[(.ref a0), (.ref a1), (.ref a2)] below meth c s₁ [] 0 0 := Stand.of_body Bd
  have e0 : s₁.heap = h0 := by rw [← hh, Bd.state]; rfl
  have N0 := Fr.nil n0
  refine own_back (b := s₁.setTop (mkF m 0 #[.val (.ref a0), .val (.ref a1), .val (.ref a2), .unset, .unset, .unset, .unset, .unset] [])) (fun t kt => castTop (ef_1a m a0 a1 a2) kt) ?_
  obtain ⟨T1, X1, e1, st1⟩ := initO X0 hx hZ hown (hw _ (List.mem_of_getElem? (i := 11) rfl)) (hw _ (List.mem_of_getElem? (i := 12) rfl)) (hw _ (List.mem_of_getElem? (i := 13) rfl)) e0 (g := (mkF m 1 #[.val (.ref a0), .val (.ref a1), .val (.ref a2), .unset, .unset, .unset, .unset, .unset] [(.ref a0)])) rfl (by rw [hml]; rfl) rfl (hb hby d1_1) (by decide) (W := 0) (by show 2 * 0 + _ ≤ _; exact Nat.le_of_eq rfl) (by decide)
  have wS : ∀ a ∈ Bundle.stringAtoms, a.before aw Z = true := by
    intro d hd
    simp only [Bundle.stringAtoms, List.mem_cons, List.not_mem_nil, or_false] at hd
    rcases hd with rfl | rfl | rfl | rfl | rfl | rfl | rfl
    · exact (hw _ (List.mem_of_getElem? (i := 15) rfl))
    · exact (hw _ (List.mem_of_getElem? (i := 16) rfl))
    · exact (hw _ (List.mem_of_getElem? (i := 17) rfl))
    · exact (hw _ (List.mem_of_getElem? (i := 18) rfl))
    · exact (hw _ (List.mem_of_getElem? (i := 19) rfl))
    · exact (hw _ (List.mem_of_getElem? (i := 20) rfl))
    · exact (hw _ (List.mem_of_getElem? (i := 21) rfl))
  obtain ⟨c2, T2, h2, k2, X2, e2, E2, hS2, hk2, hZ, hown, st2⟩ := ldcS (s := s) (vm0 := s.vm) X1 hx hZ hown (hw _ (List.mem_of_getElem? (i := 14) rfl)) wS e1 ((State.WarmedH.refl s).since 0) (Nat.zero_le _) (g := (mkF m 5 #[.val (.ref a0), .val (.ref a1), .val (.ref a2), .unset, .unset, .unset, .unset, .unset] [(.ref a1)])) rfl (hb hby d1_5) (n := 40) (by decide) (by decide) (by decide) (by decide)
  have f2_0 := F_blockSizes_a0.ext E2
  have f2_1 := F_blockCounts_a0.ext E2
  have f2_2 := F_reservedBytes_a0.ext E2
  have f2_3 := E_a0.ext E2
  have f2_4 := V_a1.ext E2
  have f2_5 := V_a2.ext E2
  have f2_6 := E_a1.ext E2
  have f2_7 := E_a2.ext E2
  have K2 : Keep h0 h2 [a0] := (Keep.refl h0 _).ext E2
  have Z2 : n0 ≤ h2.size := Nat.le_trans Z0 E2.1
  obtain ⟨_, _, ⟨T3, L3, k3, n3⟩, -, X3, ⟨Lc3, hQ3, l3, y3, z3⟩, st3⟩ := Jvm.LawKit.callS X2 hx (y := (⟨"java/util/Objects", "requireNonNull", "(Ljava/lang/Object;Ljava/lang/String;)Ljava/lang/Object;"⟩ : MethodName)) hown (mvT hZ (hw _ (List.mem_of_getElem? (i := 22) rfl))) (mvT hZ (hw _ (List.mem_of_getElem? (i := 23) rfl))) (mvT hZ (hw _ (List.mem_of_getElem? (i := 24) rfl))) (mvT hZ (hw _ (List.mem_of_getElem? (i := 25) rfl))) (by decide) (backOf (W := 0) (rm3 l Z aw hw [] a1 c2 h2 n0 Z2 ) hZ (hw _ (List.mem_of_getElem? (i := 25) rfl)) (hw _ (List.mem_of_getElem? (i := 24) rfl)) (by decide) (by decide)) (g := (mkF m 7 #[.val (.ref a0), .val (.ref a1), .val (.ref a2), .unset, .unset, .unset, .unset, .unset] [(.ref c2), (.ref a1)])) rfl (by rw [hml]; rfl) (argsL := [(.ref a1), (.ref c2)]) (rest := []) (lenOf pd_1a_0 rfl) rfl (by show 2 * 0 + _ ≤ _; exact Nat.le_of_eq rfl) (hb hby d1_7) (fun _ _ => ⟨rfl, e2, (by decide : 2 + 0 ≤ _), (by decide : 44 + 0 ≤ _)⟩)
  dsimp only [Pt.U, Pt.locs, Pt.cells, Pt.slots] at X3 l3 y3 z3 st3 hQ3
  rw [l3, y3, z3] at X3
  obtain ⟨rfl, Nq3, e3⟩ := hQ3
  have N3 := Fr.app N0 Nq3
  obtain ⟨c4, T4, h4, k4, X4, e4, E4, hS4, hk4, hZ, hown, st4⟩ := ldcS (s := s) (vm0 := T2.vm) X3 hx hZ hown (hw _ (List.mem_of_getElem? (i := 26) rfl)) wS e3 hS2 hk2 (g := (mkF m 12 #[.val (.ref a0), .val (.ref a1), .val (.ref a2), .unset, .unset, .unset, .unset, .unset] [(.ref a2)])) rfl (hb hby d1_12) (n := 44) (by decide) (by decide) (by decide) (by decide)
  have f4_0 := f2_0.ext E4
  have f4_1 := f2_1.ext E4
  have f4_2 := f2_2.ext E4
  have f4_3 := f2_3.ext E4
  have f4_4 := f2_4.ext E4
  have f4_5 := f2_5.ext E4
  have f4_6 := f2_6.ext E4
  have f4_7 := f2_7.ext E4
  have K4 := K2.ext E4
  have Z4 : n0 ≤ h4.size := Nat.le_trans Z2 E4.1
  obtain ⟨_, _, ⟨T5, L5, k5, n5⟩, -, X5, ⟨Lc5, hQ5, l5, y5, z5⟩, st5⟩ := Jvm.LawKit.callS X4 hx (y := (⟨"java/util/Objects", "requireNonNull", "(Ljava/lang/Object;Ljava/lang/String;)Ljava/lang/Object;"⟩ : MethodName)) hown (mvT hZ (hw _ (List.mem_of_getElem? (i := 22) rfl))) (mvT hZ (hw _ (List.mem_of_getElem? (i := 23) rfl))) (mvT hZ (hw _ (List.mem_of_getElem? (i := 24) rfl))) (mvT hZ (hw _ (List.mem_of_getElem? (i := 25) rfl))) (by decide) (backOf (W := 0) (rm3 l Z aw hw [] a2 c4 h4 n0 Z4 ) hZ (hw _ (List.mem_of_getElem? (i := 25) rfl)) (hw _ (List.mem_of_getElem? (i := 24) rfl)) (by decide) (by decide)) (g := (mkF m 14 #[.val (.ref a0), .val (.ref a1), .val (.ref a2), .unset, .unset, .unset, .unset, .unset] [(.ref c4), (.ref a2)])) rfl (by rw [hml]; rfl) (argsL := [(.ref a2), (.ref c4)]) (rest := []) (lenOf pd_1a_0 rfl) rfl (by show 2 * 0 + _ ≤ _; exact Nat.le_of_eq rfl) (hb hby d1_14) (fun _ _ => ⟨rfl, e4, (by decide : 4 + 0 ≤ _), (by decide : 92 + 0 ≤ _)⟩)
  dsimp only [Pt.U, Pt.locs, Pt.cells, Pt.slots] at X5 l5 y5 z5 st5 hQ5
  rw [l5, y5, z5] at X5
  obtain ⟨rfl, Nq5, e5⟩ := hQ5
  have N5 := Fr.app N3 Nq5
  obtain ⟨cl6, Ar6, qk6, S6, N6', -, -⟩ := own_same f4_4
  obtain ⟨cl7, Ar7, qk7, S7, N7', -, -⟩ := own_same f4_4
  obtain ⟨cl8, Ar8, qk8, S8, N8', -, -⟩ := own_same f4_5
  obtain ⟨cl9, Ar9, qk9, S9, N9', -, -⟩ := own_same f4_4
  obtain ⟨cl10, Ar10, qk10, S10, N10', Hh10, G10⟩ := own_same f4_4
  have hin10 : ¬ ((0 : Int32) < 0 ∨ cl10.slots.size ≤ ((0 : Int32)).toNatClampNeg) := inb_of S10 ⟨by decide, by decide⟩
  have hat10 : cl10.slots[((0 : Int32)).toNatClampNeg]? = some (.int sv0) := Has.at Hh10 hin10 rfl
  obtain ⟨cl11, Ar11, qk11, S11, N11', Hh11, G11⟩ := own_same f4_5
  have hin11 : ¬ ((0 : Int32) < 0 ∨ cl11.slots.size ≤ ((0 : Int32)).toNatClampNeg) := inb_of S11 ⟨by decide, by decide⟩
  have hat11 : cl11.slots[((0 : Int32)).toNatClampNeg]? = some (.int (1 : Int32)) := Has.at Hh11 hin11 rfl
  obtain ⟨cl12, Ar12, qk12, S12, N12', -, -⟩ := own_same f4_4
  obtain ⟨T13, h13, X13, e13, E13, V13, A13, st13⟩ := cloneH X5 hx hZ hown (hw _ (List.mem_of_getElem? (i := 27) rfl)) (hw _ (List.mem_of_getElem? (i := 28) rfl)) (hw _ (List.mem_of_getElem? (i := 32) rfl)) (hw _ (List.mem_of_getElem? (i := 30) rfl)) (hw _ (List.mem_of_getElem? (i := 31) rfl)) (hw _ (List.mem_of_getElem? (i := 33) rfl)) e5 (hs := []) f4_4 f4_6 (g := (mkF m 184 #[.val (.ref a0), .val (.ref a1), .val (.ref a2), .val (.long ((0 : Int64) + ((sv0.toInt64) * ((1 : Int32).toInt64)))), .second, .val (.int (1 : Int32)), .val (.int sv0), .val (.int (1 : Int32))] [(.ref a1), (.ref a0)])) rfl (by rw [hml]; rfl) rfl (hb hby d1_184) (by decide) (W := 1) (by show 2 * 0 + _ ≤ _; exact Nat.le_of_eq rfl) (by decide) (cap := 1) (by decide) (by decide) (by decide)
  obtain ⟨b13, g13⟩ : ∃ z, z = h4.size := ⟨_, rfl⟩
  rw [← g13] at V13 A13 st13
  have ne13_a0 : a0 ≠ b13 := Nat.ne_of_lt (Nat.lt_of_lt_of_le f4_0.lt (Nat.le_of_eq g13.symm))
  have ne13_a1 : a1 ≠ b13 := Nat.ne_of_lt (Nat.lt_of_lt_of_le f4_4.lt (Nat.le_of_eq g13.symm))
  have ne13_a2 : a2 ≠ b13 := Nat.ne_of_lt (Nat.lt_of_lt_of_le f4_5.lt (Nat.le_of_eq g13.symm))
  have lo13 : n0 ≤ b13 := Nat.le_trans Z4 (Nat.le_of_eq g13.symm)
  have sz13 : h0.size ≤ b13 := Nat.le_trans K4.1 (Nat.le_of_eq g13.symm)
  have f13_0 := f4_0.ext E13
  have f13_1 := f4_1.ext E13
  have f13_2 := f4_2.ext E13
  have f13_3 := f4_3.ext E13
  have f13_4 := f4_4.ext E13
  have f13_5 := f4_5.ext E13
  have f13_6 := f4_6.ext E13
  have f13_7 := f4_7.ext E13
  have K13 := K4.ext E13
  have Z13 : n0 ≤ h13.size := Nat.le_trans Z4 E13.1
  have hk13 := Nat.le_trans hk4 E13.1
  have Vc13 : Arv Z h13 b13 kx1 .int (1 : Int32) [(.int sv0)] (.int (0 : Int32)) := V13
  obtain ⟨T14, X14, e14, st14⟩ := castY X13 hx hZ hown (hw _ (List.mem_of_getElem? (i := 34) rfl)) e13 (Ins.self A13) (g := (mkF m 187 #[.val (.ref a0), .val (.ref a1), .val (.ref a2), .val (.long ((0 : Int64) + ((sv0.toInt64) * ((1 : Int32).toInt64)))), .second, .val (.int (1 : Int32)), .val (.int sv0), .val (.int (1 : Int32))] [(.ref b13), (.ref a0)])) rfl rfl (hb hby d1_187)
  obtain ⟨T15, h15, X15, e15, W15, st15⟩ := putF X14 hx hZ hown (host := "") (Or.inl (hw _ (List.mem_of_getElem? (i := 36) rfl))) Via.refl e14 f13_0 f13_3 (Or.inr ⟨(hw _ (List.mem_of_getElem? (i := 37) rfl)), rfl, hnm⟩) (hw _ (List.mem_of_getElem? (i := 5) rfl)) (ty := (.array .int)) (by decide) rfl rfl (g := (mkF m 190 #[.val (.ref a0), .val (.ref a1), .val (.ref a2), .val (.long ((0 : Int64) + ((sv0.toInt64) * ((1 : Int32).toInt64)))), .second, .val (.int (1 : Int32)), .val (.int sv0), .val (.int (1 : Int32))] [(.ref b13), (.ref a0)])) rfl rfl (hb hby d1_190)
  have Fw15 := f13_0.same W15
  have f15_0 := f13_1.other W15 (Or.inr (slot_ne (Or.inr (hw _ (List.mem_of_getElem? (i := 39) rfl))) (Or.inr (hw _ (List.mem_of_getElem? (i := 37) rfl))) (by decide) (t := (.array .int)) (t' := (.array .int)) (by decide) (by decide)))
  have f15_1 := f13_2.other W15 (Or.inr (slot_ne (Or.inr (hw _ (List.mem_of_getElem? (i := 41) rfl))) (Or.inr (hw _ (List.mem_of_getElem? (i := 37) rfl))) (by decide) (t := .long) (t' := (.array .int)) (by decide) (by decide)))
  have f15_2 := f13_3.wr W15
  have f15_3 := f13_4.other W15 ne_a1_a0
  have f15_4 := f13_5.other W15 ne_a2_a0
  have f15_5 := f13_6.wr W15
  have f15_6 := f13_7.wr W15
  have f15_7 := Vc13.other W15 (Ne.symm ne13_a0)
  have f15_8 := A13.wr W15
  have K15 : Keep h0 h15 [a0] := K13.wr W15 (Or.inl (List.mem_of_getElem? (i := 0) rfl))
  have Z15 : n0 ≤ h15.size := Nat.le_trans Z13 (Keep.of_wr W15).1
  have hk15 := Nat.le_trans hk13 (Keep.of_wr W15).1
  have N15 := Fr.snoc X15 N5 g_a0
  obtain ⟨T16, h16, X16, e16, E16, V16, A16, st16⟩ := cloneH X15 hx hZ hown (hw _ (List.mem_of_getElem? (i := 27) rfl)) (hw _ (List.mem_of_getElem? (i := 28) rfl)) (hw _ (List.mem_of_getElem? (i := 32) rfl)) (hw _ (List.mem_of_getElem? (i := 30) rfl)) (hw _ (List.mem_of_getElem? (i := 31) rfl)) (hw _ (List.mem_of_getElem? (i := 33) rfl)) e15 (hs := []) f15_4 f15_6 (g := (mkF m 195 #[.val (.ref a0), .val (.ref a1), .val (.ref a2), .val (.long ((0 : Int64) + ((sv0.toInt64) * ((1 : Int32).toInt64)))), .second, .val (.int (1 : Int32)), .val (.int sv0), .val (.int (1 : Int32))] [(.ref a2), (.ref a0)])) rfl (by rw [hml]; rfl) rfl (hb hby d1_195) (by decide) (W := 1) (by show 2 * 0 + _ ≤ _; exact Nat.le_of_eq rfl) (by decide) (cap := 1) (by decide) (by decide) (by decide)
  obtain ⟨b16, g16⟩ : ∃ z, z = h15.size := ⟨_, rfl⟩
  rw [← g16] at V16 A16 st16
  have ne16_a0 : a0 ≠ b16 := Nat.ne_of_lt (Nat.lt_of_lt_of_le f15_0.lt (Nat.le_of_eq g16.symm))
  have ne16_a1 : a1 ≠ b16 := Nat.ne_of_lt (Nat.lt_of_lt_of_le f15_3.lt (Nat.le_of_eq g16.symm))
  have ne16_a2 : a2 ≠ b16 := Nat.ne_of_lt (Nat.lt_of_lt_of_le f15_4.lt (Nat.le_of_eq g16.symm))
  have ne16_b13 : b13 ≠ b16 := Nat.ne_of_lt (Nat.lt_of_lt_of_le f15_7.lt (Nat.le_of_eq g16.symm))
  have lo16 : n0 ≤ b16 := Nat.le_trans Z15 (Nat.le_of_eq g16.symm)
  have sz16 : h0.size ≤ b16 := Nat.le_trans K15.1 (Nat.le_of_eq g16.symm)
  have f16_0 := f15_0.ext E16
  have f16_1 := f15_1.ext E16
  have f16_2 := f15_2.ext E16
  have f16_3 := f15_3.ext E16
  have f16_4 := f15_4.ext E16
  have f16_5 := f15_5.ext E16
  have f16_6 := f15_6.ext E16
  have f16_7 := f15_7.ext E16
  have f16_8 := f15_8.ext E16
  have f16_9 := Fw15.ext E16
  have K16 := K15.ext E16
  have Z16 : n0 ≤ h16.size := Nat.le_trans Z15 E16.1
  have hk16 := Nat.le_trans hk15 E16.1
  have Vc16 : Arv Z h16 b16 kx2 .int (1 : Int32) [(.int (1 : Int32))] (.int (0 : Int32)) := V16
  obtain ⟨T17, X17, e17, st17⟩ := castY X16 hx hZ hown (hw _ (List.mem_of_getElem? (i := 34) rfl)) e16 (Ins.self A16) (g := (mkF m 198 #[.val (.ref a0), .val (.ref a1), .val (.ref a2), .val (.long ((0 : Int64) + ((sv0.toInt64) * ((1 : Int32).toInt64)))), .second, .val (.int (1 : Int32)), .val (.int sv0), .val (.int (1 : Int32))] [(.ref b16), (.ref a0)])) rfl rfl (hb hby d1_198)
  obtain ⟨T18, h18, X18, e18, W18, st18⟩ := putF X17 hx hZ hown (host := "") (Or.inl (hw _ (List.mem_of_getElem? (i := 38) rfl))) Via.refl e17 f16_0 f16_2 (Or.inr ⟨(hw _ (List.mem_of_getElem? (i := 39) rfl)), rfl, hnm⟩) (hw _ (List.mem_of_getElem? (i := 5) rfl)) (ty := (.array .int)) (by decide) rfl rfl (g := (mkF m 201 #[.val (.ref a0), .val (.ref a1), .val (.ref a2), .val (.long ((0 : Int64) + ((sv0.toInt64) * ((1 : Int32).toInt64)))), .second, .val (.int (1 : Int32)), .val (.int sv0), .val (.int (1 : Int32))] [(.ref b16), (.ref a0)])) rfl rfl (hb hby d1_201)
  have Fw18 := f16_0.same W18
  have f18_0 := f16_1.other W18 (Or.inr (slot_ne (Or.inr (hw _ (List.mem_of_getElem? (i := 41) rfl))) (Or.inr (hw _ (List.mem_of_getElem? (i := 39) rfl))) (by decide) (t := .long) (t' := (.array .int)) (by decide) (by decide)))
  have f18_1 := f16_2.wr W18
  have f18_2 := f16_3.other W18 ne_a1_a0
  have f18_3 := f16_4.other W18 ne_a2_a0
  have f18_4 := f16_5.wr W18
  have f18_5 := f16_6.wr W18
  have f18_6 := f16_7.other W18 (Ne.symm ne13_a0)
  have f18_7 := f16_8.wr W18
  have f18_8 := f16_9.other W18 (Or.inr (slot_ne (Or.inr (hw _ (List.mem_of_getElem? (i := 37) rfl))) (Or.inr (hw _ (List.mem_of_getElem? (i := 39) rfl))) (by decide) (t := (.array .int)) (t' := (.array .int)) (by decide) (by decide)))
  have f18_9 := Vc16.other W18 (Ne.symm ne16_a0)
  have f18_10 := A16.wr W18
  have K18 : Keep h0 h18 [a0] := K16.wr W18 (Or.inl (List.mem_of_getElem? (i := 0) rfl))
  have Z18 : n0 ≤ h18.size := Nat.le_trans Z16 (Keep.of_wr W18).1
  have hk18 := Nat.le_trans hk16 (Keep.of_wr W18).1
  have N18 := Fr.snoc X18 N15 g_a0
  obtain ⟨T19, h19, X19, e19, W19, st19⟩ := putF X18 hx hZ hown (host := "") (Or.inl (hw _ (List.mem_of_getElem? (i := 40) rfl))) Via.refl e18 f18_0 f18_1 (Or.inr ⟨(hw _ (List.mem_of_getElem? (i := 41) rfl)), rfl, hnm⟩) (hw _ (List.mem_of_getElem? (i := 5) rfl)) (ty := .long) (by decide) rfl rfl (g := (mkF m 206 #[.val (.ref a0), .val (.ref a1), .val (.ref a2), .val (.long ((0 : Int64) + ((sv0.toInt64) * ((1 : Int32).toInt64)))), .second, .val (.int (1 : Int32)), .val (.int sv0), .val (.int (1 : Int32))] [(.long ((0 : Int64) + ((sv0.toInt64) * ((1 : Int32).toInt64)))), (.ref a0)])) rfl rfl (hb hby d1_206)
  have Fw19 := f18_0.same W19
  have f19_0 := f18_1.wr W19
  have f19_1 := f18_2.other W19 ne_a1_a0
  have f19_2 := f18_3.other W19 ne_a2_a0
  have f19_3 := f18_4.wr W19
  have f19_4 := f18_5.wr W19
  have f19_5 := f18_6.other W19 (Ne.symm ne13_a0)
  have f19_6 := f18_7.wr W19
  have f19_7 := f18_8.other W19 (Or.inr (slot_ne (Or.inr (hw _ (List.mem_of_getElem? (i := 37) rfl))) (Or.inr (hw _ (List.mem_of_getElem? (i := 41) rfl))) (by decide) (t := (.array .int)) (t' := .long) (by decide) (by decide)))
  have f19_8 := f18_9.other W19 (Ne.symm ne16_a0)
  have f19_9 := f18_10.wr W19
  have f19_10 := Fw18.other W19 (Or.inr (slot_ne (Or.inr (hw _ (List.mem_of_getElem? (i := 39) rfl))) (Or.inr (hw _ (List.mem_of_getElem? (i := 41) rfl))) (by decide) (t := (.array .int)) (t' := .long) (by decide) (by decide)))
  have K19 : Keep h0 h19 [a0] := K18.wr W19 (Or.inl (List.mem_of_getElem? (i := 0) rfl))
  have Z19 : n0 ≤ h19.size := Nat.le_trans Z18 (Keep.of_wr W19).1
  have hk19 := Nat.le_trans hk18 (Keep.of_wr W19).1
  have N19 := Fr.snoc X19 N18 g_a0
  refine own_back (b := T19.setTop (mkF m 209 #[.val (.ref a0), .val (.ref a1), .val (.ref a2), .val (.long ((0 : Int64) + ((sv0.toInt64) * ((1 : Int32).toInt64)))), .second, .val (.int (1 : Int32)), .val (.int sv0), .val (.int (1 : Int32))] [])) (fun t kt => ?_) ?_
  · show Steps p.tables e below (s₁.setTop (mkF m 0 #[.val (.ref a0), .val (.ref a1), .val (.ref a2), .unset, .unset, .unset, .unset, .unset] [])) _
    refine XS.aloadN X0.here hx rfl (hb hby d1_0) rfl rfl ?_
    show Steps p.tables e below (s₁.setTop (mkF m 1 #[.val (.ref a0), .val (.ref a1), .val (.ref a2), .unset, .unset, .unset, .unset, .unset] [(.ref a0)])) _
    refine st1 _ ?_
    show Steps p.tables e below (T1.setTop (mkF m 4 #[.val (.ref a0), .val (.ref a1), .val (.ref a2), .unset, .unset, .unset, .unset, .unset] [])) _
    refine XS.aloadN X1.here hx rfl (hb hby d1_4) rfl rfl ?_
    show Steps p.tables e below (T1.setTop (mkF m 5 #[.val (.ref a0), .val (.ref a1), .val (.ref a2), .unset, .unset, .unset, .unset, .unset] [(.ref a1)])) _
    refine st2 _ ?_
    show Steps p.tables e below (T2.setTop (mkF m 7 #[.val (.ref a0), .val (.ref a1), .val (.ref a2), .unset, .unset, .unset, .unset, .unset] [(.ref c2), (.ref a1)])) _
    refine st3 _ ?_
    show Steps p.tables e below (T3.setTop (mkF m 10 #[.val (.ref a0), .val (.ref a1), .val (.ref a2), .unset, .unset, .unset, .unset, .unset] [(.ref a1)])) _
    refine XS.pop X3.here hx rfl (hb hby d1_10) rfl rfl ?_
    show Steps p.tables e below (T3.setTop (mkF m 11 #[.val (.ref a0), .val (.ref a1), .val (.ref a2), .unset, .unset, .unset, .unset, .unset] [])) _
    refine XS.aloadN X3.here hx rfl (hb hby d1_11) rfl rfl ?_
    show Steps p.tables e below (T3.setTop (mkF m 12 #[.val (.ref a0), .val (.ref a1), .val (.ref a2), .unset, .unset, .unset, .unset, .unset] [(.ref a2)])) _
    refine st4 _ ?_
    show Steps p.tables e below (T4.setTop (mkF m 14 #[.val (.ref a0), .val (.ref a1), .val (.ref a2), .unset, .unset, .unset, .unset, .unset] [(.ref c4), (.ref a2)])) _
    refine st5 _ ?_
    show Steps p.tables e below (T5.setTop (mkF m 17 #[.val (.ref a0), .val (.ref a1), .val (.ref a2), .unset, .unset, .unset, .unset, .unset] [(.ref a2)])) _
    refine XS.pop X5.here hx rfl (hb hby d1_17) rfl rfl ?_
    show Steps p.tables e below (T5.setTop (mkF m 18 #[.val (.ref a0), .val (.ref a1), .val (.ref a2), .unset, .unset, .unset, .unset, .unset] [])) _
    refine XS.aloadN X5.here hx rfl (hb hby d1_18) rfl rfl ?_
    show Steps p.tables e below (T5.setTop (mkF m 19 #[.val (.ref a0), .val (.ref a1), .val (.ref a2), .unset, .unset, .unset, .unset, .unset] [(.ref a1)])) _
    refine X5.arraylength hx (by rw [e5]; exact Ar6.1) (State.isArrayOf_alike hZ.alike Ar6.2.1) (g := (mkF m 19 #[.val (.ref a0), .val (.ref a1), .val (.ref a2), .unset, .unset, .unset, .unset, .unset] [(.ref a1)])) rfl rfl (hb hby d1_19) _ ?_
    rw [len_of S6 N6']
    show Steps p.tables e below (T5.setTop (mkF m 20 #[.val (.ref a0), .val (.ref a1), .val (.ref a2), .unset, .unset, .unset, .unset, .unset] [(.int (1 : Int32))])) _
    refine XS.ifYes X5.here hx rfl (pc0 := 20) (pc' := 33) rfl (hb hby d1_20) rfl ((if0 _ _).trans (feq (by decide : ¬ ((1 : Int32) = (0 : Int32)))).2) (by decide) (by decide) ?_
    show Steps p.tables e below (T5.setTop (mkF m 33 #[.val (.ref a0), .val (.ref a1), .val (.ref a2), .unset, .unset, .unset, .unset, .unset] [])) _
    refine XS.aloadN X5.here hx rfl (hb hby d1_33) rfl rfl ?_
    show Steps p.tables e below (T5.setTop (mkF m 34 #[.val (.ref a0), .val (.ref a1), .val (.ref a2), .unset, .unset, .unset, .unset, .unset] [(.ref a1)])) _
    refine X5.arraylength hx (by rw [e5]; exact Ar7.1) (State.isArrayOf_alike hZ.alike Ar7.2.1) (g := (mkF m 34 #[.val (.ref a0), .val (.ref a1), .val (.ref a2), .unset, .unset, .unset, .unset, .unset] [(.ref a1)])) rfl rfl (hb hby d1_34) _ ?_
    rw [len_of S7 N7']
    show Steps p.tables e below (T5.setTop (mkF m 35 #[.val (.ref a0), .val (.ref a1), .val (.ref a2), .unset, .unset, .unset, .unset, .unset] [(.int (1 : Int32))])) _
    refine XS.aloadN X5.here hx rfl (hb hby d1_35) rfl rfl ?_
    show Steps p.tables e below (T5.setTop (mkF m 36 #[.val (.ref a0), .val (.ref a1), .val (.ref a2), .unset, .unset, .unset, .unset, .unset] [(.ref a2), (.int (1 : Int32))])) _
    refine X5.arraylength hx (by rw [e5]; exact Ar8.1) (State.isArrayOf_alike hZ.alike Ar8.2.1) (g := (mkF m 36 #[.val (.ref a0), .val (.ref a1), .val (.ref a2), .unset, .unset, .unset, .unset, .unset] [(.ref a2), (.int (1 : Int32))])) rfl rfl (hb hby d1_36) _ ?_
    rw [len_of S8 N8']
    show Steps p.tables e below (T5.setTop (mkF m 37 #[.val (.ref a0), .val (.ref a1), .val (.ref a2), .unset, .unset, .unset, .unset, .unset] [(.int (1 : Int32)), (.int (1 : Int32))])) _
    refine XS.icmpYes X5.here hx rfl (pc0 := 37) (pc' := 57) rfl (hb hby d1_37) rfl (teq (by decide : (1 : Int32) = (1 : Int32))).1 (by decide) (by decide) ?_
    show Steps p.tables e below (T5.setTop (mkF m 57 #[.val (.ref a0), .val (.ref a1), .val (.ref a2), .unset, .unset, .unset, .unset, .unset] [])) _
    refine XS.lconst X5.here hx rfl (hb hby d1_57) ?_
    show Steps p.tables e below (T5.setTop (mkF m 58 #[.val (.ref a0), .val (.ref a1), .val (.ref a2), .unset, .unset, .unset, .unset, .unset] [(.long (0 : Int64))])) _
    refine XS.lstoreN X5.here hx rfl (hb hby d1_58) rfl (l' := #[.val (.ref a0), .val (.ref a1), .val (.ref a2), .val (.long (0 : Int64)), .second, .unset, .unset, .unset]) rfl ?_
    show Steps p.tables e below (T5.setTop (mkF m 59 #[.val (.ref a0), .val (.ref a1), .val (.ref a2), .val (.long (0 : Int64)), .second, .unset, .unset, .unset] [])) _
    refine XS.iconst X5.here hx rfl (hb hby d1_59) ?_
    show Steps p.tables e below (T5.setTop (mkF m 60 #[.val (.ref a0), .val (.ref a1), .val (.ref a2), .val (.long (0 : Int64)), .second, .unset, .unset, .unset] [(.int (0 : Int32))])) _
    refine XS.istore X5.here hx rfl (hb hby d1_60) rfl (l' := #[.val (.ref a0), .val (.ref a1), .val (.ref a2), .val (.long (0 : Int64)), .second, .val (.int (0 : Int32)), .unset, .unset]) rfl ?_
    show Steps p.tables e below (T5.setTop (mkF m 62 #[.val (.ref a0), .val (.ref a1), .val (.ref a2), .val (.long (0 : Int64)), .second, .val (.int (0 : Int32)), .unset, .unset] [])) _
    refine XS.iload X5.here hx rfl (hb hby d1_62) rfl ?_
    show Steps p.tables e below (T5.setTop (mkF m 64 #[.val (.ref a0), .val (.ref a1), .val (.ref a2), .val (.long (0 : Int64)), .second, .val (.int (0 : Int32)), .unset, .unset] [(.int (0 : Int32))])) _
    refine XS.aloadN X5.here hx rfl (hb hby d1_64) rfl rfl ?_
    show Steps p.tables e below (T5.setTop (mkF m 65 #[.val (.ref a0), .val (.ref a1), .val (.ref a2), .val (.long (0 : Int64)), .second, .val (.int (0 : Int32)), .unset, .unset] [(.ref a1), (.int (0 : Int32))])) _
    refine X5.arraylength hx (by rw [e5]; exact Ar9.1) (State.isArrayOf_alike hZ.alike Ar9.2.1) (g := (mkF m 65 #[.val (.ref a0), .val (.ref a1), .val (.ref a2), .val (.long (0 : Int64)), .second, .val (.int (0 : Int32)), .unset, .unset] [(.ref a1), (.int (0 : Int32))])) rfl rfl (hb hby d1_65) _ ?_
    rw [len_of S9 N9']
    show Steps p.tables e below (T5.setTop (mkF m 66 #[.val (.ref a0), .val (.ref a1), .val (.ref a2), .val (.long (0 : Int64)), .second, .val (.int (0 : Int32)), .unset, .unset] [(.int (1 : Int32)), (.int (0 : Int32))])) _
    refine XS.icmpNo X5.here hx rfl (hb hby d1_66) rfl (tlt (by decide : (0 : Int32) < (1 : Int32))).2.1 ?_
    show Steps p.tables e below (T5.setTop (mkF m 69 #[.val (.ref a0), .val (.ref a1), .val (.ref a2), .val (.long (0 : Int64)), .second, .val (.int (0 : Int32)), .unset, .unset] [])) _
    refine XS.aloadN X5.here hx rfl (hb hby d1_69) rfl rfl ?_
    show Steps p.tables e below (T5.setTop (mkF m 70 #[.val (.ref a0), .val (.ref a1), .val (.ref a2), .val (.long (0 : Int64)), .second, .val (.int (0 : Int32)), .unset, .unset] [(.ref a1)])) _
    refine XS.iload X5.here hx rfl (hb hby d1_70) rfl ?_
    show Steps p.tables e below (T5.setTop (mkF m 72 #[.val (.ref a0), .val (.ref a1), .val (.ref a2), .val (.long (0 : Int64)), .second, .val (.int (0 : Int32)), .unset, .unset] [(.int (0 : Int32)), (.ref a1)])) _
    refine X5.iaload hx (j := (0 : Int32)) (v := (.int sv0)) (by rw [e5]; exact Ar10.1) (State.isArrayOf_alike hZ.alike Ar10.2.1) Ar10.2.2 hin10 hat10 (g := (mkF m 72 #[.val (.ref a0), .val (.ref a1), .val (.ref a2), .val (.long (0 : Int64)), .second, .val (.int (0 : Int32)), .unset, .unset] [(.int (0 : Int32)), (.ref a1)])) rfl rfl (hb hby d1_72) _ ?_
    show Steps p.tables e below (T5.setTop (mkF m 73 #[.val (.ref a0), .val (.ref a1), .val (.ref a2), .val (.long (0 : Int64)), .second, .val (.int (0 : Int32)), .unset, .unset] [(.int sv0)])) _
    refine XS.istore X5.here hx rfl (hb hby d1_73) rfl (l' := #[.val (.ref a0), .val (.ref a1), .val (.ref a2), .val (.long (0 : Int64)), .second, .val (.int (0 : Int32)), .val (.int sv0), .unset]) rfl ?_
    show Steps p.tables e below (T5.setTop (mkF m 75 #[.val (.ref a0), .val (.ref a1), .val (.ref a2), .val (.long (0 : Int64)), .second, .val (.int (0 : Int32)), .val (.int sv0), .unset] [])) _
    refine XS.aloadN X5.here hx rfl (hb hby d1_75) rfl rfl ?_
    show Steps p.tables e below (T5.setTop (mkF m 76 #[.val (.ref a0), .val (.ref a1), .val (.ref a2), .val (.long (0 : Int64)), .second, .val (.int (0 : Int32)), .val (.int sv0), .unset] [(.ref a2)])) _
    refine XS.iload X5.here hx rfl (hb hby d1_76) rfl ?_
    show Steps p.tables e below (T5.setTop (mkF m 78 #[.val (.ref a0), .val (.ref a1), .val (.ref a2), .val (.long (0 : Int64)), .second, .val (.int (0 : Int32)), .val (.int sv0), .unset] [(.int (0 : Int32)), (.ref a2)])) _
    refine X5.iaload hx (j := (0 : Int32)) (v := (.int (1 : Int32))) (by rw [e5]; exact Ar11.1) (State.isArrayOf_alike hZ.alike Ar11.2.1) Ar11.2.2 hin11 hat11 (g := (mkF m 78 #[.val (.ref a0), .val (.ref a1), .val (.ref a2), .val (.long (0 : Int64)), .second, .val (.int (0 : Int32)), .val (.int sv0), .unset] [(.int (0 : Int32)), (.ref a2)])) rfl rfl (hb hby d1_78) _ ?_
    show Steps p.tables e below (T5.setTop (mkF m 79 #[.val (.ref a0), .val (.ref a1), .val (.ref a2), .val (.long (0 : Int64)), .second, .val (.int (0 : Int32)), .val (.int sv0), .unset] [(.int (1 : Int32))])) _
    refine XS.istore X5.here hx rfl (hb hby d1_79) rfl (l' := #[.val (.ref a0), .val (.ref a1), .val (.ref a2), .val (.long (0 : Int64)), .second, .val (.int (0 : Int32)), .val (.int sv0), .val (.int (1 : Int32))]) rfl ?_
    show Steps p.tables e below (T5.setTop (mkF m 81 #[.val (.ref a0), .val (.ref a1), .val (.ref a2), .val (.long (0 : Int64)), .second, .val (.int (0 : Int32)), .val (.int sv0), .val (.int (1 : Int32))] [])) _
    refine XS.iload X5.here hx rfl (hb hby d1_81) rfl ?_
    show Steps p.tables e below (T5.setTop (mkF m 83 #[.val (.ref a0), .val (.ref a1), .val (.ref a2), .val (.long (0 : Int64)), .second, .val (.int (0 : Int32)), .val (.int sv0), .val (.int (1 : Int32))] [(.int sv0)])) _
    refine XS.iconst X5.here hx rfl (hb hby d1_83) ?_
    show Steps p.tables e below (T5.setTop (mkF m 84 #[.val (.ref a0), .val (.ref a1), .val (.ref a2), .val (.long (0 : Int64)), .second, .val (.int (0 : Int32)), .val (.int sv0), .val (.int (1 : Int32))] [(.int (1 : Int32)), (.int sv0)])) _
    refine XS.icmpYes X5.here hx rfl (pc0 := 84) (pc' := 104) rfl (hb hby d1_84) rfl (flt hps0).2.1 (by decide) (by decide) ?_
    show Steps p.tables e below (T5.setTop (mkF m 104 #[.val (.ref a0), .val (.ref a1), .val (.ref a2), .val (.long (0 : Int64)), .second, .val (.int (0 : Int32)), .val (.int sv0), .val (.int (1 : Int32))] [])) _
    refine XS.iload X5.here hx rfl (hb hby d1_104) rfl ?_
    show Steps p.tables e below (T5.setTop (mkF m 106 #[.val (.ref a0), .val (.ref a1), .val (.ref a2), .val (.long (0 : Int64)), .second, .val (.int (0 : Int32)), .val (.int sv0), .val (.int (1 : Int32))] [(.int (1 : Int32))])) _
    refine XS.iconst X5.here hx rfl (hb hby d1_106) ?_
    show Steps p.tables e below (T5.setTop (mkF m 107 #[.val (.ref a0), .val (.ref a1), .val (.ref a2), .val (.long (0 : Int64)), .second, .val (.int (0 : Int32)), .val (.int sv0), .val (.int (1 : Int32))] [(.int (1 : Int32)), (.int (1 : Int32))])) _
    refine XS.icmpYes X5.here hx rfl (pc0 := 107) (pc' := 127) rfl (hb hby d1_107) rfl (flt (by decide : ¬ ((1 : Int32) < (1 : Int32)))).2.1 (by decide) (by decide) ?_
    show Steps p.tables e below (T5.setTop (mkF m 127 #[.val (.ref a0), .val (.ref a1), .val (.ref a2), .val (.long (0 : Int64)), .second, .val (.int (0 : Int32)), .val (.int sv0), .val (.int (1 : Int32))] [])) _
    refine XS.iload X5.here hx rfl (hb hby d1_127) rfl ?_
    show Steps p.tables e below (T5.setTop (mkF m 129 #[.val (.ref a0), .val (.ref a1), .val (.ref a2), .val (.long (0 : Int64)), .second, .val (.int (0 : Int32)), .val (.int sv0), .val (.int (1 : Int32))] [(.int (0 : Int32))])) _
    refine XS.ifYes X5.here hx rfl (pc0 := 129) (pc' := 166) rfl (hb hby d1_129) rfl ((if0 _ _).trans (flt (by decide : ¬ ((0 : Int32) < (0 : Int32)))).2.2.2) (by decide) (by decide) ?_
    show Steps p.tables e below (T5.setTop (mkF m 166 #[.val (.ref a0), .val (.ref a1), .val (.ref a2), .val (.long (0 : Int64)), .second, .val (.int (0 : Int32)), .val (.int sv0), .val (.int (1 : Int32))] [])) _
    refine XS.lloadN X5.here hx rfl (hb hby d1_166) rfl ?_
    show Steps p.tables e below (T5.setTop (mkF m 167 #[.val (.ref a0), .val (.ref a1), .val (.ref a2), .val (.long (0 : Int64)), .second, .val (.int (0 : Int32)), .val (.int sv0), .val (.int (1 : Int32))] [(.long (0 : Int64))])) _
    refine XS.iload X5.here hx rfl (hb hby d1_167) rfl ?_
    show Steps p.tables e below (T5.setTop (mkF m 169 #[.val (.ref a0), .val (.ref a1), .val (.ref a2), .val (.long (0 : Int64)), .second, .val (.int (0 : Int32)), .val (.int sv0), .val (.int (1 : Int32))] [(.int sv0), (.long (0 : Int64))])) _
    refine XS.i2l X5.here hx rfl (hb hby d1_169) rfl ?_
    show Steps p.tables e below (T5.setTop (mkF m 170 #[.val (.ref a0), .val (.ref a1), .val (.ref a2), .val (.long (0 : Int64)), .second, .val (.int (0 : Int32)), .val (.int sv0), .val (.int (1 : Int32))] [(.long (sv0.toInt64)), (.long (0 : Int64))])) _
    refine XS.iload X5.here hx rfl (hb hby d1_170) rfl ?_
    show Steps p.tables e below (T5.setTop (mkF m 172 #[.val (.ref a0), .val (.ref a1), .val (.ref a2), .val (.long (0 : Int64)), .second, .val (.int (0 : Int32)), .val (.int sv0), .val (.int (1 : Int32))] [(.int (1 : Int32)), (.long (sv0.toInt64)), (.long (0 : Int64))])) _
    refine XS.i2l X5.here hx rfl (hb hby d1_172) rfl ?_
    show Steps p.tables e below (T5.setTop (mkF m 173 #[.val (.ref a0), .val (.ref a1), .val (.ref a2), .val (.long (0 : Int64)), .second, .val (.int (0 : Int32)), .val (.int sv0), .val (.int (1 : Int32))] [(.long ((1 : Int32).toInt64)), (.long (sv0.toInt64)), (.long (0 : Int64))])) _
    refine XS.lmul X5.here hx rfl (hb hby d1_173) rfl ?_
    show Steps p.tables e below (T5.setTop (mkF m 174 #[.val (.ref a0), .val (.ref a1), .val (.ref a2), .val (.long (0 : Int64)), .second, .val (.int (0 : Int32)), .val (.int sv0), .val (.int (1 : Int32))] [(.long ((sv0.toInt64) * ((1 : Int32).toInt64))), (.long (0 : Int64))])) _
    refine XS.ladd X5.here hx rfl (hb hby d1_174) rfl ?_
    show Steps p.tables e below (T5.setTop (mkF m 175 #[.val (.ref a0), .val (.ref a1), .val (.ref a2), .val (.long (0 : Int64)), .second, .val (.int (0 : Int32)), .val (.int sv0), .val (.int (1 : Int32))] [(.long ((0 : Int64) + ((sv0.toInt64) * ((1 : Int32).toInt64))))])) _
    refine XS.lstoreN X5.here hx rfl (hb hby d1_175) rfl (l' := #[.val (.ref a0), .val (.ref a1), .val (.ref a2), .val (.long ((0 : Int64) + ((sv0.toInt64) * ((1 : Int32).toInt64)))), .second, .val (.int (0 : Int32)), .val (.int sv0), .val (.int (1 : Int32))]) rfl ?_
    show Steps p.tables e below (T5.setTop (mkF m 176 #[.val (.ref a0), .val (.ref a1), .val (.ref a2), .val (.long ((0 : Int64) + ((sv0.toInt64) * ((1 : Int32).toInt64)))), .second, .val (.int (0 : Int32)), .val (.int sv0), .val (.int (1 : Int32))] [])) _
    refine XS.iinc X5.here hx rfl (hb hby d1_176) rfl (l' := #[.val (.ref a0), .val (.ref a1), .val (.ref a2), .val (.long ((0 : Int64) + ((sv0.toInt64) * ((1 : Int32).toInt64)))), .second, .val (.int (1 : Int32)), .val (.int sv0), .val (.int (1 : Int32))]) rfl ?_
    show Steps p.tables e below (T5.setTop (mkF m 179 #[.val (.ref a0), .val (.ref a1), .val (.ref a2), .val (.long ((0 : Int64) + ((sv0.toInt64) * ((1 : Int32).toInt64)))), .second, .val (.int (1 : Int32)), .val (.int sv0), .val (.int (1 : Int32))] [])) _
    refine XS.goto X5.here hx rfl (pc0 := 179) (pc' := 62) rfl (hb hby d1_179) (by decide) (by decide) ?_
    show Steps p.tables e below (T5.setTop (mkF m 62 #[.val (.ref a0), .val (.ref a1), .val (.ref a2), .val (.long ((0 : Int64) + ((sv0.toInt64) * ((1 : Int32).toInt64)))), .second, .val (.int (1 : Int32)), .val (.int sv0), .val (.int (1 : Int32))] [])) _
    refine XS.iload X5.here hx rfl (hb hby d1_62) rfl ?_
    show Steps p.tables e below (T5.setTop (mkF m 64 #[.val (.ref a0), .val (.ref a1), .val (.ref a2), .val (.long ((0 : Int64) + ((sv0.toInt64) * ((1 : Int32).toInt64)))), .second, .val (.int (1 : Int32)), .val (.int sv0), .val (.int (1 : Int32))] [(.int (1 : Int32))])) _
    refine XS.aloadN X5.here hx rfl (hb hby d1_64) rfl rfl ?_
    show Steps p.tables e below (T5.setTop (mkF m 65 #[.val (.ref a0), .val (.ref a1), .val (.ref a2), .val (.long ((0 : Int64) + ((sv0.toInt64) * ((1 : Int32).toInt64)))), .second, .val (.int (1 : Int32)), .val (.int sv0), .val (.int (1 : Int32))] [(.ref a1), (.int (1 : Int32))])) _
    refine X5.arraylength hx (by rw [e5]; exact Ar12.1) (State.isArrayOf_alike hZ.alike Ar12.2.1) (g := (mkF m 65 #[.val (.ref a0), .val (.ref a1), .val (.ref a2), .val (.long ((0 : Int64) + ((sv0.toInt64) * ((1 : Int32).toInt64)))), .second, .val (.int (1 : Int32)), .val (.int sv0), .val (.int (1 : Int32))] [(.ref a1), (.int (1 : Int32))])) rfl rfl (hb hby d1_65) _ ?_
    rw [len_of S12 N12']
    show Steps p.tables e below (T5.setTop (mkF m 66 #[.val (.ref a0), .val (.ref a1), .val (.ref a2), .val (.long ((0 : Int64) + ((sv0.toInt64) * ((1 : Int32).toInt64)))), .second, .val (.int (1 : Int32)), .val (.int sv0), .val (.int (1 : Int32))] [(.int (1 : Int32)), (.int (1 : Int32))])) _
    refine XS.icmpYes X5.here hx rfl (pc0 := 66) (pc' := 182) rfl (hb hby d1_66) rfl (flt (by decide : ¬ ((1 : Int32) < (1 : Int32)))).2.1 (by decide) (by decide) ?_
    show Steps p.tables e below (T5.setTop (mkF m 182 #[.val (.ref a0), .val (.ref a1), .val (.ref a2), .val (.long ((0 : Int64) + ((sv0.toInt64) * ((1 : Int32).toInt64)))), .second, .val (.int (1 : Int32)), .val (.int sv0), .val (.int (1 : Int32))] [])) _
    refine XS.aloadN X5.here hx rfl (hb hby d1_182) rfl rfl ?_
    show Steps p.tables e below (T5.setTop (mkF m 183 #[.val (.ref a0), .val (.ref a1), .val (.ref a2), .val (.long ((0 : Int64) + ((sv0.toInt64) * ((1 : Int32).toInt64)))), .second, .val (.int (1 : Int32)), .val (.int sv0), .val (.int (1 : Int32))] [(.ref a0)])) _
    refine XS.aloadN X5.here hx rfl (hb hby d1_183) rfl rfl ?_
    show Steps p.tables e below (T5.setTop (mkF m 184 #[.val (.ref a0), .val (.ref a1), .val (.ref a2), .val (.long ((0 : Int64) + ((sv0.toInt64) * ((1 : Int32).toInt64)))), .second, .val (.int (1 : Int32)), .val (.int sv0), .val (.int (1 : Int32))] [(.ref a1), (.ref a0)])) _
    refine st13 _ ?_
    show Steps p.tables e below (T13.setTop (mkF m 187 #[.val (.ref a0), .val (.ref a1), .val (.ref a2), .val (.long ((0 : Int64) + ((sv0.toInt64) * ((1 : Int32).toInt64)))), .second, .val (.int (1 : Int32)), .val (.int sv0), .val (.int (1 : Int32))] [(.ref b13), (.ref a0)])) _
    refine st14 _ ?_
    show Steps p.tables e below (T14.setTop (mkF m 190 #[.val (.ref a0), .val (.ref a1), .val (.ref a2), .val (.long ((0 : Int64) + ((sv0.toInt64) * ((1 : Int32).toInt64)))), .second, .val (.int (1 : Int32)), .val (.int sv0), .val (.int (1 : Int32))] [(.ref b13), (.ref a0)])) _
    refine st15 _ ?_
    show Steps p.tables e below (T15.setTop (mkF m 193 #[.val (.ref a0), .val (.ref a1), .val (.ref a2), .val (.long ((0 : Int64) + ((sv0.toInt64) * ((1 : Int32).toInt64)))), .second, .val (.int (1 : Int32)), .val (.int sv0), .val (.int (1 : Int32))] [])) _
    refine XS.aloadN X15.here hx rfl (hb hby d1_193) rfl rfl ?_
    show Steps p.tables e below (T15.setTop (mkF m 194 #[.val (.ref a0), .val (.ref a1), .val (.ref a2), .val (.long ((0 : Int64) + ((sv0.toInt64) * ((1 : Int32).toInt64)))), .second, .val (.int (1 : Int32)), .val (.int sv0), .val (.int (1 : Int32))] [(.ref a0)])) _
    refine XS.aloadN X15.here hx rfl (hb hby d1_194) rfl rfl ?_
    show Steps p.tables e below (T15.setTop (mkF m 195 #[.val (.ref a0), .val (.ref a1), .val (.ref a2), .val (.long ((0 : Int64) + ((sv0.toInt64) * ((1 : Int32).toInt64)))), .second, .val (.int (1 : Int32)), .val (.int sv0), .val (.int (1 : Int32))] [(.ref a2), (.ref a0)])) _
    refine st16 _ ?_
    show Steps p.tables e below (T16.setTop (mkF m 198 #[.val (.ref a0), .val (.ref a1), .val (.ref a2), .val (.long ((0 : Int64) + ((sv0.toInt64) * ((1 : Int32).toInt64)))), .second, .val (.int (1 : Int32)), .val (.int sv0), .val (.int (1 : Int32))] [(.ref b16), (.ref a0)])) _
    refine st17 _ ?_
    show Steps p.tables e below (T17.setTop (mkF m 201 #[.val (.ref a0), .val (.ref a1), .val (.ref a2), .val (.long ((0 : Int64) + ((sv0.toInt64) * ((1 : Int32).toInt64)))), .second, .val (.int (1 : Int32)), .val (.int sv0), .val (.int (1 : Int32))] [(.ref b16), (.ref a0)])) _
    refine st18 _ ?_
    show Steps p.tables e below (T18.setTop (mkF m 204 #[.val (.ref a0), .val (.ref a1), .val (.ref a2), .val (.long ((0 : Int64) + ((sv0.toInt64) * ((1 : Int32).toInt64)))), .second, .val (.int (1 : Int32)), .val (.int sv0), .val (.int (1 : Int32))] [])) _
    refine XS.aloadN X18.here hx rfl (hb hby d1_204) rfl rfl ?_
    show Steps p.tables e below (T18.setTop (mkF m 205 #[.val (.ref a0), .val (.ref a1), .val (.ref a2), .val (.long ((0 : Int64) + ((sv0.toInt64) * ((1 : Int32).toInt64)))), .second, .val (.int (1 : Int32)), .val (.int sv0), .val (.int (1 : Int32))] [(.ref a0)])) _
    refine XS.lloadN X18.here hx rfl (hb hby d1_205) rfl ?_
    show Steps p.tables e below (T18.setTop (mkF m 206 #[.val (.ref a0), .val (.ref a1), .val (.ref a2), .val (.long ((0 : Int64) + ((sv0.toInt64) * ((1 : Int32).toInt64)))), .second, .val (.int (1 : Int32)), .val (.int sv0), .val (.int (1 : Int32))] [(.long ((0 : Int64) + ((sv0.toInt64) * ((1 : Int32).toInt64)))), (.ref a0)])) _
    refine st19 _ ?_
    exact kt
  obtain ⟨fs, hr, hrun, hended, hEnd⟩ := Stand.leaveW (s := s) X19 hS4 (by rw [e19]; exact hk19) (v := none) (fun _ => rfl) (BodyLoose.notSynchronized Bd)
  refine ⟨_, _, ?_, hrun, hended, _, _, rfl, ?_, own_endW hEnd (by decide) (by decide)⟩
  · show Steps p.tables e below (T19.setTop (mkF m 209 #[.val (.ref a0), .val (.ref a1), .val (.ref a2), .val (.long ((0 : Int64) + ((sv0.toInt64) * ((1 : Int32).toInt64)))), .second, .val (.int (1 : Int32)), .val (.int sv0), .val (.int (1 : Int32))] [])) _
    exact X19.returnOut hx Bd.returns (hb hby d1_209) hr
  · show Q1a Z a0 a1 a2 kx1 kx2 sv0 h0 n0 _ T19.heap _
    rw [e19]
    exact ⟨b13, rfl, N19, K19, f19_0, f19_7, f19_5⟩
theorem d4_0 : decode prog_14_method_6_code 0 = .ok (.lload_n 1, 1) := by decide +kernel
theorem d4_1 : decode prog_14_method_6_code 1 = .ok (.lconst 0, 1) := by decide +kernel
theorem d4_2 : decode prog_14_method_6_code 2 = .ok (.lcmp, 1) := by decide +kernel
theorem d4_3 : decode prog_14_method_6_code 3 = .ok (.ifCond .ge 17, 3) := by decide +kernel
theorem d4_20 : decode prog_14_method_6_code 20 = .ok (.iconst (-1), 1) := by decide +kernel
theorem d4_21 : decode prog_14_method_6_code 21 = .ok (.istore_n 3, 1) := by decide +kernel
theorem d4_22 : decode prog_14_method_6_code 22 = .ok (.iconst 0, 1) := by decide +kernel
theorem d4_23 : decode prog_14_method_6_code 23 = .ok (.istore 4, 2) := by decide +kernel
theorem d4_25 : decode prog_14_method_6_code 25 = .ok (.iload 4, 2) := by decide +kernel
theorem d4_27 : decode prog_14_method_6_code 27 = .ok (.aload_n 0, 1) := by decide +kernel
theorem d4_28 : decode prog_14_method_6_code 28 = .ok (.getfield 39, 3) := by decide +kernel
theorem d4_31 : decode prog_14_method_6_code 31 = .ok (.arraylength, 1) := by decide +kernel
theorem d4_32 : decode prog_14_method_6_code 32 = .ok (.if_icmp .ge 28, 3) := by decide +kernel
theorem d4_35 : decode prog_14_method_6_code 35 = .ok (.aload_n 0, 1) := by decide +kernel
theorem d4_36 : decode prog_14_method_6_code 36 = .ok (.getfield 39, 3) := by decide +kernel
theorem d4_39 : decode prog_14_method_6_code 39 = .ok (.iload 4, 2) := by decide +kernel
theorem d4_41 : decode prog_14_method_6_code 41 = .ok (.iaload, 1) := by decide +kernel
theorem d4_42 : decode prog_14_method_6_code 42 = .ok (.i2l, 1) := by decide +kernel
theorem d4_43 : decode prog_14_method_6_code 43 = .ok (.lload_n 1, 1) := by decide +kernel
theorem d4_44 : decode prog_14_method_6_code 44 = .ok (.lcmp, 1) := by decide +kernel
theorem d4_45 : decode prog_14_method_6_code 45 = .ok (.ifCond .lt 9, 3) := by decide +kernel
theorem d4_48 : decode prog_14_method_6_code 48 = .ok (.iload 4, 2) := by decide +kernel
theorem d4_50 : decode prog_14_method_6_code 50 = .ok (.istore_n 3, 1) := by decide +kernel
theorem d4_51 : decode prog_14_method_6_code 51 = .ok (.goto 9, 3) := by decide +kernel
theorem d4_54 : decode prog_14_method_6_code 54 = .ok (.iinc 4 1, 3) := by decide +kernel
theorem d4_57 : decode prog_14_method_6_code 57 = .ok (.goto (-32), 3) := by decide +kernel
theorem d4_60 : decode prog_14_method_6_code 60 = .ok (.iload_n 3, 1) := by decide +kernel
theorem d4_61 : decode prog_14_method_6_code 61 = .ok (.ireturn, 1) := by decide +kernel
theorem pn_4a : plainName "com/example/byteloom/byteloom/SectionLayout" = true := by first | (simp [plainName, overriddenIn]; done) | decide +kernel
theorem ef_4a (m : MethodId) (x0 : Addr) (x1 : Int64) : entryFrame m #[(.ref x0), (.long x1)] 5 = mkF m 0 #[.val (.ref x0), .val (.long x1), .second, .unset, .unset] [] := by first | (simp [entryFrame, mkF, argsToLocals, Value.category]; done) | rfl
def f4a (q1 : Int64) (sv0 : Int32) : Int32 := (if (sv0.toInt64) < q1 then (-1 : Int32) else (0 : Int32))
def Q4a (Z : State) (a0 : Addr) (q1 : Int64) (av : Addr) (kA : ClassId) (sv0 : Int32) (h0 : Heap) (n0 : Nat) (v : Option Value) (h : Heap) (L : List Loc) : Prop := v = some (.int (f4a q1 sv0)) ∧ Fr n0 L ∧ h = h0
set_option maxRecDepth 65536 in
set_option maxHeartbeats 40000000 in
theorem rm4a (l : Launch) (Z : State) (aw : Array Value) (hw : ∀ d ∈ tables_1, d.before aw Z = true) (ws : List Jvm.Cond) (a0 : Addr) (q1 : Int64) (av : Addr) (kA : ClassId) (sv0 : Int32) (h0 : Heap) (n0 : Nat) (Z0 : n0 ≤ h0.size) (F_blockSizes_a0 : Fld Z h0 a0 "com/example/byteloom/byteloom/SectionLayout" "blockSizes" "[I" (.ref av)) (V_av : Arv Z h0 av kA .int (1 : Int32) [(.int sv0)] (.int (0 : Int32))) (hq : ¬ (q1 < (0 : Int64))) :
    MetFree l (⟨"com/example/byteloom/byteloom/SectionLayout", "sectionFor", "(J)I"⟩ : MethodName) (head1 (Jvm.Cond.code (⟨"com/example/byteloom/byteloom/SectionLayout", "sectionFor", "(J)I"⟩ : MethodName) prog_14_method_6_code 5 (some .int) :: ws) ({ frames := 0, cells := 0, slots := 0, locals := 0 } : Room)) (fun a U => a = #[(.ref a0), (.long q1)] ∧ Z.Warmed39 U.vm ∧ U.heap = h0) (fun _ _ _ _ _ => True) (fun _ U o U' => ∃ v L, o = .returned v ∧ Q4a Z a0 q1 av kA sv0 h0 n0 v U'.heap L ∧ FrameEnd U o U' L ({ frames := 0, cells := 0, slots := 0, locals := 0 } : Room).cells ({ frames := 0, cells := 0, slots := 0, locals := 0 } : Room).slots) := by
  refine MetFree.of_bodySF (plainFor_of_name pn_4a) hisR ?_
  intro p e s m args below meth c s₁ Bd hml0 hP hK
  obtain ⟨rfl, hZ, hh⟩ := hP
  have hx := Bd.exec
  have hby := Bd.bytes
  have hml : c.maxLocals = 5 := hml0
  have hown : s.vm.findClass "com/example/byteloom/byteloom/SectionLayout" = some m.cls := findClass_of_methodNamed Bd.named
  have hnm := (name_of_methodNamed Bd.named Bd.method).1
  have X0 : Stand p l e ({ frames := 0, cells := 0, slots := 0, locals := 0 } : Room) s m #[(.ref a0), (.long q1)] below meth c s₁ [] 0 0 := Stand.of_body Bd
  have e0 : s₁.heap = h0 := by rw [← hh, Bd.state]; rfl
  have N0 := Fr.nil n0
  refine own_back (b := s₁.setTop (mkF m 0 #[.val (.ref a0), .val (.long q1), .second, .unset, .unset] [])) (fun t kt => castTop (ef_4a m a0 q1) kt) ?_
  obtain ⟨T1, X1, e1, st1⟩ := getF X0 hx hZ hown (host := "") (Or.inl (hw _ (List.mem_of_getElem? (i := 36) rfl))) Via.refl e0 F_blockSizes_a0 (g := (mkF m 28 #[.val (.ref a0), .val (.long q1), .second, .val (.int (-1 : Int32)), .val (.int (0 : Int32))] [(.ref a0), (.int (0 : Int32))])) rfl rfl (hb hby d4_28)
  obtain ⟨cl2, Ar2, qk2, S2, N2', -, -⟩ := own_same V_av
  obtain ⟨T3, X3, e3, st3⟩ := getF X1 hx hZ hown (host := "") (Or.inl (hw _ (List.mem_of_getElem? (i := 36) rfl))) Via.refl e1 F_blockSizes_a0 (g := (mkF m 36 #[.val (.ref a0), .val (.long q1), .second, .val (.int (-1 : Int32)), .val (.int (0 : Int32))] [(.ref a0)])) rfl rfl (hb hby d4_36)
  obtain ⟨cl4, Ar4, qk4, S4, N4', Hh4, G4⟩ := own_same V_av
  have hin4 : ¬ ((0 : Int32) < 0 ∨ cl4.slots.size ≤ ((0 : Int32)).toNatClampNeg) := inb_of S4 ⟨by decide, by decide⟩
  have hat4 : cl4.slots[((0 : Int32)).toNatClampNeg]? = some (.int sv0) := Has.at Hh4 hin4 rfl
  refine own_back (b := T3.setTop (mkF m 45 #[.val (.ref a0), .val (.long q1), .second, .val (.int (-1 : Int32)), .val (.int (0 : Int32))] [(.int (lcmpW (sv0.toInt64) q1))])) (fun t kt => ?_) ?_
  · show Steps p.tables e below (s₁.setTop (mkF m 0 #[.val (.ref a0), .val (.long q1), .second, .unset, .unset] [])) _
    refine XS.lloadN X0.here hx rfl (hb hby d4_0) rfl ?_
    show Steps p.tables e below (s₁.setTop (mkF m 1 #[.val (.ref a0), .val (.long q1), .second, .unset, .unset] [(.long q1)])) _
    refine XS.lconst X0.here hx rfl (hb hby d4_1) ?_
    show Steps p.tables e below (s₁.setTop (mkF m 2 #[.val (.ref a0), .val (.long q1), .second, .unset, .unset] [(.long (0 : Int64)), (.long q1)])) _
    refine XS.lcmp X0.here hx rfl (hb hby d4_2) rfl ?_
    show Steps p.tables e below (s₁.setTop (mkF m 3 #[.val (.ref a0), .val (.long q1), .second, .unset, .unset] [(.int (lcmpW q1 (0 : Int64)))])) _
    refine XS.ifYes X0.here hx rfl (pc0 := 3) (pc' := 20) rfl (hb hby d4_3) rfl ((if0 _ _).trans (flt (fun q => hq ((lw_lt _ _).mp q))).2.1) (by decide) (by decide) ?_
    show Steps p.tables e below (s₁.setTop (mkF m 20 #[.val (.ref a0), .val (.long q1), .second, .unset, .unset] [])) _
    refine XS.iconst X0.here hx rfl (hb hby d4_20) ?_
    show Steps p.tables e below (s₁.setTop (mkF m 21 #[.val (.ref a0), .val (.long q1), .second, .unset, .unset] [(.int (-1 : Int32))])) _
    refine XS.istoreN X0.here hx rfl (hb hby d4_21) rfl (l' := #[.val (.ref a0), .val (.long q1), .second, .val (.int (-1 : Int32)), .unset]) rfl ?_
    show Steps p.tables e below (s₁.setTop (mkF m 22 #[.val (.ref a0), .val (.long q1), .second, .val (.int (-1 : Int32)), .unset] [])) _
    refine XS.iconst X0.here hx rfl (hb hby d4_22) ?_
    show Steps p.tables e below (s₁.setTop (mkF m 23 #[.val (.ref a0), .val (.long q1), .second, .val (.int (-1 : Int32)), .unset] [(.int (0 : Int32))])) _
    refine XS.istore X0.here hx rfl (hb hby d4_23) rfl (l' := #[.val (.ref a0), .val (.long q1), .second, .val (.int (-1 : Int32)), .val (.int (0 : Int32))]) rfl ?_
    show Steps p.tables e below (s₁.setTop (mkF m 25 #[.val (.ref a0), .val (.long q1), .second, .val (.int (-1 : Int32)), .val (.int (0 : Int32))] [])) _
    refine XS.iload X0.here hx rfl (hb hby d4_25) rfl ?_
    show Steps p.tables e below (s₁.setTop (mkF m 27 #[.val (.ref a0), .val (.long q1), .second, .val (.int (-1 : Int32)), .val (.int (0 : Int32))] [(.int (0 : Int32))])) _
    refine XS.aloadN X0.here hx rfl (hb hby d4_27) rfl rfl ?_
    show Steps p.tables e below (s₁.setTop (mkF m 28 #[.val (.ref a0), .val (.long q1), .second, .val (.int (-1 : Int32)), .val (.int (0 : Int32))] [(.ref a0), (.int (0 : Int32))])) _
    refine st1 _ ?_
    show Steps p.tables e below (T1.setTop (mkF m 31 #[.val (.ref a0), .val (.long q1), .second, .val (.int (-1 : Int32)), .val (.int (0 : Int32))] [(.ref av), (.int (0 : Int32))])) _
    refine X1.arraylength hx (by rw [e1]; exact Ar2.1) (State.isArrayOf_alike hZ.alike Ar2.2.1) (g := (mkF m 31 #[.val (.ref a0), .val (.long q1), .second, .val (.int (-1 : Int32)), .val (.int (0 : Int32))] [(.ref av), (.int (0 : Int32))])) rfl rfl (hb hby d4_31) _ ?_
    rw [len_of S2 N2']
    show Steps p.tables e below (T1.setTop (mkF m 32 #[.val (.ref a0), .val (.long q1), .second, .val (.int (-1 : Int32)), .val (.int (0 : Int32))] [(.int (1 : Int32)), (.int (0 : Int32))])) _
    refine XS.icmpNo X1.here hx rfl (hb hby d4_32) rfl (tlt (by decide : (0 : Int32) < (1 : Int32))).2.1 ?_
    show Steps p.tables e below (T1.setTop (mkF m 35 #[.val (.ref a0), .val (.long q1), .second, .val (.int (-1 : Int32)), .val (.int (0 : Int32))] [])) _
    refine XS.aloadN X1.here hx rfl (hb hby d4_35) rfl rfl ?_
    show Steps p.tables e below (T1.setTop (mkF m 36 #[.val (.ref a0), .val (.long q1), .second, .val (.int (-1 : Int32)), .val (.int (0 : Int32))] [(.ref a0)])) _
    refine st3 _ ?_
    show Steps p.tables e below (T3.setTop (mkF m 39 #[.val (.ref a0), .val (.long q1), .second, .val (.int (-1 : Int32)), .val (.int (0 : Int32))] [(.ref av)])) _
    refine XS.iload X3.here hx rfl (hb hby d4_39) rfl ?_
    show Steps p.tables e below (T3.setTop (mkF m 41 #[.val (.ref a0), .val (.long q1), .second, .val (.int (-1 : Int32)), .val (.int (0 : Int32))] [(.int (0 : Int32)), (.ref av)])) _
    refine X3.iaload hx (j := (0 : Int32)) (v := (.int sv0)) (by rw [e3]; exact Ar4.1) (State.isArrayOf_alike hZ.alike Ar4.2.1) Ar4.2.2 hin4 hat4 (g := (mkF m 41 #[.val (.ref a0), .val (.long q1), .second, .val (.int (-1 : Int32)), .val (.int (0 : Int32))] [(.int (0 : Int32)), (.ref av)])) rfl rfl (hb hby d4_41) _ ?_
    show Steps p.tables e below (T3.setTop (mkF m 42 #[.val (.ref a0), .val (.long q1), .second, .val (.int (-1 : Int32)), .val (.int (0 : Int32))] [(.int sv0)])) _
    refine XS.i2l X3.here hx rfl (hb hby d4_42) rfl ?_
    show Steps p.tables e below (T3.setTop (mkF m 43 #[.val (.ref a0), .val (.long q1), .second, .val (.int (-1 : Int32)), .val (.int (0 : Int32))] [(.long (sv0.toInt64))])) _
    refine XS.lloadN X3.here hx rfl (hb hby d4_43) rfl ?_
    show Steps p.tables e below (T3.setTop (mkF m 44 #[.val (.ref a0), .val (.long q1), .second, .val (.int (-1 : Int32)), .val (.int (0 : Int32))] [(.long q1), (.long (sv0.toInt64))])) _
    refine XS.lcmp X3.here hx rfl (hb hby d4_44) rfl ?_
    exact kt
  by_cases hc45_5 : (sv0.toInt64) < q1
  · obtain ⟨T6, X6, e6, st6⟩ := getF X3 hx hZ hown (host := "") (Or.inl (hw _ (List.mem_of_getElem? (i := 36) rfl))) Via.refl e3 F_blockSizes_a0 (g := (mkF m 28 #[.val (.ref a0), .val (.long q1), .second, .val (.int (-1 : Int32)), .val (.int (1 : Int32))] [(.ref a0), (.int (1 : Int32))])) rfl rfl (hb hby d4_28)
    obtain ⟨cl7, Ar7, qk7, S7, N7', -, -⟩ := own_same V_av
    refine own_back (b := T6.setTop (mkF m 61 #[.val (.ref a0), .val (.long q1), .second, .val (.int (-1 : Int32)), .val (.int (1 : Int32))] [(.int (-1 : Int32))])) (fun t kt => ?_) ?_
    · show Steps p.tables e below (T3.setTop (mkF m 45 #[.val (.ref a0), .val (.long q1), .second, .val (.int (-1 : Int32)), .val (.int (0 : Int32))] [(.int (lcmpW (sv0.toInt64) q1))])) _
      refine XS.ifYes X3.here hx rfl (pc0 := 45) (pc' := 54) rfl (hb hby d4_45) rfl ((if0 _ _).trans (tlt ((lw_lt _ _).mpr hc45_5)).1) (by decide) (by decide) ?_
      show Steps p.tables e below (T3.setTop (mkF m 54 #[.val (.ref a0), .val (.long q1), .second, .val (.int (-1 : Int32)), .val (.int (0 : Int32))] [])) _
      refine XS.iinc X3.here hx rfl (hb hby d4_54) rfl (l' := #[.val (.ref a0), .val (.long q1), .second, .val (.int (-1 : Int32)), .val (.int (1 : Int32))]) rfl ?_
      show Steps p.tables e below (T3.setTop (mkF m 57 #[.val (.ref a0), .val (.long q1), .second, .val (.int (-1 : Int32)), .val (.int (1 : Int32))] [])) _
      refine XS.goto X3.here hx rfl (pc0 := 57) (pc' := 25) rfl (hb hby d4_57) (by decide) (by decide) ?_
      show Steps p.tables e below (T3.setTop (mkF m 25 #[.val (.ref a0), .val (.long q1), .second, .val (.int (-1 : Int32)), .val (.int (1 : Int32))] [])) _
      refine XS.iload X3.here hx rfl (hb hby d4_25) rfl ?_
      show Steps p.tables e below (T3.setTop (mkF m 27 #[.val (.ref a0), .val (.long q1), .second, .val (.int (-1 : Int32)), .val (.int (1 : Int32))] [(.int (1 : Int32))])) _
      refine XS.aloadN X3.here hx rfl (hb hby d4_27) rfl rfl ?_
      show Steps p.tables e below (T3.setTop (mkF m 28 #[.val (.ref a0), .val (.long q1), .second, .val (.int (-1 : Int32)), .val (.int (1 : Int32))] [(.ref a0), (.int (1 : Int32))])) _
      refine st6 _ ?_
      show Steps p.tables e below (T6.setTop (mkF m 31 #[.val (.ref a0), .val (.long q1), .second, .val (.int (-1 : Int32)), .val (.int (1 : Int32))] [(.ref av), (.int (1 : Int32))])) _
      refine X6.arraylength hx (by rw [e6]; exact Ar7.1) (State.isArrayOf_alike hZ.alike Ar7.2.1) (g := (mkF m 31 #[.val (.ref a0), .val (.long q1), .second, .val (.int (-1 : Int32)), .val (.int (1 : Int32))] [(.ref av), (.int (1 : Int32))])) rfl rfl (hb hby d4_31) _ ?_
      rw [len_of S7 N7']
      show Steps p.tables e below (T6.setTop (mkF m 32 #[.val (.ref a0), .val (.long q1), .second, .val (.int (-1 : Int32)), .val (.int (1 : Int32))] [(.int (1 : Int32)), (.int (1 : Int32))])) _
      refine XS.icmpYes X6.here hx rfl (pc0 := 32) (pc' := 60) rfl (hb hby d4_32) rfl (flt (by decide : ¬ ((1 : Int32) < (1 : Int32)))).2.1 (by decide) (by decide) ?_
      show Steps p.tables e below (T6.setTop (mkF m 60 #[.val (.ref a0), .val (.long q1), .second, .val (.int (-1 : Int32)), .val (.int (1 : Int32))] [])) _
      refine XS.iloadN X6.here hx rfl (hb hby d4_60) rfl ?_
      exact kt
    obtain ⟨fs, hr, hrun, hended, hW, hsame⟩ := X6.leave (v := some (.int (-1 : Int32))) (fun h => by rw [Bd.returns] at h; cases h) (BodyLoose.notSynchronized Bd)
    refine ⟨_, _, ?_, hrun, hended, _, _, rfl, ?_, ⟨_, rfl⟩, hW, hsame.mono (by decide) (by decide)⟩
    · show Steps p.tables e below (T6.setTop (mkF m 61 #[.val (.ref a0), .val (.long q1), .second, .val (.int (-1 : Int32)), .val (.int (1 : Int32))] [(.int (-1 : Int32))])) _
      exact retI X6 hx Bd.returns (hb hby d4_61) hr
    · show Q4a Z a0 q1 av kA sv0 h0 n0 _ T6.heap _
      rw [e6]
      exact ⟨by rw [show f4a q1 sv0 = (-1 : Int32) from by unfold f4a; rw [if_pos hc45_5]], N0, rfl⟩
  · refine own_back (b := T3.setTop (mkF m 61 #[.val (.ref a0), .val (.long q1), .second, .val (.int (0 : Int32)), .val (.int (0 : Int32))] [(.int (0 : Int32))])) (fun t kt => ?_) ?_
    · show Steps p.tables e below (T3.setTop (mkF m 45 #[.val (.ref a0), .val (.long q1), .second, .val (.int (-1 : Int32)), .val (.int (0 : Int32))] [(.int (lcmpW (sv0.toInt64) q1))])) _
      refine XS.ifNo X3.here hx rfl (hb hby d4_45) rfl ((if0 _ _).trans (flt (fun q => hc45_5 ((lw_lt _ _).mp q))).1) ?_
      show Steps p.tables e below (T3.setTop (mkF m 48 #[.val (.ref a0), .val (.long q1), .second, .val (.int (-1 : Int32)), .val (.int (0 : Int32))] [])) _
      refine XS.iload X3.here hx rfl (hb hby d4_48) rfl ?_
      show Steps p.tables e below (T3.setTop (mkF m 50 #[.val (.ref a0), .val (.long q1), .second, .val (.int (-1 : Int32)), .val (.int (0 : Int32))] [(.int (0 : Int32))])) _
      refine XS.istoreN X3.here hx rfl (hb hby d4_50) rfl (l' := #[.val (.ref a0), .val (.long q1), .second, .val (.int (0 : Int32)), .val (.int (0 : Int32))]) rfl ?_
      show Steps p.tables e below (T3.setTop (mkF m 51 #[.val (.ref a0), .val (.long q1), .second, .val (.int (0 : Int32)), .val (.int (0 : Int32))] [])) _
      refine XS.goto X3.here hx rfl (pc0 := 51) (pc' := 60) rfl (hb hby d4_51) (by decide) (by decide) ?_
      show Steps p.tables e below (T3.setTop (mkF m 60 #[.val (.ref a0), .val (.long q1), .second, .val (.int (0 : Int32)), .val (.int (0 : Int32))] [])) _
      refine XS.iloadN X3.here hx rfl (hb hby d4_60) rfl ?_
      exact kt
    obtain ⟨fs, hr, hrun, hended, hW, hsame⟩ := X3.leave (v := some (.int (0 : Int32))) (fun h => by rw [Bd.returns] at h; cases h) (BodyLoose.notSynchronized Bd)
    refine ⟨_, _, ?_, hrun, hended, _, _, rfl, ?_, ⟨_, rfl⟩, hW, hsame.mono (by decide) (by decide)⟩
    · show Steps p.tables e below (T3.setTop (mkF m 61 #[.val (.ref a0), .val (.long q1), .second, .val (.int (0 : Int32)), .val (.int (0 : Int32))] [(.int (0 : Int32))])) _
      exact retI X3 hx Bd.returns (hb hby d4_61) hr
    · show Q4a Z a0 q1 av kA sv0 h0 n0 _ T3.heap _
      rw [e3]
      exact ⟨by rw [show f4a q1 sv0 = (0 : Int32) from by unfold f4a; rw [if_neg hc45_5]], N0, rfl⟩
theorem d1_132 : decode prog_14_method_1_code 132 = .ok (.iload 6, 2) := by decide +kernel
theorem d1_134 : decode prog_14_method_1_code 134 = .ok (.aload_n 1, 1) := by decide +kernel
theorem d1_135 : decode prog_14_method_1_code 135 = .ok (.iload 5, 2) := by decide +kernel
theorem d1_137 : decode prog_14_method_1_code 137 = .ok (.iconst 1, 1) := by decide +kernel
theorem d1_138 : decode prog_14_method_1_code 138 = .ok (.isub, 1) := by decide +kernel
theorem d1_139 : decode prog_14_method_1_code 139 = .ok (.iaload, 1) := by decide +kernel
theorem d1_140 : decode prog_14_method_1_code 140 = .ok (.if_icmp .gt 26, 3) := by decide +kernel
theorem pn_1b : plainName "com/example/byteloom/byteloom/SectionLayout" = true := by first | (simp [plainName, overriddenIn]; done) | decide +kernel
theorem pd_1b_0 : parseMethodDescriptor "(Ljava/lang/Object;Ljava/lang/String;)Ljava/lang/Object;" = some ⟨[(.object "java/lang/Object"), (.object "java/lang/String")], some (.object "java/lang/Object")⟩ := by decide +kernel
theorem ef_1b (m : MethodId) (x0 : Addr) (x1 : Addr) (x2 : Addr) : entryFrame m #[(.ref x0), (.ref x1), (.ref x2)] 8 = mkF m 0 #[.val (.ref x0), .val (.ref x1), .val (.ref x2), .unset, .unset, .unset, .unset, .unset] [] := by first | (simp [entryFrame, mkF, argsToLocals, Value.category]; done) | rfl
def Q1b (Z : State) (a0 : Addr) (a1 : Addr) (a2 : Addr) (kx1 : ClassId) (kx2 : ClassId) (sv0 : Int32) (sv1 : Int32) (h0 : Heap) (n0 : Nat) (v : Option Value) (h : Heap) (L : List Loc) : Prop := ∃ (bb : Addr), v = none ∧ Fr n0 L ∧ Keep h0 h [a0] ∧ Exa Z h a0 "com/example/byteloom/byteloom/SectionLayout" ∧ Fld Z h a0 "com/example/byteloom/byteloom/SectionLayout" "blockSizes" "[I" (.ref bb) ∧ Arv Z h bb kx1 .int (2 : Int32) [(.int sv0), (.int sv1)] (.int (0 : Int32))
set_option maxRecDepth 65536 in
set_option maxHeartbeats 40000000 in
theorem rm1b (l : Launch) (Z : State) (aw : Array Value) (hw : ∀ d ∈ tables_1, d.before aw Z = true) (ws : List Jvm.Cond) (a0 : Addr) (a1 : Addr) (a2 : Addr) (kx1 : ClassId) (kx2 : ClassId) (sv0 : Int32) (sv1 : Int32) (h0 : Heap) (n0 : Nat) (Z0 : n0 ≤ h0.size) (F_blockSizes_a0 : Fld Z h0 a0 "com/example/byteloom/byteloom/SectionLayout" "blockSizes" "[I" .null) (F_blockCounts_a0 : Fld Z h0 a0 "com/example/byteloom/byteloom/SectionLayout" "blockCounts" "[I" .null) (F_reservedBytes_a0 : Fld Z h0 a0 "com/example/byteloom/byteloom/SectionLayout" "reservedBytes" "J" (.long (0 : Int64))) (E_a0 : Exa Z h0 a0 "com/example/byteloom/byteloom/SectionLayout") (g_a0 : n0 ≤ a0) (V_a1 : Arv Z h0 a1 kx1 .int (2 : Int32) [(.int sv0), (.int sv1)] (.int (0 : Int32))) (V_a2 : Arv Z h0 a2 kx2 .int (2 : Int32) [(.int (1 : Int32)), (.int (1 : Int32))] (.int (0 : Int32))) (E_a1 : Exa Z h0 a1 "[I") (E_a2 : Exa Z h0 a2 "[I") (ne_a1_a0 : a1 ≠ a0) (ne_a2_a0 : a2 ≠ a0) (hps0 : ¬ (sv0 < (1 : Int32))) (hps1 : ¬ (sv1 < (1 : Int32))) (hpg0 : sv0 < sv1) :
    MetFree l (⟨"com/example/byteloom/byteloom/SectionLayout", "<init>", "([I[I)V"⟩ : MethodName) (head1 (Jvm.Cond.code (⟨"com/example/byteloom/byteloom/SectionLayout", "<init>", "([I[I)V"⟩ : MethodName) prog_14_method_1_code 8 none :: ws) ({ frames := 1, cells := 6, slots := 96, locals := 15 } : Room)) (fun a U => a = #[(.ref a0), (.ref a1), (.ref a2)] ∧ Z.Warmed39 U.vm ∧ U.heap = h0) (fun _ _ _ _ _ => True) (fun _ U o U' => ∃ v L, o = .returned v ∧ Q1b Z a0 a1 a2 kx1 kx2 sv0 sv1 h0 n0 v U'.heap L ∧ ReturnedEndW U o U' L ({ frames := 1, cells := 6, slots := 96, locals := 15 } : Room).cells ({ frames := 1, cells := 6, slots := 96, locals := 15 } : Room).slots) := by
  refine MetFree.of_bodySF (plainFor_of_name pn_1b) hisR ?_
  intro p e s m args below meth c s₁ Bd hml0 hP hK
  obtain ⟨rfl, hZ, hh⟩ := hP
  have hx := Bd.exec
  have hby := Bd.bytes
  have hml : c.maxLocals = 8 := hml0
  have hown : s.vm.findClass "com/example/byteloom/byteloom/SectionLayout" = some m.cls := findClass_of_methodNamed Bd.named
  have hnm := (name_of_methodNamed Bd.named Bd.method).1
  have X0 : Stand p l e ({ frames := 1, cells := 6, slots := 96, locals := 15 } : Room) s m #[(.ref a0), (.ref a1), (.ref a2)] below meth c s₁ [] 0 0 := Stand.of_body Bd
  have e0 : s₁.heap = h0 := by rw [← hh, Bd.state]; rfl
  have N0 := Fr.nil n0
  refine own_back (b := s₁.setTop (mkF m 0 #[.val (.ref a0), .val (.ref a1), .val (.ref a2), .unset, .unset, .unset, .unset, .unset] [])) (fun t kt => castTop (ef_1b m a0 a1 a2) kt) ?_
  obtain ⟨T1, X1, e1, st1⟩ := initO X0 hx hZ hown (hw _ (List.mem_of_getElem? (i := 11) rfl)) (hw _ (List.mem_of_getElem? (i := 12) rfl)) (hw _ (List.mem_of_getElem? (i := 13) rfl)) e0 (g := (mkF m 1 #[.val (.ref a0), .val (.ref a1), .val (.ref a2), .unset, .unset, .unset, .unset, .unset] [(.ref a0)])) rfl (by rw [hml]; rfl) rfl (hb hby d1_1) (by decide) (W := 0) (by show 2 * 0 + _ ≤ _; exact Nat.le_of_eq rfl) (by decide)
  have wS : ∀ a ∈ Bundle.stringAtoms, a.before aw Z = true := by
    intro d hd
    simp only [Bundle.stringAtoms, List.mem_cons, List.not_mem_nil, or_false] at hd
    rcases hd with rfl | rfl | rfl | rfl | rfl | rfl | rfl
    · exact (hw _ (List.mem_of_getElem? (i := 15) rfl))
    · exact (hw _ (List.mem_of_getElem? (i := 16) rfl))
    · exact (hw _ (List.mem_of_getElem? (i := 17) rfl))
    · exact (hw _ (List.mem_of_getElem? (i := 18) rfl))
    · exact (hw _ (List.mem_of_getElem? (i := 19) rfl))
    · exact (hw _ (List.mem_of_getElem? (i := 20) rfl))
    · exact (hw _ (List.mem_of_getElem? (i := 21) rfl))
  obtain ⟨c2, T2, h2, k2, X2, e2, E2, hS2, hk2, hZ, hown, st2⟩ := ldcS (s := s) (vm0 := s.vm) X1 hx hZ hown (hw _ (List.mem_of_getElem? (i := 14) rfl)) wS e1 ((State.WarmedH.refl s).since 0) (Nat.zero_le _) (g := (mkF m 5 #[.val (.ref a0), .val (.ref a1), .val (.ref a2), .unset, .unset, .unset, .unset, .unset] [(.ref a1)])) rfl (hb hby d1_5) (n := 40) (by decide) (by decide) (by decide) (by decide)
  have f2_0 := F_blockSizes_a0.ext E2
  have f2_1 := F_blockCounts_a0.ext E2
  have f2_2 := F_reservedBytes_a0.ext E2
  have f2_3 := E_a0.ext E2
  have f2_4 := V_a1.ext E2
  have f2_5 := V_a2.ext E2
  have f2_6 := E_a1.ext E2
  have f2_7 := E_a2.ext E2
  have K2 : Keep h0 h2 [a0] := (Keep.refl h0 _).ext E2
  have Z2 : n0 ≤ h2.size := Nat.le_trans Z0 E2.1
  obtain ⟨_, _, ⟨T3, L3, k3, n3⟩, -, X3, ⟨Lc3, hQ3, l3, y3, z3⟩, st3⟩ := Jvm.LawKit.callS X2 hx (y := (⟨"java/util/Objects", "requireNonNull", "(Ljava/lang/Object;Ljava/lang/String;)Ljava/lang/Object;"⟩ : MethodName)) hown (mvT hZ (hw _ (List.mem_of_getElem? (i := 22) rfl))) (mvT hZ (hw _ (List.mem_of_getElem? (i := 23) rfl))) (mvT hZ (hw _ (List.mem_of_getElem? (i := 24) rfl))) (mvT hZ (hw _ (List.mem_of_getElem? (i := 25) rfl))) (by decide) (backOf (W := 0) (rm3 l Z aw hw [] a1 c2 h2 n0 Z2 ) hZ (hw _ (List.mem_of_getElem? (i := 25) rfl)) (hw _ (List.mem_of_getElem? (i := 24) rfl)) (by decide) (by decide)) (g := (mkF m 7 #[.val (.ref a0), .val (.ref a1), .val (.ref a2), .unset, .unset, .unset, .unset, .unset] [(.ref c2), (.ref a1)])) rfl (by rw [hml]; rfl) (argsL := [(.ref a1), (.ref c2)]) (rest := []) (lenOf pd_1b_0 rfl) rfl (by show 2 * 0 + _ ≤ _; exact Nat.le_of_eq rfl) (hb hby d1_7) (fun _ _ => ⟨rfl, e2, (by decide : 2 + 0 ≤ _), (by decide : 44 + 0 ≤ _)⟩)
  dsimp only [Pt.U, Pt.locs, Pt.cells, Pt.slots] at X3 l3 y3 z3 st3 hQ3
  rw [l3, y3, z3] at X3
  obtain ⟨rfl, Nq3, e3⟩ := hQ3
  have N3 := Fr.app N0 Nq3
  obtain ⟨c4, T4, h4, k4, X4, e4, E4, hS4, hk4, hZ, hown, st4⟩ := ldcS (s := s) (vm0 := T2.vm) X3 hx hZ hown (hw _ (List.mem_of_getElem? (i := 26) rfl)) wS e3 hS2 hk2 (g := (mkF m 12 #[.val (.ref a0), .val (.ref a1), .val (.ref a2), .unset, .unset, .unset, .unset, .unset] [(.ref a2)])) rfl (hb hby d1_12) (n := 44) (by decide) (by decide) (by decide) (by decide)
  have f4_0 := f2_0.ext E4
  have f4_1 := f2_1.ext E4
  have f4_2 := f2_2.ext E4
  have f4_3 := f2_3.ext E4
  have f4_4 := f2_4.ext E4
  have f4_5 := f2_5.ext E4
  have f4_6 := f2_6.ext E4
  have f4_7 := f2_7.ext E4
  have K4 := K2.ext E4
  have Z4 : n0 ≤ h4.size := Nat.le_trans Z2 E4.1
  obtain ⟨_, _, ⟨T5, L5, k5, n5⟩, -, X5, ⟨Lc5, hQ5, l5, y5, z5⟩, st5⟩ := Jvm.LawKit.callS X4 hx (y := (⟨"java/util/Objects", "requireNonNull", "(Ljava/lang/Object;Ljava/lang/String;)Ljava/lang/Object;"⟩ : MethodName)) hown (mvT hZ (hw _ (List.mem_of_getElem? (i := 22) rfl))) (mvT hZ (hw _ (List.mem_of_getElem? (i := 23) rfl))) (mvT hZ (hw _ (List.mem_of_getElem? (i := 24) rfl))) (mvT hZ (hw _ (List.mem_of_getElem? (i := 25) rfl))) (by decide) (backOf (W := 0) (rm3 l Z aw hw [] a2 c4 h4 n0 Z4 ) hZ (hw _ (List.mem_of_getElem? (i := 25) rfl)) (hw _ (List.mem_of_getElem? (i := 24) rfl)) (by decide) (by decide)) (g := (mkF m 14 #[.val (.ref a0), .val (.ref a1), .val (.ref a2), .unset, .unset, .unset, .unset, .unset] [(.ref c4), (.ref a2)])) rfl (by rw [hml]; rfl) (argsL := [(.ref a2), (.ref c4)]) (rest := []) (lenOf pd_1b_0 rfl) rfl (by show 2 * 0 + _ ≤ _; exact Nat.le_of_eq rfl) (hb hby d1_14) (fun _ _ => ⟨rfl, e4, (by decide : 4 + 0 ≤ _), (by decide : 92 + 0 ≤ _)⟩)
  dsimp only [Pt.U, Pt.locs, Pt.cells, Pt.slots] at X5 l5 y5 z5 st5 hQ5
  rw [l5, y5, z5] at X5
  obtain ⟨rfl, Nq5, e5⟩ := hQ5
  have N5 := Fr.app N3 Nq5
  obtain ⟨cl6, Ar6, qk6, S6, N6', -, -⟩ := own_same f4_4
  obtain ⟨cl7, Ar7, qk7, S7, N7', -, -⟩ := own_same f4_4
  obtain ⟨cl8, Ar8, qk8, S8, N8', -, -⟩ := own_same f4_5
  obtain ⟨cl9, Ar9, qk9, S9, N9', -, -⟩ := own_same f4_4
  obtain ⟨cl10, Ar10, qk10, S10, N10', Hh10, G10⟩ := own_same f4_4
  have hin10 : ¬ ((0 : Int32) < 0 ∨ cl10.slots.size ≤ ((0 : Int32)).toNatClampNeg) := inb_of S10 ⟨by decide, by decide⟩
  have hat10 : cl10.slots[((0 : Int32)).toNatClampNeg]? = some (.int sv0) := Has.at Hh10 hin10 rfl
  obtain ⟨cl11, Ar11, qk11, S11, N11', Hh11, G11⟩ := own_same f4_5
  have hin11 : ¬ ((0 : Int32) < 0 ∨ cl11.slots.size ≤ ((0 : Int32)).toNatClampNeg) := inb_of S11 ⟨by decide, by decide⟩
  have hat11 : cl11.slots[((0 : Int32)).toNatClampNeg]? = some (.int (1 : Int32)) := Has.at Hh11 hin11 rfl
  obtain ⟨cl12, Ar12, qk12, S12, N12', -, -⟩ := own_same f4_4
  obtain ⟨cl13, Ar13, qk13, S13, N13', Hh13, G13⟩ := own_same f4_4
  have hin13 : ¬ ((1 : Int32) < 0 ∨ cl13.slots.size ≤ ((1 : Int32)).toNatClampNeg) := inb_of S13 ⟨by decide, by decide⟩
  have hat13 : cl13.slots[((1 : Int32)).toNatClampNeg]? = some (.int sv1) := Has.at Hh13 hin13 rfl
  obtain ⟨cl14, Ar14, qk14, S14, N14', Hh14, G14⟩ := own_same f4_5
  have hin14 : ¬ ((1 : Int32) < 0 ∨ cl14.slots.size ≤ ((1 : Int32)).toNatClampNeg) := inb_of S14 ⟨by decide, by decide⟩
  have hat14 : cl14.slots[((1 : Int32)).toNatClampNeg]? = some (.int (1 : Int32)) := Has.at Hh14 hin14 rfl
  obtain ⟨cl15, Ar15, qk15, S15, N15', Hh15, G15⟩ := own_same f4_4
  have hin15 : ¬ ((0 : Int32) < 0 ∨ cl15.slots.size ≤ ((0 : Int32)).toNatClampNeg) := inb_of S15 ⟨by decide, by decide⟩
  have hat15 : cl15.slots[((0 : Int32)).toNatClampNeg]? = some (.int sv0) := Has.at Hh15 hin15 rfl
  obtain ⟨cl16, Ar16, qk16, S16, N16', -, -⟩ := own_same f4_4
  obtain ⟨T17, h17, X17, e17, E17, V17, A17, st17⟩ := cloneH X5 hx hZ hown (hw _ (List.mem_of_getElem? (i := 27) rfl)) (hw _ (List.mem_of_getElem? (i := 28) rfl)) (hw _ (List.mem_of_getElem? (i := 32) rfl)) (hw _ (List.mem_of_getElem? (i := 30) rfl)) (hw _ (List.mem_of_getElem? (i := 31) rfl)) (hw _ (List.mem_of_getElem? (i := 33) rfl)) e5 (hs := []) f4_4 f4_6 (g := (mkF m 184 #[.val (.ref a0), .val (.ref a1), .val (.ref a2), .val (.long (((0 : Int64) + ((sv0.toInt64) * ((1 : Int32).toInt64))) + ((sv1.toInt64) * ((1 : Int32).toInt64)))), .second, .val (.int (2 : Int32)), .val (.int sv1), .val (.int (1 : Int32))] [(.ref a1), (.ref a0)])) rfl (by rw [hml]; rfl) rfl (hb hby d1_184) (by decide) (W := 1) (by show 2 * 0 + _ ≤ _; exact Nat.le_of_eq rfl) (by decide) (cap := 2) (by decide) (by decide) (by decide)
  obtain ⟨b17, g17⟩ : ∃ z, z = h4.size := ⟨_, rfl⟩
  rw [← g17] at V17 A17 st17
  have ne17_a0 : a0 ≠ b17 := Nat.ne_of_lt (Nat.lt_of_lt_of_le f4_0.lt (Nat.le_of_eq g17.symm))
  have ne17_a1 : a1 ≠ b17 := Nat.ne_of_lt (Nat.lt_of_lt_of_le f4_4.lt (Nat.le_of_eq g17.symm))
  have ne17_a2 : a2 ≠ b17 := Nat.ne_of_lt (Nat.lt_of_lt_of_le f4_5.lt (Nat.le_of_eq g17.symm))
  have lo17 : n0 ≤ b17 := Nat.le_trans Z4 (Nat.le_of_eq g17.symm)
  have sz17 : h0.size ≤ b17 := Nat.le_trans K4.1 (Nat.le_of_eq g17.symm)
  have f17_0 := f4_0.ext E17
  have f17_1 := f4_1.ext E17
  have f17_2 := f4_2.ext E17
  have f17_3 := f4_3.ext E17
  have f17_4 := f4_4.ext E17
  have f17_5 := f4_5.ext E17
  have f17_6 := f4_6.ext E17
  have f17_7 := f4_7.ext E17
  have K17 := K4.ext E17
  have Z17 : n0 ≤ h17.size := Nat.le_trans Z4 E17.1
  have hk17 := Nat.le_trans hk4 E17.1
  have Vc17 : Arv Z h17 b17 kx1 .int (2 : Int32) [(.int sv0), (.int sv1)] (.int (0 : Int32)) := V17
  obtain ⟨T18, X18, e18, st18⟩ := castY X17 hx hZ hown (hw _ (List.mem_of_getElem? (i := 34) rfl)) e17 (Ins.self A17) (g := (mkF m 187 #[.val (.ref a0), .val (.ref a1), .val (.ref a2), .val (.long (((0 : Int64) + ((sv0.toInt64) * ((1 : Int32).toInt64))) + ((sv1.toInt64) * ((1 : Int32).toInt64)))), .second, .val (.int (2 : Int32)), .val (.int sv1), .val (.int (1 : Int32))] [(.ref b17), (.ref a0)])) rfl rfl (hb hby d1_187)
  obtain ⟨T19, h19, X19, e19, W19, st19⟩ := putF X18 hx hZ hown (host := "") (Or.inl (hw _ (List.mem_of_getElem? (i := 36) rfl))) Via.refl e18 f17_0 f17_3 (Or.inr ⟨(hw _ (List.mem_of_getElem? (i := 37) rfl)), rfl, hnm⟩) (hw _ (List.mem_of_getElem? (i := 5) rfl)) (ty := (.array .int)) (by decide) rfl rfl (g := (mkF m 190 #[.val (.ref a0), .val (.ref a1), .val (.ref a2), .val (.long (((0 : Int64) + ((sv0.toInt64) * ((1 : Int32).toInt64))) + ((sv1.toInt64) * ((1 : Int32).toInt64)))), .second, .val (.int (2 : Int32)), .val (.int sv1), .val (.int (1 : Int32))] [(.ref b17), (.ref a0)])) rfl rfl (hb hby d1_190)
  have Fw19 := f17_0.same W19
  have f19_0 := f17_1.other W19 (Or.inr (slot_ne (Or.inr (hw _ (List.mem_of_getElem? (i := 39) rfl))) (Or.inr (hw _ (List.mem_of_getElem? (i := 37) rfl))) (by decide) (t := (.array .int)) (t' := (.array .int)) (by decide) (by decide)))
  have f19_1 := f17_2.other W19 (Or.inr (slot_ne (Or.inr (hw _ (List.mem_of_getElem? (i := 41) rfl))) (Or.inr (hw _ (List.mem_of_getElem? (i := 37) rfl))) (by decide) (t := .long) (t' := (.array .int)) (by decide) (by decide)))
  have f19_2 := f17_3.wr W19
  have f19_3 := f17_4.other W19 ne_a1_a0
  have f19_4 := f17_5.other W19 ne_a2_a0
  have f19_5 := f17_6.wr W19
  have f19_6 := f17_7.wr W19
  have f19_7 := Vc17.other W19 (Ne.symm ne17_a0)
  have f19_8 := A17.wr W19
  have K19 : Keep h0 h19 [a0] := K17.wr W19 (Or.inl (List.mem_of_getElem? (i := 0) rfl))
  have Z19 : n0 ≤ h19.size := Nat.le_trans Z17 (Keep.of_wr W19).1
  have hk19 := Nat.le_trans hk17 (Keep.of_wr W19).1
  have N19 := Fr.snoc X19 N5 g_a0
  obtain ⟨T20, h20, X20, e20, E20, V20, A20, st20⟩ := cloneH X19 hx hZ hown (hw _ (List.mem_of_getElem? (i := 27) rfl)) (hw _ (List.mem_of_getElem? (i := 28) rfl)) (hw _ (List.mem_of_getElem? (i := 32) rfl)) (hw _ (List.mem_of_getElem? (i := 30) rfl)) (hw _ (List.mem_of_getElem? (i := 31) rfl)) (hw _ (List.mem_of_getElem? (i := 33) rfl)) e19 (hs := []) f19_4 f19_6 (g := (mkF m 195 #[.val (.ref a0), .val (.ref a1), .val (.ref a2), .val (.long (((0 : Int64) + ((sv0.toInt64) * ((1 : Int32).toInt64))) + ((sv1.toInt64) * ((1 : Int32).toInt64)))), .second, .val (.int (2 : Int32)), .val (.int sv1), .val (.int (1 : Int32))] [(.ref a2), (.ref a0)])) rfl (by rw [hml]; rfl) rfl (hb hby d1_195) (by decide) (W := 1) (by show 2 * 0 + _ ≤ _; exact Nat.le_of_eq rfl) (by decide) (cap := 2) (by decide) (by decide) (by decide)
  obtain ⟨b20, g20⟩ : ∃ z, z = h19.size := ⟨_, rfl⟩
  rw [← g20] at V20 A20 st20
  have ne20_a0 : a0 ≠ b20 := Nat.ne_of_lt (Nat.lt_of_lt_of_le f19_0.lt (Nat.le_of_eq g20.symm))
  have ne20_a1 : a1 ≠ b20 := Nat.ne_of_lt (Nat.lt_of_lt_of_le f19_3.lt (Nat.le_of_eq g20.symm))
  have ne20_a2 : a2 ≠ b20 := Nat.ne_of_lt (Nat.lt_of_lt_of_le f19_4.lt (Nat.le_of_eq g20.symm))
  have ne20_b17 : b17 ≠ b20 := Nat.ne_of_lt (Nat.lt_of_lt_of_le f19_7.lt (Nat.le_of_eq g20.symm))
  have lo20 : n0 ≤ b20 := Nat.le_trans Z19 (Nat.le_of_eq g20.symm)
  have sz20 : h0.size ≤ b20 := Nat.le_trans K19.1 (Nat.le_of_eq g20.symm)
  have f20_0 := f19_0.ext E20
  have f20_1 := f19_1.ext E20
  have f20_2 := f19_2.ext E20
  have f20_3 := f19_3.ext E20
  have f20_4 := f19_4.ext E20
  have f20_5 := f19_5.ext E20
  have f20_6 := f19_6.ext E20
  have f20_7 := f19_7.ext E20
  have f20_8 := f19_8.ext E20
  have f20_9 := Fw19.ext E20
  have K20 := K19.ext E20
  have Z20 : n0 ≤ h20.size := Nat.le_trans Z19 E20.1
  have hk20 := Nat.le_trans hk19 E20.1
  have Vc20 : Arv Z h20 b20 kx2 .int (2 : Int32) [(.int (1 : Int32)), (.int (1 : Int32))] (.int (0 : Int32)) := V20
  obtain ⟨T21, X21, e21, st21⟩ := castY X20 hx hZ hown (hw _ (List.mem_of_getElem? (i := 34) rfl)) e20 (Ins.self A20) (g := (mkF m 198 #[.val (.ref a0), .val (.ref a1), .val (.ref a2), .val (.long (((0 : Int64) + ((sv0.toInt64) * ((1 : Int32).toInt64))) + ((sv1.toInt64) * ((1 : Int32).toInt64)))), .second, .val (.int (2 : Int32)), .val (.int sv1), .val (.int (1 : Int32))] [(.ref b20), (.ref a0)])) rfl rfl (hb hby d1_198)
  obtain ⟨T22, h22, X22, e22, W22, st22⟩ := putF X21 hx hZ hown (host := "") (Or.inl (hw _ (List.mem_of_getElem? (i := 38) rfl))) Via.refl e21 f20_0 f20_2 (Or.inr ⟨(hw _ (List.mem_of_getElem? (i := 39) rfl)), rfl, hnm⟩) (hw _ (List.mem_of_getElem? (i := 5) rfl)) (ty := (.array .int)) (by decide) rfl rfl (g := (mkF m 201 #[.val (.ref a0), .val (.ref a1), .val (.ref a2), .val (.long (((0 : Int64) + ((sv0.toInt64) * ((1 : Int32).toInt64))) + ((sv1.toInt64) * ((1 : Int32).toInt64)))), .second, .val (.int (2 : Int32)), .val (.int sv1), .val (.int (1 : Int32))] [(.ref b20), (.ref a0)])) rfl rfl (hb hby d1_201)
  have Fw22 := f20_0.same W22
  have f22_0 := f20_1.other W22 (Or.inr (slot_ne (Or.inr (hw _ (List.mem_of_getElem? (i := 41) rfl))) (Or.inr (hw _ (List.mem_of_getElem? (i := 39) rfl))) (by decide) (t := .long) (t' := (.array .int)) (by decide) (by decide)))
  have f22_1 := f20_2.wr W22
  have f22_2 := f20_3.other W22 ne_a1_a0
  have f22_3 := f20_4.other W22 ne_a2_a0
  have f22_4 := f20_5.wr W22
  have f22_5 := f20_6.wr W22
  have f22_6 := f20_7.other W22 (Ne.symm ne17_a0)
  have f22_7 := f20_8.wr W22
  have f22_8 := f20_9.other W22 (Or.inr (slot_ne (Or.inr (hw _ (List.mem_of_getElem? (i := 37) rfl))) (Or.inr (hw _ (List.mem_of_getElem? (i := 39) rfl))) (by decide) (t := (.array .int)) (t' := (.array .int)) (by decide) (by decide)))
  have f22_9 := Vc20.other W22 (Ne.symm ne20_a0)
  have f22_10 := A20.wr W22
  have K22 : Keep h0 h22 [a0] := K20.wr W22 (Or.inl (List.mem_of_getElem? (i := 0) rfl))
  have Z22 : n0 ≤ h22.size := Nat.le_trans Z20 (Keep.of_wr W22).1
  have hk22 := Nat.le_trans hk20 (Keep.of_wr W22).1
  have N22 := Fr.snoc X22 N19 g_a0
  obtain ⟨T23, h23, X23, e23, W23, st23⟩ := putF X22 hx hZ hown (host := "") (Or.inl (hw _ (List.mem_of_getElem? (i := 40) rfl))) Via.refl e22 f22_0 f22_1 (Or.inr ⟨(hw _ (List.mem_of_getElem? (i := 41) rfl)), rfl, hnm⟩) (hw _ (List.mem_of_getElem? (i := 5) rfl)) (ty := .long) (by decide) rfl rfl (g := (mkF m 206 #[.val (.ref a0), .val (.ref a1), .val (.ref a2), .val (.long (((0 : Int64) + ((sv0.toInt64) * ((1 : Int32).toInt64))) + ((sv1.toInt64) * ((1 : Int32).toInt64)))), .second, .val (.int (2 : Int32)), .val (.int sv1), .val (.int (1 : Int32))] [(.long (((0 : Int64) + ((sv0.toInt64) * ((1 : Int32).toInt64))) + ((sv1.toInt64) * ((1 : Int32).toInt64)))), (.ref a0)])) rfl rfl (hb hby d1_206)
  have Fw23 := f22_0.same W23
  have f23_0 := f22_1.wr W23
  have f23_1 := f22_2.other W23 ne_a1_a0
  have f23_2 := f22_3.other W23 ne_a2_a0
  have f23_3 := f22_4.wr W23
  have f23_4 := f22_5.wr W23
  have f23_5 := f22_6.other W23 (Ne.symm ne17_a0)
  have f23_6 := f22_7.wr W23
  have f23_7 := f22_8.other W23 (Or.inr (slot_ne (Or.inr (hw _ (List.mem_of_getElem? (i := 37) rfl))) (Or.inr (hw _ (List.mem_of_getElem? (i := 41) rfl))) (by decide) (t := (.array .int)) (t' := .long) (by decide) (by decide)))
  have f23_8 := f22_9.other W23 (Ne.symm ne20_a0)
  have f23_9 := f22_10.wr W23
  have f23_10 := Fw22.other W23 (Or.inr (slot_ne (Or.inr (hw _ (List.mem_of_getElem? (i := 39) rfl))) (Or.inr (hw _ (List.mem_of_getElem? (i := 41) rfl))) (by decide) (t := (.array .int)) (t' := .long) (by decide) (by decide)))
  have K23 : Keep h0 h23 [a0] := K22.wr W23 (Or.inl (List.mem_of_getElem? (i := 0) rfl))
  have Z23 : n0 ≤ h23.size := Nat.le_trans Z22 (Keep.of_wr W23).1
  have hk23 := Nat.le_trans hk22 (Keep.of_wr W23).1
  have N23 := Fr.snoc X23 N22 g_a0
  refine own_back (b := T23.setTop (mkF m 209 #[.val (.ref a0), .val (.ref a1), .val (.ref a2), .val (.long (((0 : Int64) + ((sv0.toInt64) * ((1 : Int32).toInt64))) + ((sv1.toInt64) * ((1 : Int32).toInt64)))), .second, .val (.int (2 : Int32)), .val (.int sv1), .val (.int (1 : Int32))] [])) (fun t kt => ?_) ?_
  · show Steps p.tables e below (s₁.setTop (mkF m 0 #[.val (.ref a0), .val (.ref a1), .val (.ref a2), .unset, .unset, .unset, .unset, .unset] [])) _
    refine XS.aloadN X0.here hx rfl (hb hby d1_0) rfl rfl ?_
    show Steps p.tables e below (s₁.setTop (mkF m 1 #[.val (.ref a0), .val (.ref a1), .val (.ref a2), .unset, .unset, .unset, .unset, .unset] [(.ref a0)])) _
    refine st1 _ ?_
    show Steps p.tables e below (T1.setTop (mkF m 4 #[.val (.ref a0), .val (.ref a1), .val (.ref a2), .unset, .unset, .unset, .unset, .unset] [])) _
    refine XS.aloadN X1.here hx rfl (hb hby d1_4) rfl rfl ?_
    show Steps p.tables e below (T1.setTop (mkF m 5 #[.val (.ref a0), .val (.ref a1), .val (.ref a2), .unset, .unset, .unset, .unset, .unset] [(.ref a1)])) _
    refine st2 _ ?_
    show Steps p.tables e below (T2.setTop (mkF m 7 #[.val (.ref a0), .val (.ref a1), .val (.ref a2), .unset, .unset, .unset, .unset, .unset] [(.ref c2), (.ref a1)])) _
    refine st3 _ ?_
    show Steps p.tables e below (T3.setTop (mkF m 10 #[.val (.ref a0), .val (.ref a1), .val (.ref a2), .unset, .unset, .unset, .unset, .unset] [(.ref a1)])) _
    refine XS.pop X3.here hx rfl (hb hby d1_10) rfl rfl ?_
    show Steps p.tables e below (T3.setTop (mkF m 11 #[.val (.ref a0), .val (.ref a1), .val (.ref a2), .unset, .unset, .unset, .unset, .unset] [])) _
    refine XS.aloadN X3.here hx rfl (hb hby d1_11) rfl rfl ?_
    show Steps p.tables e below (T3.setTop (mkF m 12 #[.val (.ref a0), .val (.ref a1), .val (.ref a2), .unset, .unset, .unset, .unset, .unset] [(.ref a2)])) _
    refine st4 _ ?_
    show Steps p.tables e below (T4.setTop (mkF m 14 #[.val (.ref a0), .val (.ref a1), .val (.ref a2), .unset, .unset, .unset, .unset, .unset] [(.ref c4), (.ref a2)])) _
    refine st5 _ ?_
    show Steps p.tables e below (T5.setTop (mkF m 17 #[.val (.ref a0), .val (.ref a1), .val (.ref a2), .unset, .unset, .unset, .unset, .unset] [(.ref a2)])) _
    refine XS.pop X5.here hx rfl (hb hby d1_17) rfl rfl ?_
    show Steps p.tables e below (T5.setTop (mkF m 18 #[.val (.ref a0), .val (.ref a1), .val (.ref a2), .unset, .unset, .unset, .unset, .unset] [])) _
    refine XS.aloadN X5.here hx rfl (hb hby d1_18) rfl rfl ?_
    show Steps p.tables e below (T5.setTop (mkF m 19 #[.val (.ref a0), .val (.ref a1), .val (.ref a2), .unset, .unset, .unset, .unset, .unset] [(.ref a1)])) _
    refine X5.arraylength hx (by rw [e5]; exact Ar6.1) (State.isArrayOf_alike hZ.alike Ar6.2.1) (g := (mkF m 19 #[.val (.ref a0), .val (.ref a1), .val (.ref a2), .unset, .unset, .unset, .unset, .unset] [(.ref a1)])) rfl rfl (hb hby d1_19) _ ?_
    rw [len_of S6 N6']
    show Steps p.tables e below (T5.setTop (mkF m 20 #[.val (.ref a0), .val (.ref a1), .val (.ref a2), .unset, .unset, .unset, .unset, .unset] [(.int (2 : Int32))])) _
    refine XS.ifYes X5.here hx rfl (pc0 := 20) (pc' := 33) rfl (hb hby d1_20) rfl ((if0 _ _).trans (feq (by decide : ¬ ((2 : Int32) = (0 : Int32)))).2) (by decide) (by decide) ?_
    show Steps p.tables e below (T5.setTop (mkF m 33 #[.val (.ref a0), .val (.ref a1), .val (.ref a2), .unset, .unset, .unset, .unset, .unset] [])) _
    refine XS.aloadN X5.here hx rfl (hb hby d1_33) rfl rfl ?_
    show Steps p.tables e below (T5.setTop (mkF m 34 #[.val (.ref a0), .val (.ref a1), .val (.ref a2), .unset, .unset, .unset, .unset, .unset] [(.ref a1)])) _
    refine X5.arraylength hx (by rw [e5]; exact Ar7.1) (State.isArrayOf_alike hZ.alike Ar7.2.1) (g := (mkF m 34 #[.val (.ref a0), .val (.ref a1), .val (.ref a2), .unset, .unset, .unset, .unset, .unset] [(.ref a1)])) rfl rfl (hb hby d1_34) _ ?_
    rw [len_of S7 N7']
    show Steps p.tables e below (T5.setTop (mkF m 35 #[.val (.ref a0), .val (.ref a1), .val (.ref a2), .unset, .unset, .unset, .unset, .unset] [(.int (2 : Int32))])) _
    refine XS.aloadN X5.here hx rfl (hb hby d1_35) rfl rfl ?_
    show Steps p.tables e below (T5.setTop (mkF m 36 #[.val (.ref a0), .val (.ref a1), .val (.ref a2), .unset, .unset, .unset, .unset, .unset] [(.ref a2), (.int (2 : Int32))])) _
    refine X5.arraylength hx (by rw [e5]; exact Ar8.1) (State.isArrayOf_alike hZ.alike Ar8.2.1) (g := (mkF m 36 #[.val (.ref a0), .val (.ref a1), .val (.ref a2), .unset, .unset, .unset, .unset, .unset] [(.ref a2), (.int (2 : Int32))])) rfl rfl (hb hby d1_36) _ ?_
    rw [len_of S8 N8']
    show Steps p.tables e below (T5.setTop (mkF m 37 #[.val (.ref a0), .val (.ref a1), .val (.ref a2), .unset, .unset, .unset, .unset, .unset] [(.int (2 : Int32)), (.int (2 : Int32))])) _
    refine XS.icmpYes X5.here hx rfl (pc0 := 37) (pc' := 57) rfl (hb hby d1_37) rfl (teq (by decide : (2 : Int32) = (2 : Int32))).1 (by decide) (by decide) ?_
    show Steps p.tables e below (T5.setTop (mkF m 57 #[.val (.ref a0), .val (.ref a1), .val (.ref a2), .unset, .unset, .unset, .unset, .unset] [])) _
    refine XS.lconst X5.here hx rfl (hb hby d1_57) ?_
    show Steps p.tables e below (T5.setTop (mkF m 58 #[.val (.ref a0), .val (.ref a1), .val (.ref a2), .unset, .unset, .unset, .unset, .unset] [(.long (0 : Int64))])) _
    refine XS.lstoreN X5.here hx rfl (hb hby d1_58) rfl (l' := #[.val (.ref a0), .val (.ref a1), .val (.ref a2), .val (.long (0 : Int64)), .second, .unset, .unset, .unset]) rfl ?_
    show Steps p.tables e below (T5.setTop (mkF m 59 #[.val (.ref a0), .val (.ref a1), .val (.ref a2), .val (.long (0 : Int64)), .second, .unset, .unset, .unset] [])) _
    refine XS.iconst X5.here hx rfl (hb hby d1_59) ?_
    show Steps p.tables e below (T5.setTop (mkF m 60 #[.val (.ref a0), .val (.ref a1), .val (.ref a2), .val (.long (0 : Int64)), .second, .unset, .unset, .unset] [(.int (0 : Int32))])) _
    refine XS.istore X5.here hx rfl (hb hby d1_60) rfl (l' := #[.val (.ref a0), .val (.ref a1), .val (.ref a2), .val (.long (0 : Int64)), .second, .val (.int (0 : Int32)), .unset, .unset]) rfl ?_
    show Steps p.tables e below (T5.setTop (mkF m 62 #[.val (.ref a0), .val (.ref a1), .val (.ref a2), .val (.long (0 : Int64)), .second, .val (.int (0 : Int32)), .unset, .unset] [])) _
    refine XS.iload X5.here hx rfl (hb hby d1_62) rfl ?_
    show Steps p.tables e below (T5.setTop (mkF m 64 #[.val (.ref a0), .val (.ref a1), .val (.ref a2), .val (.long (0 : Int64)), .second, .val (.int (0 : Int32)), .unset, .unset] [(.int (0 : Int32))])) _
    refine XS.aloadN X5.here hx rfl (hb hby d1_64) rfl rfl ?_
    show Steps p.tables e below (T5.setTop (mkF m 65 #[.val (.ref a0), .val (.ref a1), .val (.ref a2), .val (.long (0 : Int64)), .second, .val (.int (0 : Int32)), .unset, .unset] [(.ref a1), (.int (0 : Int32))])) _
    refine X5.arraylength hx (by rw [e5]; exact Ar9.1) (State.isArrayOf_alike hZ.alike Ar9.2.1) (g := (mkF m 65 #[.val (.ref a0), .val (.ref a1), .val (.ref a2), .val (.long (0 : Int64)), .second, .val (.int (0 : Int32)), .unset, .unset] [(.ref a1), (.int (0 : Int32))])) rfl rfl (hb hby d1_65) _ ?_
    rw [len_of S9 N9']
    show Steps p.tables e below (T5.setTop (mkF m 66 #[.val (.ref a0), .val (.ref a1), .val (.ref a2), .val (.long (0 : Int64)), .second, .val (.int (0 : Int32)), .unset, .unset] [(.int (2 : Int32)), (.int (0 : Int32))])) _
    refine XS.icmpNo X5.here hx rfl (hb hby d1_66) rfl (tlt (by decide : (0 : Int32) < (2 : Int32))).2.1 ?_
    show Steps p.tables e below (T5.setTop (mkF m 69 #[.val (.ref a0), .val (.ref a1), .val (.ref a2), .val (.long (0 : Int64)), .second, .val (.int (0 : Int32)), .unset, .unset] [])) _
    refine XS.aloadN X5.here hx rfl (hb hby d1_69) rfl rfl ?_
    show Steps p.tables e below (T5.setTop (mkF m 70 #[.val (.ref a0), .val (.ref a1), .val (.ref a2), .val (.long (0 : Int64)), .second, .val (.int (0 : Int32)), .unset, .unset] [(.ref a1)])) _
    refine XS.iload X5.here hx rfl (hb hby d1_70) rfl ?_
    show Steps p.tables e below (T5.setTop (mkF m 72 #[.val (.ref a0), .val (.ref a1), .val (.ref a2), .val (.long (0 : Int64)), .second, .val (.int (0 : Int32)), .unset, .unset] [(.int (0 : Int32)), (.ref a1)])) _
    refine X5.iaload hx (j := (0 : Int32)) (v := (.int sv0)) (by rw [e5]; exact Ar10.1) (State.isArrayOf_alike hZ.alike Ar10.2.1) Ar10.2.2 hin10 hat10 (g := (mkF m 72 #[.val (.ref a0), .val (.ref a1), .val (.ref a2), .val (.long (0 : Int64)), .second, .val (.int (0 : Int32)), .unset, .unset] [(.int (0 : Int32)), (.ref a1)])) rfl rfl (hb hby d1_72) _ ?_
    show Steps p.tables e below (T5.setTop (mkF m 73 #[.val (.ref a0), .val (.ref a1), .val (.ref a2), .val (.long (0 : Int64)), .second, .val (.int (0 : Int32)), .unset, .unset] [(.int sv0)])) _
    refine XS.istore X5.here hx rfl (hb hby d1_73) rfl (l' := #[.val (.ref a0), .val (.ref a1), .val (.ref a2), .val (.long (0 : Int64)), .second, .val (.int (0 : Int32)), .val (.int sv0), .unset]) rfl ?_
    show Steps p.tables e below (T5.setTop (mkF m 75 #[.val (.ref a0), .val (.ref a1), .val (.ref a2), .val (.long (0 : Int64)), .second, .val (.int (0 : Int32)), .val (.int sv0), .unset] [])) _
    refine XS.aloadN X5.here hx rfl (hb hby d1_75) rfl rfl ?_
    show Steps p.tables e below (T5.setTop (mkF m 76 #[.val (.ref a0), .val (.ref a1), .val (.ref a2), .val (.long (0 : Int64)), .second, .val (.int (0 : Int32)), .val (.int sv0), .unset] [(.ref a2)])) _
    refine XS.iload X5.here hx rfl (hb hby d1_76) rfl ?_
    show Steps p.tables e below (T5.setTop (mkF m 78 #[.val (.ref a0), .val (.ref a1), .val (.ref a2), .val (.long (0 : Int64)), .second, .val (.int (0 : Int32)), .val (.int sv0), .unset] [(.int (0 : Int32)), (.ref a2)])) _
    refine X5.iaload hx (j := (0 : Int32)) (v := (.int (1 : Int32))) (by rw [e5]; exact Ar11.1) (State.isArrayOf_alike hZ.alike Ar11.2.1) Ar11.2.2 hin11 hat11 (g := (mkF m 78 #[.val (.ref a0), .val (.ref a1), .val (.ref a2), .val (.long (0 : Int64)), .second, .val (.int (0 : Int32)), .val (.int sv0), .unset] [(.int (0 : Int32)), (.ref a2)])) rfl rfl (hb hby d1_78) _ ?_
    show Steps p.tables e below (T5.setTop (mkF m 79 #[.val (.ref a0), .val (.ref a1), .val (.ref a2), .val (.long (0 : Int64)), .second, .val (.int (0 : Int32)), .val (.int sv0), .unset] [(.int (1 : Int32))])) _
    refine XS.istore X5.here hx rfl (hb hby d1_79) rfl (l' := #[.val (.ref a0), .val (.ref a1), .val (.ref a2), .val (.long (0 : Int64)), .second, .val (.int (0 : Int32)), .val (.int sv0), .val (.int (1 : Int32))]) rfl ?_
    show Steps p.tables e below (T5.setTop (mkF m 81 #[.val (.ref a0), .val (.ref a1), .val (.ref a2), .val (.long (0 : Int64)), .second, .val (.int (0 : Int32)), .val (.int sv0), .val (.int (1 : Int32))] [])) _
    refine XS.iload X5.here hx rfl (hb hby d1_81) rfl ?_
    show Steps p.tables e below (T5.setTop (mkF m 83 #[.val (.ref a0), .val (.ref a1), .val (.ref a2), .val (.long (0 : Int64)), .second, .val (.int (0 : Int32)), .val (.int sv0), .val (.int (1 : Int32))] [(.int sv0)])) _
    refine XS.iconst X5.here hx rfl (hb hby d1_83) ?_
    show Steps p.tables e below (T5.setTop (mkF m 84 #[.val (.ref a0), .val (.ref a1), .val (.ref a2), .val (.long (0 : Int64)), .second, .val (.int (0 : Int32)), .val (.int sv0), .val (.int (1 : Int32))] [(.int (1 : Int32)), (.int sv0)])) _
    refine XS.icmpYes X5.here hx rfl (pc0 := 84) (pc' := 104) rfl (hb hby d1_84) rfl (flt hps0).2.1 (by decide) (by decide) ?_
    show Steps p.tables e below (T5.setTop (mkF m 104 #[.val (.ref a0), .val (.ref a1), .val (.ref a2), .val (.long (0 : Int64)), .second, .val (.int (0 : Int32)), .val (.int sv0), .val (.int (1 : Int32))] [])) _
    refine XS.iload X5.here hx rfl (hb hby d1_104) rfl ?_
    show Steps p.tables e below (T5.setTop (mkF m 106 #[.val (.ref a0), .val (.ref a1), .val (.ref a2), .val (.long (0 : Int64)), .second, .val (.int (0 : Int32)), .val (.int sv0), .val (.int (1 : Int32))] [(.int (1 : Int32))])) _
    refine XS.iconst X5.here hx rfl (hb hby d1_106) ?_
    show Steps p.tables e below (T5.setTop (mkF m 107 #[.val (.ref a0), .val (.ref a1), .val (.ref a2), .val (.long (0 : Int64)), .second, .val (.int (0 : Int32)), .val (.int sv0), .val (.int (1 : Int32))] [(.int (1 : Int32)), (.int (1 : Int32))])) _
    refine XS.icmpYes X5.here hx rfl (pc0 := 107) (pc' := 127) rfl (hb hby d1_107) rfl (flt (by decide : ¬ ((1 : Int32) < (1 : Int32)))).2.1 (by decide) (by decide) ?_
    show Steps p.tables e below (T5.setTop (mkF m 127 #[.val (.ref a0), .val (.ref a1), .val (.ref a2), .val (.long (0 : Int64)), .second, .val (.int (0 : Int32)), .val (.int sv0), .val (.int (1 : Int32))] [])) _
    refine XS.iload X5.here hx rfl (hb hby d1_127) rfl ?_
    show Steps p.tables e below (T5.setTop (mkF m 129 #[.val (.ref a0), .val (.ref a1), .val (.ref a2), .val (.long (0 : Int64)), .second, .val (.int (0 : Int32)), .val (.int sv0), .val (.int (1 : Int32))] [(.int (0 : Int32))])) _
    refine XS.ifYes X5.here hx rfl (pc0 := 129) (pc' := 166) rfl (hb hby d1_129) rfl ((if0 _ _).trans (flt (by decide : ¬ ((0 : Int32) < (0 : Int32)))).2.2.2) (by decide) (by decide) ?_
    show Steps p.tables e below (T5.setTop (mkF m 166 #[.val (.ref a0), .val (.ref a1), .val (.ref a2), .val (.long (0 : Int64)), .second, .val (.int (0 : Int32)), .val (.int sv0), .val (.int (1 : Int32))] [])) _
    refine XS.lloadN X5.here hx rfl (hb hby d1_166) rfl ?_
    show Steps p.tables e below (T5.setTop (mkF m 167 #[.val (.ref a0), .val (.ref a1), .val (.ref a2), .val (.long (0 : Int64)), .second, .val (.int (0 : Int32)), .val (.int sv0), .val (.int (1 : Int32))] [(.long (0 : Int64))])) _
    refine XS.iload X5.here hx rfl (hb hby d1_167) rfl ?_
    show Steps p.tables e below (T5.setTop (mkF m 169 #[.val (.ref a0), .val (.ref a1), .val (.ref a2), .val (.long (0 : Int64)), .second, .val (.int (0 : Int32)), .val (.int sv0), .val (.int (1 : Int32))] [(.int sv0), (.long (0 : Int64))])) _
    refine XS.i2l X5.here hx rfl (hb hby d1_169) rfl ?_
    show Steps p.tables e below (T5.setTop (mkF m 170 #[.val (.ref a0), .val (.ref a1), .val (.ref a2), .val (.long (0 : Int64)), .second, .val (.int (0 : Int32)), .val (.int sv0), .val (.int (1 : Int32))] [(.long (sv0.toInt64)), (.long (0 : Int64))])) _
    refine XS.iload X5.here hx rfl (hb hby d1_170) rfl ?_
    show Steps p.tables e below (T5.setTop (mkF m 172 #[.val (.ref a0), .val (.ref a1), .val (.ref a2), .val (.long (0 : Int64)), .second, .val (.int (0 : Int32)), .val (.int sv0), .val (.int (1 : Int32))] [(.int (1 : Int32)), (.long (sv0.toInt64)), (.long (0 : Int64))])) _
    refine XS.i2l X5.here hx rfl (hb hby d1_172) rfl ?_
    show Steps p.tables e below (T5.setTop (mkF m 173 #[.val (.ref a0), .val (.ref a1), .val (.ref a2), .val (.long (0 : Int64)), .second, .val (.int (0 : Int32)), .val (.int sv0), .val (.int (1 : Int32))] [(.long ((1 : Int32).toInt64)), (.long (sv0.toInt64)), (.long (0 : Int64))])) _
    refine XS.lmul X5.here hx rfl (hb hby d1_173) rfl ?_
    show Steps p.tables e below (T5.setTop (mkF m 174 #[.val (.ref a0), .val (.ref a1), .val (.ref a2), .val (.long (0 : Int64)), .second, .val (.int (0 : Int32)), .val (.int sv0), .val (.int (1 : Int32))] [(.long ((sv0.toInt64) * ((1 : Int32).toInt64))), (.long (0 : Int64))])) _
    refine XS.ladd X5.here hx rfl (hb hby d1_174) rfl ?_
    show Steps p.tables e below (T5.setTop (mkF m 175 #[.val (.ref a0), .val (.ref a1), .val (.ref a2), .val (.long (0 : Int64)), .second, .val (.int (0 : Int32)), .val (.int sv0), .val (.int (1 : Int32))] [(.long ((0 : Int64) + ((sv0.toInt64) * ((1 : Int32).toInt64))))])) _
    refine XS.lstoreN X5.here hx rfl (hb hby d1_175) rfl (l' := #[.val (.ref a0), .val (.ref a1), .val (.ref a2), .val (.long ((0 : Int64) + ((sv0.toInt64) * ((1 : Int32).toInt64)))), .second, .val (.int (0 : Int32)), .val (.int sv0), .val (.int (1 : Int32))]) rfl ?_
    show Steps p.tables e below (T5.setTop (mkF m 176 #[.val (.ref a0), .val (.ref a1), .val (.ref a2), .val (.long ((0 : Int64) + ((sv0.toInt64) * ((1 : Int32).toInt64)))), .second, .val (.int (0 : Int32)), .val (.int sv0), .val (.int (1 : Int32))] [])) _
    refine XS.iinc X5.here hx rfl (hb hby d1_176) rfl (l' := #[.val (.ref a0), .val (.ref a1), .val (.ref a2), .val (.long ((0 : Int64) + ((sv0.toInt64) * ((1 : Int32).toInt64)))), .second, .val (.int (1 : Int32)), .val (.int sv0), .val (.int (1 : Int32))]) rfl ?_
    show Steps p.tables e below (T5.setTop (mkF m 179 #[.val (.ref a0), .val (.ref a1), .val (.ref a2), .val (.long ((0 : Int64) + ((sv0.toInt64) * ((1 : Int32).toInt64)))), .second, .val (.int (1 : Int32)), .val (.int sv0), .val (.int (1 : Int32))] [])) _
    refine XS.goto X5.here hx rfl (pc0 := 179) (pc' := 62) rfl (hb hby d1_179) (by decide) (by decide) ?_
    show Steps p.tables e below (T5.setTop (mkF m 62 #[.val (.ref a0), .val (.ref a1), .val (.ref a2), .val (.long ((0 : Int64) + ((sv0.toInt64) * ((1 : Int32).toInt64)))), .second, .val (.int (1 : Int32)), .val (.int sv0), .val (.int (1 : Int32))] [])) _
    refine XS.iload X5.here hx rfl (hb hby d1_62) rfl ?_
    show Steps p.tables e below (T5.setTop (mkF m 64 #[.val (.ref a0), .val (.ref a1), .val (.ref a2), .val (.long ((0 : Int64) + ((sv0.toInt64) * ((1 : Int32).toInt64)))), .second, .val (.int (1 : Int32)), .val (.int sv0), .val (.int (1 : Int32))] [(.int (1 : Int32))])) _
    refine XS.aloadN X5.here hx rfl (hb hby d1_64) rfl rfl ?_
    show Steps p.tables e below (T5.setTop (mkF m 65 #[.val (.ref a0), .val (.ref a1), .val (.ref a2), .val (.long ((0 : Int64) + ((sv0.toInt64) * ((1 : Int32).toInt64)))), .second, .val (.int (1 : Int32)), .val (.int sv0), .val (.int (1 : Int32))] [(.ref a1), (.int (1 : Int32))])) _
    refine X5.arraylength hx (by rw [e5]; exact Ar12.1) (State.isArrayOf_alike hZ.alike Ar12.2.1) (g := (mkF m 65 #[.val (.ref a0), .val (.ref a1), .val (.ref a2), .val (.long ((0 : Int64) + ((sv0.toInt64) * ((1 : Int32).toInt64)))), .second, .val (.int (1 : Int32)), .val (.int sv0), .val (.int (1 : Int32))] [(.ref a1), (.int (1 : Int32))])) rfl rfl (hb hby d1_65) _ ?_
    rw [len_of S12 N12']
    show Steps p.tables e below (T5.setTop (mkF m 66 #[.val (.ref a0), .val (.ref a1), .val (.ref a2), .val (.long ((0 : Int64) + ((sv0.toInt64) * ((1 : Int32).toInt64)))), .second, .val (.int (1 : Int32)), .val (.int sv0), .val (.int (1 : Int32))] [(.int (2 : Int32)), (.int (1 : Int32))])) _
    refine XS.icmpNo X5.here hx rfl (hb hby d1_66) rfl (tlt (by decide : (1 : Int32) < (2 : Int32))).2.1 ?_
    show Steps p.tables e below (T5.setTop (mkF m 69 #[.val (.ref a0), .val (.ref a1), .val (.ref a2), .val (.long ((0 : Int64) + ((sv0.toInt64) * ((1 : Int32).toInt64)))), .second, .val (.int (1 : Int32)), .val (.int sv0), .val (.int (1 : Int32))] [])) _
    refine XS.aloadN X5.here hx rfl (hb hby d1_69) rfl rfl ?_
    show Steps p.tables e below (T5.setTop (mkF m 70 #[.val (.ref a0), .val (.ref a1), .val (.ref a2), .val (.long ((0 : Int64) + ((sv0.toInt64) * ((1 : Int32).toInt64)))), .second, .val (.int (1 : Int32)), .val (.int sv0), .val (.int (1 : Int32))] [(.ref a1)])) _
    refine XS.iload X5.here hx rfl (hb hby d1_70) rfl ?_
    show Steps p.tables e below (T5.setTop (mkF m 72 #[.val (.ref a0), .val (.ref a1), .val (.ref a2), .val (.long ((0 : Int64) + ((sv0.toInt64) * ((1 : Int32).toInt64)))), .second, .val (.int (1 : Int32)), .val (.int sv0), .val (.int (1 : Int32))] [(.int (1 : Int32)), (.ref a1)])) _
    refine X5.iaload hx (j := (1 : Int32)) (v := (.int sv1)) (by rw [e5]; exact Ar13.1) (State.isArrayOf_alike hZ.alike Ar13.2.1) Ar13.2.2 hin13 hat13 (g := (mkF m 72 #[.val (.ref a0), .val (.ref a1), .val (.ref a2), .val (.long ((0 : Int64) + ((sv0.toInt64) * ((1 : Int32).toInt64)))), .second, .val (.int (1 : Int32)), .val (.int sv0), .val (.int (1 : Int32))] [(.int (1 : Int32)), (.ref a1)])) rfl rfl (hb hby d1_72) _ ?_
    show Steps p.tables e below (T5.setTop (mkF m 73 #[.val (.ref a0), .val (.ref a1), .val (.ref a2), .val (.long ((0 : Int64) + ((sv0.toInt64) * ((1 : Int32).toInt64)))), .second, .val (.int (1 : Int32)), .val (.int sv0), .val (.int (1 : Int32))] [(.int sv1)])) _
    refine XS.istore X5.here hx rfl (hb hby d1_73) rfl (l' := #[.val (.ref a0), .val (.ref a1), .val (.ref a2), .val (.long ((0 : Int64) + ((sv0.toInt64) * ((1 : Int32).toInt64)))), .second, .val (.int (1 : Int32)), .val (.int sv1), .val (.int (1 : Int32))]) rfl ?_
    show Steps p.tables e below (T5.setTop (mkF m 75 #[.val (.ref a0), .val (.ref a1), .val (.ref a2), .val (.long ((0 : Int64) + ((sv0.toInt64) * ((1 : Int32).toInt64)))), .second, .val (.int (1 : Int32)), .val (.int sv1), .val (.int (1 : Int32))] [])) _
    refine XS.aloadN X5.here hx rfl (hb hby d1_75) rfl rfl ?_
    show Steps p.tables e below (T5.setTop (mkF m 76 #[.val (.ref a0), .val (.ref a1), .val (.ref a2), .val (.long ((0 : Int64) + ((sv0.toInt64) * ((1 : Int32).toInt64)))), .second, .val (.int (1 : Int32)), .val (.int sv1), .val (.int (1 : Int32))] [(.ref a2)])) _
    refine XS.iload X5.here hx rfl (hb hby d1_76) rfl ?_
    show Steps p.tables e below (T5.setTop (mkF m 78 #[.val (.ref a0), .val (.ref a1), .val (.ref a2), .val (.long ((0 : Int64) + ((sv0.toInt64) * ((1 : Int32).toInt64)))), .second, .val (.int (1 : Int32)), .val (.int sv1), .val (.int (1 : Int32))] [(.int (1 : Int32)), (.ref a2)])) _
    refine X5.iaload hx (j := (1 : Int32)) (v := (.int (1 : Int32))) (by rw [e5]; exact Ar14.1) (State.isArrayOf_alike hZ.alike Ar14.2.1) Ar14.2.2 hin14 hat14 (g := (mkF m 78 #[.val (.ref a0), .val (.ref a1), .val (.ref a2), .val (.long ((0 : Int64) + ((sv0.toInt64) * ((1 : Int32).toInt64)))), .second, .val (.int (1 : Int32)), .val (.int sv1), .val (.int (1 : Int32))] [(.int (1 : Int32)), (.ref a2)])) rfl rfl (hb hby d1_78) _ ?_
    show Steps p.tables e below (T5.setTop (mkF m 79 #[.val (.ref a0), .val (.ref a1), .val (.ref a2), .val (.long ((0 : Int64) + ((sv0.toInt64) * ((1 : Int32).toInt64)))), .second, .val (.int (1 : Int32)), .val (.int sv1), .val (.int (1 : Int32))] [(.int (1 : Int32))])) _
    refine XS.istore X5.here hx rfl (hb hby d1_79) rfl (l' := #[.val (.ref a0), .val (.ref a1), .val (.ref a2), .val (.long ((0 : Int64) + ((sv0.toInt64) * ((1 : Int32).toInt64)))), .second, .val (.int (1 : Int32)), .val (.int sv1), .val (.int (1 : Int32))]) rfl ?_
    show Steps p.tables e below (T5.setTop (mkF m 81 #[.val (.ref a0), .val (.ref a1), .val (.ref a2), .val (.long ((0 : Int64) + ((sv0.toInt64) * ((1 : Int32).toInt64)))), .second, .val (.int (1 : Int32)), .val (.int sv1), .val (.int (1 : Int32))] [])) _
    refine XS.iload X5.here hx rfl (hb hby d1_81) rfl ?_
    show Steps p.tables e below (T5.setTop (mkF m 83 #[.val (.ref a0), .val (.ref a1), .val (.ref a2), .val (.long ((0 : Int64) + ((sv0.toInt64) * ((1 : Int32).toInt64)))), .second, .val (.int (1 : Int32)), .val (.int sv1), .val (.int (1 : Int32))] [(.int sv1)])) _
    refine XS.iconst X5.here hx rfl (hb hby d1_83) ?_
    show Steps p.tables e below (T5.setTop (mkF m 84 #[.val (.ref a0), .val (.ref a1), .val (.ref a2), .val (.long ((0 : Int64) + ((sv0.toInt64) * ((1 : Int32).toInt64)))), .second, .val (.int (1 : Int32)), .val (.int sv1), .val (.int (1 : Int32))] [(.int (1 : Int32)), (.int sv1)])) _
    refine XS.icmpYes X5.here hx rfl (pc0 := 84) (pc' := 104) rfl (hb hby d1_84) rfl (flt hps1).2.1 (by decide) (by decide) ?_
    show Steps p.tables e below (T5.setTop (mkF m 104 #[.val (.ref a0), .val (.ref a1), .val (.ref a2), .val (.long ((0 : Int64) + ((sv0.toInt64) * ((1 : Int32).toInt64)))), .second, .val (.int (1 : Int32)), .val (.int sv1), .val (.int (1 : Int32))] [])) _
    refine XS.iload X5.here hx rfl (hb hby d1_104) rfl ?_
    show Steps p.tables e below (T5.setTop (mkF m 106 #[.val (.ref a0), .val (.ref a1), .val (.ref a2), .val (.long ((0 : Int64) + ((sv0.toInt64) * ((1 : Int32).toInt64)))), .second, .val (.int (1 : Int32)), .val (.int sv1), .val (.int (1 : Int32))] [(.int (1 : Int32))])) _
    refine XS.iconst X5.here hx rfl (hb hby d1_106) ?_
    show Steps p.tables e below (T5.setTop (mkF m 107 #[.val (.ref a0), .val (.ref a1), .val (.ref a2), .val (.long ((0 : Int64) + ((sv0.toInt64) * ((1 : Int32).toInt64)))), .second, .val (.int (1 : Int32)), .val (.int sv1), .val (.int (1 : Int32))] [(.int (1 : Int32)), (.int (1 : Int32))])) _
    refine XS.icmpYes X5.here hx rfl (pc0 := 107) (pc' := 127) rfl (hb hby d1_107) rfl (flt (by decide : ¬ ((1 : Int32) < (1 : Int32)))).2.1 (by decide) (by decide) ?_
    show Steps p.tables e below (T5.setTop (mkF m 127 #[.val (.ref a0), .val (.ref a1), .val (.ref a2), .val (.long ((0 : Int64) + ((sv0.toInt64) * ((1 : Int32).toInt64)))), .second, .val (.int (1 : Int32)), .val (.int sv1), .val (.int (1 : Int32))] [])) _
    refine XS.iload X5.here hx rfl (hb hby d1_127) rfl ?_
    show Steps p.tables e below (T5.setTop (mkF m 129 #[.val (.ref a0), .val (.ref a1), .val (.ref a2), .val (.long ((0 : Int64) + ((sv0.toInt64) * ((1 : Int32).toInt64)))), .second, .val (.int (1 : Int32)), .val (.int sv1), .val (.int (1 : Int32))] [(.int (1 : Int32))])) _
    refine XS.ifNo X5.here hx rfl (hb hby d1_129) rfl ((if0 _ _).trans (tlt (by decide : (0 : Int32) < (1 : Int32))).2.2.2) ?_
    show Steps p.tables e below (T5.setTop (mkF m 132 #[.val (.ref a0), .val (.ref a1), .val (.ref a2), .val (.long ((0 : Int64) + ((sv0.toInt64) * ((1 : Int32).toInt64)))), .second, .val (.int (1 : Int32)), .val (.int sv1), .val (.int (1 : Int32))] [])) _
    refine XS.iload X5.here hx rfl (hb hby d1_132) rfl ?_
    show Steps p.tables e below (T5.setTop (mkF m 134 #[.val (.ref a0), .val (.ref a1), .val (.ref a2), .val (.long ((0 : Int64) + ((sv0.toInt64) * ((1 : Int32).toInt64)))), .second, .val (.int (1 : Int32)), .val (.int sv1), .val (.int (1 : Int32))] [(.int sv1)])) _
    refine XS.aloadN X5.here hx rfl (hb hby d1_134) rfl rfl ?_
    show Steps p.tables e below (T5.setTop (mkF m 135 #[.val (.ref a0), .val (.ref a1), .val (.ref a2), .val (.long ((0 : Int64) + ((sv0.toInt64) * ((1 : Int32).toInt64)))), .second, .val (.int (1 : Int32)), .val (.int sv1), .val (.int (1 : Int32))] [(.ref a1), (.int sv1)])) _
    refine XS.iload X5.here hx rfl (hb hby d1_135) rfl ?_
    show Steps p.tables e below (T5.setTop (mkF m 137 #[.val (.ref a0), .val (.ref a1), .val (.ref a2), .val (.long ((0 : Int64) + ((sv0.toInt64) * ((1 : Int32).toInt64)))), .second, .val (.int (1 : Int32)), .val (.int sv1), .val (.int (1 : Int32))] [(.int (1 : Int32)), (.ref a1), (.int sv1)])) _
    refine XS.iconst X5.here hx rfl (hb hby d1_137) ?_
    show Steps p.tables e below (T5.setTop (mkF m 138 #[.val (.ref a0), .val (.ref a1), .val (.ref a2), .val (.long ((0 : Int64) + ((sv0.toInt64) * ((1 : Int32).toInt64)))), .second, .val (.int (1 : Int32)), .val (.int sv1), .val (.int (1 : Int32))] [(.int (1 : Int32)), (.int (1 : Int32)), (.ref a1), (.int sv1)])) _
    refine XS.isub X5.here hx rfl (hb hby d1_138) rfl ?_
    show Steps p.tables e below (T5.setTop (mkF m 139 #[.val (.ref a0), .val (.ref a1), .val (.ref a2), .val (.long ((0 : Int64) + ((sv0.toInt64) * ((1 : Int32).toInt64)))), .second, .val (.int (1 : Int32)), .val (.int sv1), .val (.int (1 : Int32))] [(.int (0 : Int32)), (.ref a1), (.int sv1)])) _
    refine X5.iaload hx (j := (0 : Int32)) (v := (.int sv0)) (by rw [e5]; exact Ar15.1) (State.isArrayOf_alike hZ.alike Ar15.2.1) Ar15.2.2 hin15 hat15 (g := (mkF m 139 #[.val (.ref a0), .val (.ref a1), .val (.ref a2), .val (.long ((0 : Int64) + ((sv0.toInt64) * ((1 : Int32).toInt64)))), .second, .val (.int (1 : Int32)), .val (.int sv1), .val (.int (1 : Int32))] [(.int (0 : Int32)), (.ref a1), (.int sv1)])) rfl rfl (hb hby d1_139) _ ?_
    show Steps p.tables e below (T5.setTop (mkF m 140 #[.val (.ref a0), .val (.ref a1), .val (.ref a2), .val (.long ((0 : Int64) + ((sv0.toInt64) * ((1 : Int32).toInt64)))), .second, .val (.int (1 : Int32)), .val (.int sv1), .val (.int (1 : Int32))] [(.int sv0), (.int sv1)])) _
    refine XS.icmpYes X5.here hx rfl (pc0 := 140) (pc' := 166) rfl (hb hby d1_140) rfl (tlt hpg0).2.2.1 (by decide) (by decide) ?_
    show Steps p.tables e below (T5.setTop (mkF m 166 #[.val (.ref a0), .val (.ref a1), .val (.ref a2), .val (.long ((0 : Int64) + ((sv0.toInt64) * ((1 : Int32).toInt64)))), .second, .val (.int (1 : Int32)), .val (.int sv1), .val (.int (1 : Int32))] [])) _
    refine XS.lloadN X5.here hx rfl (hb hby d1_166) rfl ?_
    show Steps p.tables e below (T5.setTop (mkF m 167 #[.val (.ref a0), .val (.ref a1), .val (.ref a2), .val (.long ((0 : Int64) + ((sv0.toInt64) * ((1 : Int32).toInt64)))), .second, .val (.int (1 : Int32)), .val (.int sv1), .val (.int (1 : Int32))] [(.long ((0 : Int64) + ((sv0.toInt64) * ((1 : Int32).toInt64))))])) _
    refine XS.iload X5.here hx rfl (hb hby d1_167) rfl ?_
    show Steps p.tables e below (T5.setTop (mkF m 169 #[.val (.ref a0), .val (.ref a1), .val (.ref a2), .val (.long ((0 : Int64) + ((sv0.toInt64) * ((1 : Int32).toInt64)))), .second, .val (.int (1 : Int32)), .val (.int sv1), .val (.int (1 : Int32))] [(.int sv1), (.long ((0 : Int64) + ((sv0.toInt64) * ((1 : Int32).toInt64))))])) _
    refine XS.i2l X5.here hx rfl (hb hby d1_169) rfl ?_
    show Steps p.tables e below (T5.setTop (mkF m 170 #[.val (.ref a0), .val (.ref a1), .val (.ref a2), .val (.long ((0 : Int64) + ((sv0.toInt64) * ((1 : Int32).toInt64)))), .second, .val (.int (1 : Int32)), .val (.int sv1), .val (.int (1 : Int32))] [(.long (sv1.toInt64)), (.long ((0 : Int64) + ((sv0.toInt64) * ((1 : Int32).toInt64))))])) _
    refine XS.iload X5.here hx rfl (hb hby d1_170) rfl ?_
    show Steps p.tables e below (T5.setTop (mkF m 172 #[.val (.ref a0), .val (.ref a1), .val (.ref a2), .val (.long ((0 : Int64) + ((sv0.toInt64) * ((1 : Int32).toInt64)))), .second, .val (.int (1 : Int32)), .val (.int sv1), .val (.int (1 : Int32))] [(.int (1 : Int32)), (.long (sv1.toInt64)), (.long ((0 : Int64) + ((sv0.toInt64) * ((1 : Int32).toInt64))))])) _
    refine XS.i2l X5.here hx rfl (hb hby d1_172) rfl ?_
    show Steps p.tables e below (T5.setTop (mkF m 173 #[.val (.ref a0), .val (.ref a1), .val (.ref a2), .val (.long ((0 : Int64) + ((sv0.toInt64) * ((1 : Int32).toInt64)))), .second, .val (.int (1 : Int32)), .val (.int sv1), .val (.int (1 : Int32))] [(.long ((1 : Int32).toInt64)), (.long (sv1.toInt64)), (.long ((0 : Int64) + ((sv0.toInt64) * ((1 : Int32).toInt64))))])) _
    refine XS.lmul X5.here hx rfl (hb hby d1_173) rfl ?_
    show Steps p.tables e below (T5.setTop (mkF m 174 #[.val (.ref a0), .val (.ref a1), .val (.ref a2), .val (.long ((0 : Int64) + ((sv0.toInt64) * ((1 : Int32).toInt64)))), .second, .val (.int (1 : Int32)), .val (.int sv1), .val (.int (1 : Int32))] [(.long ((sv1.toInt64) * ((1 : Int32).toInt64))), (.long ((0 : Int64) + ((sv0.toInt64) * ((1 : Int32).toInt64))))])) _
    refine XS.ladd X5.here hx rfl (hb hby d1_174) rfl ?_
    show Steps p.tables e below (T5.setTop (mkF m 175 #[.val (.ref a0), .val (.ref a1), .val (.ref a2), .val (.long ((0 : Int64) + ((sv0.toInt64) * ((1 : Int32).toInt64)))), .second, .val (.int (1 : Int32)), .val (.int sv1), .val (.int (1 : Int32))] [(.long (((0 : Int64) + ((sv0.toInt64) * ((1 : Int32).toInt64))) + ((sv1.toInt64) * ((1 : Int32).toInt64))))])) _
    refine XS.lstoreN X5.here hx rfl (hb hby d1_175) rfl (l' := #[.val (.ref a0), .val (.ref a1), .val (.ref a2), .val (.long (((0 : Int64) + ((sv0.toInt64) * ((1 : Int32).toInt64))) + ((sv1.toInt64) * ((1 : Int32).toInt64)))), .second, .val (.int (1 : Int32)), .val (.int sv1), .val (.int (1 : Int32))]) rfl ?_
    show Steps p.tables e below (T5.setTop (mkF m 176 #[.val (.ref a0), .val (.ref a1), .val (.ref a2), .val (.long (((0 : Int64) + ((sv0.toInt64) * ((1 : Int32).toInt64))) + ((sv1.toInt64) * ((1 : Int32).toInt64)))), .second, .val (.int (1 : Int32)), .val (.int sv1), .val (.int (1 : Int32))] [])) _
    refine XS.iinc X5.here hx rfl (hb hby d1_176) rfl (l' := #[.val (.ref a0), .val (.ref a1), .val (.ref a2), .val (.long (((0 : Int64) + ((sv0.toInt64) * ((1 : Int32).toInt64))) + ((sv1.toInt64) * ((1 : Int32).toInt64)))), .second, .val (.int (2 : Int32)), .val (.int sv1), .val (.int (1 : Int32))]) rfl ?_
    show Steps p.tables e below (T5.setTop (mkF m 179 #[.val (.ref a0), .val (.ref a1), .val (.ref a2), .val (.long (((0 : Int64) + ((sv0.toInt64) * ((1 : Int32).toInt64))) + ((sv1.toInt64) * ((1 : Int32).toInt64)))), .second, .val (.int (2 : Int32)), .val (.int sv1), .val (.int (1 : Int32))] [])) _
    refine XS.goto X5.here hx rfl (pc0 := 179) (pc' := 62) rfl (hb hby d1_179) (by decide) (by decide) ?_
    show Steps p.tables e below (T5.setTop (mkF m 62 #[.val (.ref a0), .val (.ref a1), .val (.ref a2), .val (.long (((0 : Int64) + ((sv0.toInt64) * ((1 : Int32).toInt64))) + ((sv1.toInt64) * ((1 : Int32).toInt64)))), .second, .val (.int (2 : Int32)), .val (.int sv1), .val (.int (1 : Int32))] [])) _
    refine XS.iload X5.here hx rfl (hb hby d1_62) rfl ?_
    show Steps p.tables e below (T5.setTop (mkF m 64 #[.val (.ref a0), .val (.ref a1), .val (.ref a2), .val (.long (((0 : Int64) + ((sv0.toInt64) * ((1 : Int32).toInt64))) + ((sv1.toInt64) * ((1 : Int32).toInt64)))), .second, .val (.int (2 : Int32)), .val (.int sv1), .val (.int (1 : Int32))] [(.int (2 : Int32))])) _
    refine XS.aloadN X5.here hx rfl (hb hby d1_64) rfl rfl ?_
    show Steps p.tables e below (T5.setTop (mkF m 65 #[.val (.ref a0), .val (.ref a1), .val (.ref a2), .val (.long (((0 : Int64) + ((sv0.toInt64) * ((1 : Int32).toInt64))) + ((sv1.toInt64) * ((1 : Int32).toInt64)))), .second, .val (.int (2 : Int32)), .val (.int sv1), .val (.int (1 : Int32))] [(.ref a1), (.int (2 : Int32))])) _
    refine X5.arraylength hx (by rw [e5]; exact Ar16.1) (State.isArrayOf_alike hZ.alike Ar16.2.1) (g := (mkF m 65 #[.val (.ref a0), .val (.ref a1), .val (.ref a2), .val (.long (((0 : Int64) + ((sv0.toInt64) * ((1 : Int32).toInt64))) + ((sv1.toInt64) * ((1 : Int32).toInt64)))), .second, .val (.int (2 : Int32)), .val (.int sv1), .val (.int (1 : Int32))] [(.ref a1), (.int (2 : Int32))])) rfl rfl (hb hby d1_65) _ ?_
    rw [len_of S16 N16']
    show Steps p.tables e below (T5.setTop (mkF m 66 #[.val (.ref a0), .val (.ref a1), .val (.ref a2), .val (.long (((0 : Int64) + ((sv0.toInt64) * ((1 : Int32).toInt64))) + ((sv1.toInt64) * ((1 : Int32).toInt64)))), .second, .val (.int (2 : Int32)), .val (.int sv1), .val (.int (1 : Int32))] [(.int (2 : Int32)), (.int (2 : Int32))])) _
    refine XS.icmpYes X5.here hx rfl (pc0 := 66) (pc' := 182) rfl (hb hby d1_66) rfl (flt (by decide : ¬ ((2 : Int32) < (2 : Int32)))).2.1 (by decide) (by decide) ?_
    show Steps p.tables e below (T5.setTop (mkF m 182 #[.val (.ref a0), .val (.ref a1), .val (.ref a2), .val (.long (((0 : Int64) + ((sv0.toInt64) * ((1 : Int32).toInt64))) + ((sv1.toInt64) * ((1 : Int32).toInt64)))), .second, .val (.int (2 : Int32)), .val (.int sv1), .val (.int (1 : Int32))] [])) _
    refine XS.aloadN X5.here hx rfl (hb hby d1_182) rfl rfl ?_
    show Steps p.tables e below (T5.setTop (mkF m 183 #[.val (.ref a0), .val (.ref a1), .val (.ref a2), .val (.long (((0 : Int64) + ((sv0.toInt64) * ((1 : Int32).toInt64))) + ((sv1.toInt64) * ((1 : Int32).toInt64)))), .second, .val (.int (2 : Int32)), .val (.int sv1), .val (.int (1 : Int32))] [(.ref a0)])) _
    refine XS.aloadN X5.here hx rfl (hb hby d1_183) rfl rfl ?_
    show Steps p.tables e below (T5.setTop (mkF m 184 #[.val (.ref a0), .val (.ref a1), .val (.ref a2), .val (.long (((0 : Int64) + ((sv0.toInt64) * ((1 : Int32).toInt64))) + ((sv1.toInt64) * ((1 : Int32).toInt64)))), .second, .val (.int (2 : Int32)), .val (.int sv1), .val (.int (1 : Int32))] [(.ref a1), (.ref a0)])) _
    refine st17 _ ?_
    show Steps p.tables e below (T17.setTop (mkF m 187 #[.val (.ref a0), .val (.ref a1), .val (.ref a2), .val (.long (((0 : Int64) + ((sv0.toInt64) * ((1 : Int32).toInt64))) + ((sv1.toInt64) * ((1 : Int32).toInt64)))), .second, .val (.int (2 : Int32)), .val (.int sv1), .val (.int (1 : Int32))] [(.ref b17), (.ref a0)])) _
    refine st18 _ ?_
    show Steps p.tables e below (T18.setTop (mkF m 190 #[.val (.ref a0), .val (.ref a1), .val (.ref a2), .val (.long (((0 : Int64) + ((sv0.toInt64) * ((1 : Int32).toInt64))) + ((sv1.toInt64) * ((1 : Int32).toInt64)))), .second, .val (.int (2 : Int32)), .val (.int sv1), .val (.int (1 : Int32))] [(.ref b17), (.ref a0)])) _
    refine st19 _ ?_
    show Steps p.tables e below (T19.setTop (mkF m 193 #[.val (.ref a0), .val (.ref a1), .val (.ref a2), .val (.long (((0 : Int64) + ((sv0.toInt64) * ((1 : Int32).toInt64))) + ((sv1.toInt64) * ((1 : Int32).toInt64)))), .second, .val (.int (2 : Int32)), .val (.int sv1), .val (.int (1 : Int32))] [])) _
    refine XS.aloadN X19.here hx rfl (hb hby d1_193) rfl rfl ?_
    show Steps p.tables e below (T19.setTop (mkF m 194 #[.val (.ref a0), .val (.ref a1), .val (.ref a2), .val (.long (((0 : Int64) + ((sv0.toInt64) * ((1 : Int32).toInt64))) + ((sv1.toInt64) * ((1 : Int32).toInt64)))), .second, .val (.int (2 : Int32)), .val (.int sv1), .val (.int (1 : Int32))] [(.ref a0)])) _
    refine XS.aloadN X19.here hx rfl (hb hby d1_194) rfl rfl ?_
    show Steps p.tables e below (T19.setTop (mkF m 195 #[.val (.ref a0), .val (.ref a1), .val (.ref a2), .val (.long (((0 : Int64) + ((sv0.toInt64) * ((1 : Int32).toInt64))) + ((sv1.toInt64) * ((1 : Int32).toInt64)))), .second, .val (.int (2 : Int32)), .val (.int sv1), .val (.int (1 : Int32))] [(.ref a2), (.ref a0)])) _
    refine st20 _ ?_
    show Steps p.tables e below (T20.setTop (mkF m 198 #[.val (.ref a0), .val (.ref a1), .val (.ref a2), .val (.long (((0 : Int64) + ((sv0.toInt64) * ((1 : Int32).toInt64))) + ((sv1.toInt64) * ((1 : Int32).toInt64)))), .second, .val (.int (2 : Int32)), .val (.int sv1), .val (.int (1 : Int32))] [(.ref b20), (.ref a0)])) _
    refine st21 _ ?_
    show Steps p.tables e below (T21.setTop (mkF m 201 #[.val (.ref a0), .val (.ref a1), .val (.ref a2), .val (.long (((0 : Int64) + ((sv0.toInt64) * ((1 : Int32).toInt64))) + ((sv1.toInt64) * ((1 : Int32).toInt64)))), .second, .val (.int (2 : Int32)), .val (.int sv1), .val (.int (1 : Int32))] [(.ref b20), (.ref a0)])) _
    refine st22 _ ?_
    show Steps p.tables e below (T22.setTop (mkF m 204 #[.val (.ref a0), .val (.ref a1), .val (.ref a2), .val (.long (((0 : Int64) + ((sv0.toInt64) * ((1 : Int32).toInt64))) + ((sv1.toInt64) * ((1 : Int32).toInt64)))), .second, .val (.int (2 : Int32)), .val (.int sv1), .val (.int (1 : Int32))] [])) _
    refine XS.aloadN X22.here hx rfl (hb hby d1_204) rfl rfl ?_
    show Steps p.tables e below (T22.setTop (mkF m 205 #[.val (.ref a0), .val (.ref a1), .val (.ref a2), .val (.long (((0 : Int64) + ((sv0.toInt64) * ((1 : Int32).toInt64))) + ((sv1.toInt64) * ((1 : Int32).toInt64)))), .second, .val (.int (2 : Int32)), .val (.int sv1), .val (.int (1 : Int32))] [(.ref a0)])) _
    refine XS.lloadN X22.here hx rfl (hb hby d1_205) rfl ?_
    show Steps p.tables e below (T22.setTop (mkF m 206 #[.val (.ref a0), .val (.ref a1), .val (.ref a2), .val (.long (((0 : Int64) + ((sv0.toInt64) * ((1 : Int32).toInt64))) + ((sv1.toInt64) * ((1 : Int32).toInt64)))), .second, .val (.int (2 : Int32)), .val (.int sv1), .val (.int (1 : Int32))] [(.long (((0 : Int64) + ((sv0.toInt64) * ((1 : Int32).toInt64))) + ((sv1.toInt64) * ((1 : Int32).toInt64)))), (.ref a0)])) _
    refine st23 _ ?_
    exact kt
  obtain ⟨fs, hr, hrun, hended, hEnd⟩ := Stand.leaveW (s := s) X23 hS4 (by rw [e23]; exact hk23) (v := none) (fun _ => rfl) (BodyLoose.notSynchronized Bd)
  refine ⟨_, _, ?_, hrun, hended, _, _, rfl, ?_, own_endW hEnd (by decide) (by decide)⟩
  · show Steps p.tables e below (T23.setTop (mkF m 209 #[.val (.ref a0), .val (.ref a1), .val (.ref a2), .val (.long (((0 : Int64) + ((sv0.toInt64) * ((1 : Int32).toInt64))) + ((sv1.toInt64) * ((1 : Int32).toInt64)))), .second, .val (.int (2 : Int32)), .val (.int sv1), .val (.int (1 : Int32))] [])) _
    exact X23.returnOut hx Bd.returns (hb hby d1_209) hr
  · show Q1b Z a0 a1 a2 kx1 kx2 sv0 sv1 h0 n0 _ T23.heap _
    rw [e23]
    exact ⟨b17, rfl, N23, K23, f23_0, f23_7, f23_5⟩
theorem pn_4b : plainName "com/example/byteloom/byteloom/SectionLayout" = true := by first | (simp [plainName, overriddenIn]; done) | decide +kernel
theorem ef_4b (m : MethodId) (x0 : Addr) (x1 : Int64) : entryFrame m #[(.ref x0), (.long x1)] 5 = mkF m 0 #[.val (.ref x0), .val (.long x1), .second, .unset, .unset] [] := by first | (simp [entryFrame, mkF, argsToLocals, Value.category]; done) | rfl
def f4b (q1 : Int64) (sv0 : Int32) (sv1 : Int32) : Int32 := (if (sv0.toInt64) < q1 then (if (sv1.toInt64) < q1 then (-1 : Int32) else (1 : Int32)) else (0 : Int32))
def Q4b (Z : State) (a0 : Addr) (q1 : Int64) (av : Addr) (kA : ClassId) (sv0 : Int32) (sv1 : Int32) (h0 : Heap) (n0 : Nat) (v : Option Value) (h : Heap) (L : List Loc) : Prop := v = some (.int (f4b q1 sv0 sv1)) ∧ Fr n0 L ∧ h = h0
set_option maxRecDepth 65536 in
set_option maxHeartbeats 40000000 in
theorem rm4b (l : Launch) (Z : State) (aw : Array Value) (hw : ∀ d ∈ tables_1, d.before aw Z = true) (ws : List Jvm.Cond) (a0 : Addr) (q1 : Int64) (av : Addr) (kA : ClassId) (sv0 : Int32) (sv1 : Int32) (h0 : Heap) (n0 : Nat) (Z0 : n0 ≤ h0.size) (F_blockSizes_a0 : Fld Z h0 a0 "com/example/byteloom/byteloom/SectionLayout" "blockSizes" "[I" (.ref av)) (V_av : Arv Z h0 av kA .int (2 : Int32) [(.int sv0), (.int sv1)] (.int (0 : Int32))) (hq : ¬ (q1 < (0 : Int64))) :
    MetFree l (⟨"com/example/byteloom/byteloom/SectionLayout", "sectionFor", "(J)I"⟩ : MethodName) (head1 (Jvm.Cond.code (⟨"com/example/byteloom/byteloom/SectionLayout", "sectionFor", "(J)I"⟩ : MethodName) prog_14_method_6_code 5 (some .int) :: ws) ({ frames := 0, cells := 0, slots := 0, locals := 0 } : Room)) (fun a U => a = #[(.ref a0), (.long q1)] ∧ Z.Warmed39 U.vm ∧ U.heap = h0) (fun _ _ _ _ _ => True) (fun _ U o U' => ∃ v L, o = .returned v ∧ Q4b Z a0 q1 av kA sv0 sv1 h0 n0 v U'.heap L ∧ FrameEnd U o U' L ({ frames := 0, cells := 0, slots := 0, locals := 0 } : Room).cells ({ frames := 0, cells := 0, slots := 0, locals := 0 } : Room).slots) := by
  refine MetFree.of_bodySF (plainFor_of_name pn_4b) hisR ?_
  intro p e s m args below meth c s₁ Bd hml0 hP hK
  obtain ⟨rfl, hZ, hh⟩ := hP
  have hx := Bd.exec
  have hby := Bd.bytes
  have hml : c.maxLocals = 5 := hml0
  have hown : s.vm.findClass "com/example/byteloom/byteloom/SectionLayout" = some m.cls := findClass_of_methodNamed Bd.named
  have hnm := (name_of_methodNamed Bd.named Bd.method).1
  have X0 : Stand p l e ({ frames := 0, cells := 0, slots := 0, locals := 0 } : Room) s m #[(.ref a0), (.long q1)] below meth c s₁ [] 0 0 := Stand.of_body Bd
  have e0 : s₁.heap = h0 := by rw [← hh, Bd.state]; rfl
  have N0 := Fr.nil n0
  refine own_back (b := s₁.setTop (mkF m 0 #[.val (.ref a0), .val (.long q1), .second, .unset, .unset] [])) (fun t kt => castTop (ef_4b m a0 q1) kt) ?_
  obtain ⟨T1, X1, e1, st1⟩ := getF X0 hx hZ hown (host := "") (Or.inl (hw _ (List.mem_of_getElem? (i := 36) rfl))) Via.refl e0 F_blockSizes_a0 (g := (mkF m 28 #[.val (.ref a0), .val (.long q1), .second, .val (.int (-1 : Int32)), .val (.int (0 : Int32))] [(.ref a0), (.int (0 : Int32))])) rfl rfl (hb hby d4_28)
  obtain ⟨cl2, Ar2, qk2, S2, N2', -, -⟩ := own_same V_av
  obtain ⟨T3, X3, e3, st3⟩ := getF X1 hx hZ hown (host := "") (Or.inl (hw _ (List.mem_of_getElem? (i := 36) rfl))) Via.refl e1 F_blockSizes_a0 (g := (mkF m 36 #[.val (.ref a0), .val (.long q1), .second, .val (.int (-1 : Int32)), .val (.int (0 : Int32))] [(.ref a0)])) rfl rfl (hb hby d4_36)
  obtain ⟨cl4, Ar4, qk4, S4, N4', Hh4, G4⟩ := own_same V_av
  have hin4 : ¬ ((0 : Int32) < 0 ∨ cl4.slots.size ≤ ((0 : Int32)).toNatClampNeg) := inb_of S4 ⟨by decide, by decide⟩
  have hat4 : cl4.slots[((0 : Int32)).toNatClampNeg]? = some (.int sv0) := Has.at Hh4 hin4 rfl
  refine own_back (b := T3.setTop (mkF m 45 #[.val (.ref a0), .val (.long q1), .second, .val (.int (-1 : Int32)), .val (.int (0 : Int32))] [(.int (lcmpW (sv0.toInt64) q1))])) (fun t kt => ?_) ?_
  · show Steps p.tables e below (s₁.setTop (mkF m 0 #[.val (.ref a0), .val (.long q1), .second, .unset, .unset] [])) _
    refine XS.lloadN X0.here hx rfl (hb hby d4_0) rfl ?_
    show Steps p.tables e below (s₁.setTop (mkF m 1 #[.val (.ref a0), .val (.long q1), .second, .unset, .unset] [(.long q1)])) _
    refine XS.lconst X0.here hx rfl (hb hby d4_1) ?_
    show Steps p.tables e below (s₁.setTop (mkF m 2 #[.val (.ref a0), .val (.long q1), .second, .unset, .unset] [(.long (0 : Int64)), (.long q1)])) _
    refine XS.lcmp X0.here hx rfl (hb hby d4_2) rfl ?_
    show Steps p.tables e below (s₁.setTop (mkF m 3 #[.val (.ref a0), .val (.long q1), .second, .unset, .unset] [(.int (lcmpW q1 (0 : Int64)))])) _
    refine XS.ifYes X0.here hx rfl (pc0 := 3) (pc' := 20) rfl (hb hby d4_3) rfl ((if0 _ _).trans (flt (fun q => hq ((lw_lt _ _).mp q))).2.1) (by decide) (by decide) ?_
    show Steps p.tables e below (s₁.setTop (mkF m 20 #[.val (.ref a0), .val (.long q1), .second, .unset, .unset] [])) _
    refine XS.iconst X0.here hx rfl (hb hby d4_20) ?_
    show Steps p.tables e below (s₁.setTop (mkF m 21 #[.val (.ref a0), .val (.long q1), .second, .unset, .unset] [(.int (-1 : Int32))])) _
    refine XS.istoreN X0.here hx rfl (hb hby d4_21) rfl (l' := #[.val (.ref a0), .val (.long q1), .second, .val (.int (-1 : Int32)), .unset]) rfl ?_
    show Steps p.tables e below (s₁.setTop (mkF m 22 #[.val (.ref a0), .val (.long q1), .second, .val (.int (-1 : Int32)), .unset] [])) _
    refine XS.iconst X0.here hx rfl (hb hby d4_22) ?_
    show Steps p.tables e below (s₁.setTop (mkF m 23 #[.val (.ref a0), .val (.long q1), .second, .val (.int (-1 : Int32)), .unset] [(.int (0 : Int32))])) _
    refine XS.istore X0.here hx rfl (hb hby d4_23) rfl (l' := #[.val (.ref a0), .val (.long q1), .second, .val (.int (-1 : Int32)), .val (.int (0 : Int32))]) rfl ?_
    show Steps p.tables e below (s₁.setTop (mkF m 25 #[.val (.ref a0), .val (.long q1), .second, .val (.int (-1 : Int32)), .val (.int (0 : Int32))] [])) _
    refine XS.iload X0.here hx rfl (hb hby d4_25) rfl ?_
    show Steps p.tables e below (s₁.setTop (mkF m 27 #[.val (.ref a0), .val (.long q1), .second, .val (.int (-1 : Int32)), .val (.int (0 : Int32))] [(.int (0 : Int32))])) _
    refine XS.aloadN X0.here hx rfl (hb hby d4_27) rfl rfl ?_
    show Steps p.tables e below (s₁.setTop (mkF m 28 #[.val (.ref a0), .val (.long q1), .second, .val (.int (-1 : Int32)), .val (.int (0 : Int32))] [(.ref a0), (.int (0 : Int32))])) _
    refine st1 _ ?_
    show Steps p.tables e below (T1.setTop (mkF m 31 #[.val (.ref a0), .val (.long q1), .second, .val (.int (-1 : Int32)), .val (.int (0 : Int32))] [(.ref av), (.int (0 : Int32))])) _
    refine X1.arraylength hx (by rw [e1]; exact Ar2.1) (State.isArrayOf_alike hZ.alike Ar2.2.1) (g := (mkF m 31 #[.val (.ref a0), .val (.long q1), .second, .val (.int (-1 : Int32)), .val (.int (0 : Int32))] [(.ref av), (.int (0 : Int32))])) rfl rfl (hb hby d4_31) _ ?_
    rw [len_of S2 N2']
    show Steps p.tables e below (T1.setTop (mkF m 32 #[.val (.ref a0), .val (.long q1), .second, .val (.int (-1 : Int32)), .val (.int (0 : Int32))] [(.int (2 : Int32)), (.int (0 : Int32))])) _
    refine XS.icmpNo X1.here hx rfl (hb hby d4_32) rfl (tlt (by decide : (0 : Int32) < (2 : Int32))).2.1 ?_
    show Steps p.tables e below (T1.setTop (mkF m 35 #[.val (.ref a0), .val (.long q1), .second, .val (.int (-1 : Int32)), .val (.int (0 : Int32))] [])) _
    refine XS.aloadN X1.here hx rfl (hb hby d4_35) rfl rfl ?_
    show Steps p.tables e below (T1.setTop (mkF m 36 #[.val (.ref a0), .val (.long q1), .second, .val (.int (-1 : Int32)), .val (.int (0 : Int32))] [(.ref a0)])) _
    refine st3 _ ?_
    show Steps p.tables e below (T3.setTop (mkF m 39 #[.val (.ref a0), .val (.long q1), .second, .val (.int (-1 : Int32)), .val (.int (0 : Int32))] [(.ref av)])) _
    refine XS.iload X3.here hx rfl (hb hby d4_39) rfl ?_
    show Steps p.tables e below (T3.setTop (mkF m 41 #[.val (.ref a0), .val (.long q1), .second, .val (.int (-1 : Int32)), .val (.int (0 : Int32))] [(.int (0 : Int32)), (.ref av)])) _
    refine X3.iaload hx (j := (0 : Int32)) (v := (.int sv0)) (by rw [e3]; exact Ar4.1) (State.isArrayOf_alike hZ.alike Ar4.2.1) Ar4.2.2 hin4 hat4 (g := (mkF m 41 #[.val (.ref a0), .val (.long q1), .second, .val (.int (-1 : Int32)), .val (.int (0 : Int32))] [(.int (0 : Int32)), (.ref av)])) rfl rfl (hb hby d4_41) _ ?_
    show Steps p.tables e below (T3.setTop (mkF m 42 #[.val (.ref a0), .val (.long q1), .second, .val (.int (-1 : Int32)), .val (.int (0 : Int32))] [(.int sv0)])) _
    refine XS.i2l X3.here hx rfl (hb hby d4_42) rfl ?_
    show Steps p.tables e below (T3.setTop (mkF m 43 #[.val (.ref a0), .val (.long q1), .second, .val (.int (-1 : Int32)), .val (.int (0 : Int32))] [(.long (sv0.toInt64))])) _
    refine XS.lloadN X3.here hx rfl (hb hby d4_43) rfl ?_
    show Steps p.tables e below (T3.setTop (mkF m 44 #[.val (.ref a0), .val (.long q1), .second, .val (.int (-1 : Int32)), .val (.int (0 : Int32))] [(.long q1), (.long (sv0.toInt64))])) _
    refine XS.lcmp X3.here hx rfl (hb hby d4_44) rfl ?_
    exact kt
  by_cases hc45_5 : (sv0.toInt64) < q1
  · obtain ⟨T6, X6, e6, st6⟩ := getF X3 hx hZ hown (host := "") (Or.inl (hw _ (List.mem_of_getElem? (i := 36) rfl))) Via.refl e3 F_blockSizes_a0 (g := (mkF m 28 #[.val (.ref a0), .val (.long q1), .second, .val (.int (-1 : Int32)), .val (.int (1 : Int32))] [(.ref a0), (.int (1 : Int32))])) rfl rfl (hb hby d4_28)
    obtain ⟨cl7, Ar7, qk7, S7, N7', -, -⟩ := own_same V_av
    obtain ⟨T8, X8, e8, st8⟩ := getF X6 hx hZ hown (host := "") (Or.inl (hw _ (List.mem_of_getElem? (i := 36) rfl))) Via.refl e6 F_blockSizes_a0 (g := (mkF m 36 #[.val (.ref a0), .val (.long q1), .second, .val (.int (-1 : Int32)), .val (.int (1 : Int32))] [(.ref a0)])) rfl rfl (hb hby d4_36)
    obtain ⟨cl9, Ar9, qk9, S9, N9', Hh9, G9⟩ := own_same V_av
    have hin9 : ¬ ((1 : Int32) < 0 ∨ cl9.slots.size ≤ ((1 : Int32)).toNatClampNeg) := inb_of S9 ⟨by decide, by decide⟩
    have hat9 : cl9.slots[((1 : Int32)).toNatClampNeg]? = some (.int sv1) := Has.at Hh9 hin9 rfl
    refine own_back (b := T8.setTop (mkF m 45 #[.val (.ref a0), .val (.long q1), .second, .val (.int (-1 : Int32)), .val (.int (1 : Int32))] [(.int (lcmpW (sv1.toInt64) q1))])) (fun t kt => ?_) ?_
    · show Steps p.tables e below (T3.setTop (mkF m 45 #[.val (.ref a0), .val (.long q1), .second, .val (.int (-1 : Int32)), .val (.int (0 : Int32))] [(.int (lcmpW (sv0.toInt64) q1))])) _
      refine XS.ifYes X3.here hx rfl (pc0 := 45) (pc' := 54) rfl (hb hby d4_45) rfl ((if0 _ _).trans (tlt ((lw_lt _ _).mpr hc45_5)).1) (by decide) (by decide) ?_
      show Steps p.tables e below (T3.setTop (mkF m 54 #[.val (.ref a0), .val (.long q1), .second, .val (.int (-1 : Int32)), .val (.int (0 : Int32))] [])) _
      refine XS.iinc X3.here hx rfl (hb hby d4_54) rfl (l' := #[.val (.ref a0), .val (.long q1), .second, .val (.int (-1 : Int32)), .val (.int (1 : Int32))]) rfl ?_
      show Steps p.tables e below (T3.setTop (mkF m 57 #[.val (.ref a0), .val (.long q1), .second, .val (.int (-1 : Int32)), .val (.int (1 : Int32))] [])) _
      refine XS.goto X3.here hx rfl (pc0 := 57) (pc' := 25) rfl (hb hby d4_57) (by decide) (by decide) ?_
      show Steps p.tables e below (T3.setTop (mkF m 25 #[.val (.ref a0), .val (.long q1), .second, .val (.int (-1 : Int32)), .val (.int (1 : Int32))] [])) _
      refine XS.iload X3.here hx rfl (hb hby d4_25) rfl ?_
      show Steps p.tables e below (T3.setTop (mkF m 27 #[.val (.ref a0), .val (.long q1), .second, .val (.int (-1 : Int32)), .val (.int (1 : Int32))] [(.int (1 : Int32))])) _
      refine XS.aloadN X3.here hx rfl (hb hby d4_27) rfl rfl ?_
      show Steps p.tables e below (T3.setTop (mkF m 28 #[.val (.ref a0), .val (.long q1), .second, .val (.int (-1 : Int32)), .val (.int (1 : Int32))] [(.ref a0), (.int (1 : Int32))])) _
      refine st6 _ ?_
      show Steps p.tables e below (T6.setTop (mkF m 31 #[.val (.ref a0), .val (.long q1), .second, .val (.int (-1 : Int32)), .val (.int (1 : Int32))] [(.ref av), (.int (1 : Int32))])) _
      refine X6.arraylength hx (by rw [e6]; exact Ar7.1) (State.isArrayOf_alike hZ.alike Ar7.2.1) (g := (mkF m 31 #[.val (.ref a0), .val (.long q1), .second, .val (.int (-1 : Int32)), .val (.int (1 : Int32))] [(.ref av), (.int (1 : Int32))])) rfl rfl (hb hby d4_31) _ ?_
      rw [len_of S7 N7']
      show Steps p.tables e below (T6.setTop (mkF m 32 #[.val (.ref a0), .val (.long q1), .second, .val (.int (-1 : Int32)), .val (.int (1 : Int32))] [(.int (2 : Int32)), (.int (1 : Int32))])) _
      refine XS.icmpNo X6.here hx rfl (hb hby d4_32) rfl (tlt (by decide : (1 : Int32) < (2 : Int32))).2.1 ?_
      show Steps p.tables e below (T6.setTop (mkF m 35 #[.val (.ref a0), .val (.long q1), .second, .val (.int (-1 : Int32)), .val (.int (1 : Int32))] [])) _
      refine XS.aloadN X6.here hx rfl (hb hby d4_35) rfl rfl ?_
      show Steps p.tables e below (T6.setTop (mkF m 36 #[.val (.ref a0), .val (.long q1), .second, .val (.int (-1 : Int32)), .val (.int (1 : Int32))] [(.ref a0)])) _
      refine st8 _ ?_
      show Steps p.tables e below (T8.setTop (mkF m 39 #[.val (.ref a0), .val (.long q1), .second, .val (.int (-1 : Int32)), .val (.int (1 : Int32))] [(.ref av)])) _
      refine XS.iload X8.here hx rfl (hb hby d4_39) rfl ?_
      show Steps p.tables e below (T8.setTop (mkF m 41 #[.val (.ref a0), .val (.long q1), .second, .val (.int (-1 : Int32)), .val (.int (1 : Int32))] [(.int (1 : Int32)), (.ref av)])) _
      refine X8.iaload hx (j := (1 : Int32)) (v := (.int sv1)) (by rw [e8]; exact Ar9.1) (State.isArrayOf_alike hZ.alike Ar9.2.1) Ar9.2.2 hin9 hat9 (g := (mkF m 41 #[.val (.ref a0), .val (.long q1), .second, .val (.int (-1 : Int32)), .val (.int (1 : Int32))] [(.int (1 : Int32)), (.ref av)])) rfl rfl (hb hby d4_41) _ ?_
      show Steps p.tables e below (T8.setTop (mkF m 42 #[.val (.ref a0), .val (.long q1), .second, .val (.int (-1 : Int32)), .val (.int (1 : Int32))] [(.int sv1)])) _
      refine XS.i2l X8.here hx rfl (hb hby d4_42) rfl ?_
      show Steps p.tables e below (T8.setTop (mkF m 43 #[.val (.ref a0), .val (.long q1), .second, .val (.int (-1 : Int32)), .val (.int (1 : Int32))] [(.long (sv1.toInt64))])) _
      refine XS.lloadN X8.here hx rfl (hb hby d4_43) rfl ?_
      show Steps p.tables e below (T8.setTop (mkF m 44 #[.val (.ref a0), .val (.long q1), .second, .val (.int (-1 : Int32)), .val (.int (1 : Int32))] [(.long q1), (.long (sv1.toInt64))])) _
      refine XS.lcmp X8.here hx rfl (hb hby d4_44) rfl ?_
      exact kt
    by_cases hc45_10 : (sv1.toInt64) < q1
    · obtain ⟨T11, X11, e11, st11⟩ := getF X8 hx hZ hown (host := "") (Or.inl (hw _ (List.mem_of_getElem? (i := 36) rfl))) Via.refl e8 F_blockSizes_a0 (g := (mkF m 28 #[.val (.ref a0), .val (.long q1), .second, .val (.int (-1 : Int32)), .val (.int (2 : Int32))] [(.ref a0), (.int (2 : Int32))])) rfl rfl (hb hby d4_28)
      obtain ⟨cl12, Ar12, qk12, S12, N12', -, -⟩ := own_same V_av
      refine own_back (b := T11.setTop (mkF m 61 #[.val (.ref a0), .val (.long q1), .second, .val (.int (-1 : Int32)), .val (.int (2 : Int32))] [(.int (-1 : Int32))])) (fun t kt => ?_) ?_
      · show Steps p.tables e below (T8.setTop (mkF m 45 #[.val (.ref a0), .val (.long q1), .second, .val (.int (-1 : Int32)), .val (.int (1 : Int32))] [(.int (lcmpW (sv1.toInt64) q1))])) _
        refine XS.ifYes X8.here hx rfl (pc0 := 45) (pc' := 54) rfl (hb hby d4_45) rfl ((if0 _ _).trans (tlt ((lw_lt _ _).mpr hc45_10)).1) (by decide) (by decide) ?_
        show Steps p.tables e below (T8.setTop (mkF m 54 #[.val (.ref a0), .val (.long q1), .second, .val (.int (-1 : Int32)), .val (.int (1 : Int32))] [])) _
        refine XS.iinc X8.here hx rfl (hb hby d4_54) rfl (l' := #[.val (.ref a0), .val (.long q1), .second, .val (.int (-1 : Int32)), .val (.int (2 : Int32))]) rfl ?_
        show Steps p.tables e below (T8.setTop (mkF m 57 #[.val (.ref a0), .val (.long q1), .second, .val (.int (-1 : Int32)), .val (.int (2 : Int32))] [])) _
        refine XS.goto X8.here hx rfl (pc0 := 57) (pc' := 25) rfl (hb hby d4_57) (by decide) (by decide) ?_
        show Steps p.tables e below (T8.setTop (mkF m 25 #[.val (.ref a0), .val (.long q1), .second, .val (.int (-1 : Int32)), .val (.int (2 : Int32))] [])) _
        refine XS.iload X8.here hx rfl (hb hby d4_25) rfl ?_
        show Steps p.tables e below (T8.setTop (mkF m 27 #[.val (.ref a0), .val (.long q1), .second, .val (.int (-1 : Int32)), .val (.int (2 : Int32))] [(.int (2 : Int32))])) _
        refine XS.aloadN X8.here hx rfl (hb hby d4_27) rfl rfl ?_
        show Steps p.tables e below (T8.setTop (mkF m 28 #[.val (.ref a0), .val (.long q1), .second, .val (.int (-1 : Int32)), .val (.int (2 : Int32))] [(.ref a0), (.int (2 : Int32))])) _
        refine st11 _ ?_
        show Steps p.tables e below (T11.setTop (mkF m 31 #[.val (.ref a0), .val (.long q1), .second, .val (.int (-1 : Int32)), .val (.int (2 : Int32))] [(.ref av), (.int (2 : Int32))])) _
        refine X11.arraylength hx (by rw [e11]; exact Ar12.1) (State.isArrayOf_alike hZ.alike Ar12.2.1) (g := (mkF m 31 #[.val (.ref a0), .val (.long q1), .second, .val (.int (-1 : Int32)), .val (.int (2 : Int32))] [(.ref av), (.int (2 : Int32))])) rfl rfl (hb hby d4_31) _ ?_
        rw [len_of S12 N12']
        show Steps p.tables e below (T11.setTop (mkF m 32 #[.val (.ref a0), .val (.long q1), .second, .val (.int (-1 : Int32)), .val (.int (2 : Int32))] [(.int (2 : Int32)), (.int (2 : Int32))])) _
        refine XS.icmpYes X11.here hx rfl (pc0 := 32) (pc' := 60) rfl (hb hby d4_32) rfl (flt (by decide : ¬ ((2 : Int32) < (2 : Int32)))).2.1 (by decide) (by decide) ?_
        show Steps p.tables e below (T11.setTop (mkF m 60 #[.val (.ref a0), .val (.long q1), .second, .val (.int (-1 : Int32)), .val (.int (2 : Int32))] [])) _
        refine XS.iloadN X11.here hx rfl (hb hby d4_60) rfl ?_
        exact kt
      obtain ⟨fs, hr, hrun, hended, hW, hsame⟩ := X11.leave (v := some (.int (-1 : Int32))) (fun h => by rw [Bd.returns] at h; cases h) (BodyLoose.notSynchronized Bd)
      refine ⟨_, _, ?_, hrun, hended, _, _, rfl, ?_, ⟨_, rfl⟩, hW, hsame.mono (by decide) (by decide)⟩
      · show Steps p.tables e below (T11.setTop (mkF m 61 #[.val (.ref a0), .val (.long q1), .second, .val (.int (-1 : Int32)), .val (.int (2 : Int32))] [(.int (-1 : Int32))])) _
        exact retI X11 hx Bd.returns (hb hby d4_61) hr
      · show Q4b Z a0 q1 av kA sv0 sv1 h0 n0 _ T11.heap _
        rw [e11]
        exact ⟨by rw [show f4b q1 sv0 sv1 = (-1 : Int32) from by unfold f4b; rw [if_pos hc45_5, if_pos hc45_10]], N0, rfl⟩
    · refine own_back (b := T8.setTop (mkF m 61 #[.val (.ref a0), .val (.long q1), .second, .val (.int (1 : Int32)), .val (.int (1 : Int32))] [(.int (1 : Int32))])) (fun t kt => ?_) ?_
      · show Steps p.tables e below (T8.setTop (mkF m 45 #[.val (.ref a0), .val (.long q1), .second, .val (.int (-1 : Int32)), .val (.int (1 : Int32))] [(.int (lcmpW (sv1.toInt64) q1))])) _
        refine XS.ifNo X8.here hx rfl (hb hby d4_45) rfl ((if0 _ _).trans (flt (fun q => hc45_10 ((lw_lt _ _).mp q))).1) ?_
        show Steps p.tables e below (T8.setTop (mkF m 48 #[.val (.ref a0), .val (.long q1), .second, .val (.int (-1 : Int32)), .val (.int (1 : Int32))] [])) _
        refine XS.iload X8.here hx rfl (hb hby d4_48) rfl ?_
        show Steps p.tables e below (T8.setTop (mkF m 50 #[.val (.ref a0), .val (.long q1), .second, .val (.int (-1 : Int32)), .val (.int (1 : Int32))] [(.int (1 : Int32))])) _
        refine XS.istoreN X8.here hx rfl (hb hby d4_50) rfl (l' := #[.val (.ref a0), .val (.long q1), .second, .val (.int (1 : Int32)), .val (.int (1 : Int32))]) rfl ?_
        show Steps p.tables e below (T8.setTop (mkF m 51 #[.val (.ref a0), .val (.long q1), .second, .val (.int (1 : Int32)), .val (.int (1 : Int32))] [])) _
        refine XS.goto X8.here hx rfl (pc0 := 51) (pc' := 60) rfl (hb hby d4_51) (by decide) (by decide) ?_
        show Steps p.tables e below (T8.setTop (mkF m 60 #[.val (.ref a0), .val (.long q1), .second, .val (.int (1 : Int32)), .val (.int (1 : Int32))] [])) _
        refine XS.iloadN X8.here hx rfl (hb hby d4_60) rfl ?_
        exact kt
      obtain ⟨fs, hr, hrun, hended, hW, hsame⟩ := X8.leave (v := some (.int (1 : Int32))) (fun h => by rw [Bd.returns] at h; cases h) (BodyLoose.notSynchronized Bd)
      refine ⟨_, _, ?_, hrun, hended, _, _, rfl, ?_, ⟨_, rfl⟩, hW, hsame.mono (by decide) (by decide)⟩
      · show Steps p.tables e below (T8.setTop (mkF m 61 #[.val (.ref a0), .val (.long q1), .second, .val (.int (1 : Int32)), .val (.int (1 : Int32))] [(.int (1 : Int32))])) _
        exact retI X8 hx Bd.returns (hb hby d4_61) hr
      · show Q4b Z a0 q1 av kA sv0 sv1 h0 n0 _ T8.heap _
        rw [e8]
        exact ⟨by rw [show f4b q1 sv0 sv1 = (1 : Int32) from by unfold f4b; rw [if_pos hc45_5, if_neg hc45_10]], N0, rfl⟩
  · refine own_back (b := T3.setTop (mkF m 61 #[.val (.ref a0), .val (.long q1), .second, .val (.int (0 : Int32)), .val (.int (0 : Int32))] [(.int (0 : Int32))])) (fun t kt => ?_) ?_
    · show Steps p.tables e below (T3.setTop (mkF m 45 #[.val (.ref a0), .val (.long q1), .second, .val (.int (-1 : Int32)), .val (.int (0 : Int32))] [(.int (lcmpW (sv0.toInt64) q1))])) _
      refine XS.ifNo X3.here hx rfl (hb hby d4_45) rfl ((if0 _ _).trans (flt (fun q => hc45_5 ((lw_lt _ _).mp q))).1) ?_
      show Steps p.tables e below (T3.setTop (mkF m 48 #[.val (.ref a0), .val (.long q1), .second, .val (.int (-1 : Int32)), .val (.int (0 : Int32))] [])) _
      refine XS.iload X3.here hx rfl (hb hby d4_48) rfl ?_
      show Steps p.tables e below (T3.setTop (mkF m 50 #[.val (.ref a0), .val (.long q1), .second, .val (.int (-1 : Int32)), .val (.int (0 : Int32))] [(.int (0 : Int32))])) _
      refine XS.istoreN X3.here hx rfl (hb hby d4_50) rfl (l' := #[.val (.ref a0), .val (.long q1), .second, .val (.int (0 : Int32)), .val (.int (0 : Int32))]) rfl ?_
      show Steps p.tables e below (T3.setTop (mkF m 51 #[.val (.ref a0), .val (.long q1), .second, .val (.int (0 : Int32)), .val (.int (0 : Int32))] [])) _
      refine XS.goto X3.here hx rfl (pc0 := 51) (pc' := 60) rfl (hb hby d4_51) (by decide) (by decide) ?_
      show Steps p.tables e below (T3.setTop (mkF m 60 #[.val (.ref a0), .val (.long q1), .second, .val (.int (0 : Int32)), .val (.int (0 : Int32))] [])) _
      refine XS.iloadN X3.here hx rfl (hb hby d4_60) rfl ?_
      exact kt
    obtain ⟨fs, hr, hrun, hended, hW, hsame⟩ := X3.leave (v := some (.int (0 : Int32))) (fun h => by rw [Bd.returns] at h; cases h) (BodyLoose.notSynchronized Bd)
    refine ⟨_, _, ?_, hrun, hended, _, _, rfl, ?_, ⟨_, rfl⟩, hW, hsame.mono (by decide) (by decide)⟩
    · show Steps p.tables e below (T3.setTop (mkF m 61 #[.val (.ref a0), .val (.long q1), .second, .val (.int (0 : Int32)), .val (.int (0 : Int32))] [(.int (0 : Int32))])) _
      exact retI X3 hx Bd.returns (hb hby d4_61) hr
    · show Q4b Z a0 q1 av kA sv0 sv1 h0 n0 _ T3.heap _
      rw [e3]
      exact ⟨by rw [show f4b q1 sv0 sv1 = (0 : Int32) from by unfold f4b; rw [if_neg hc45_5]], N0, rfl⟩
theorem pn_1c : plainName "com/example/byteloom/byteloom/SectionLayout" = true := by first | (simp [plainName, overriddenIn]; done) | decide +kernel
theorem pd_1c_0 : parseMethodDescriptor "(Ljava/lang/Object;Ljava/lang/String;)Ljava/lang/Object;" = some ⟨[(.object "java/lang/Object"), (.object "java/lang/String")], some (.object "java/lang/Object")⟩ := by decide +kernel
theorem ef_1c (m : MethodId) (x0 : Addr) (x1 : Addr) (x2 : Addr) : entryFrame m #[(.ref x0), (.ref x1), (.ref x2)] 8 = mkF m 0 #[.val (.ref x0), .val (.ref x1), .val (.ref x2), .unset, .unset, .unset, .unset, .unset] [] := by first | (simp [entryFrame, mkF, argsToLocals, Value.category]; done) | rfl
def Q1c (Z : State) (a0 : Addr) (a1 : Addr) (a2 : Addr) (kx1 : ClassId) (kx2 : ClassId) (sv0 : Int32) (sv1 : Int32) (sv2 : Int32) (h0 : Heap) (n0 : Nat) (v : Option Value) (h : Heap) (L : List Loc) : Prop := ∃ (bb : Addr), v = none ∧ Fr n0 L ∧ Keep h0 h [a0] ∧ Exa Z h a0 "com/example/byteloom/byteloom/SectionLayout" ∧ Fld Z h a0 "com/example/byteloom/byteloom/SectionLayout" "blockSizes" "[I" (.ref bb) ∧ Arv Z h bb kx1 .int (3 : Int32) [(.int sv0), (.int sv1), (.int sv2)] (.int (0 : Int32))
set_option maxRecDepth 65536 in
set_option maxHeartbeats 40000000 in
theorem rm1c (l : Launch) (Z : State) (aw : Array Value) (hw : ∀ d ∈ tables_1, d.before aw Z = true) (ws : List Jvm.Cond) (a0 : Addr) (a1 : Addr) (a2 : Addr) (kx1 : ClassId) (kx2 : ClassId) (sv0 : Int32) (sv1 : Int32) (sv2 : Int32) (h0 : Heap) (n0 : Nat) (Z0 : n0 ≤ h0.size) (F_blockSizes_a0 : Fld Z h0 a0 "com/example/byteloom/byteloom/SectionLayout" "blockSizes" "[I" .null) (F_blockCounts_a0 : Fld Z h0 a0 "com/example/byteloom/byteloom/SectionLayout" "blockCounts" "[I" .null) (F_reservedBytes_a0 : Fld Z h0 a0 "com/example/byteloom/byteloom/SectionLayout" "reservedBytes" "J" (.long (0 : Int64))) (E_a0 : Exa Z h0 a0 "com/example/byteloom/byteloom/SectionLayout") (g_a0 : n0 ≤ a0) (V_a1 : Arv Z h0 a1 kx1 .int (3 : Int32) [(.int sv0), (.int sv1), (.int sv2)] (.int (0 : Int32))) (V_a2 : Arv Z h0 a2 kx2 .int (3 : Int32) [(.int (1 : Int32)), (.int (1 : Int32)), (.int (1 : Int32))] (.int (0 : Int32))) (E_a1 : Exa Z h0 a1 "[I") (E_a2 : Exa Z h0 a2 "[I") (ne_a1_a0 : a1 ≠ a0) (ne_a2_a0 : a2 ≠ a0) (hps0 : ¬ (sv0 < (1 : Int32))) (hps1 : ¬ (sv1 < (1 : Int32))) (hps2 : ¬ (sv2 < (1 : Int32))) (hpg0 : sv0 < sv1) (hpg1 : sv1 < sv2) :
    MetFree l (⟨"com/example/byteloom/byteloom/SectionLayout", "<init>", "([I[I)V"⟩ : MethodName) (head1 (Jvm.Cond.code (⟨"com/example/byteloom/byteloom/SectionLayout", "<init>", "([I[I)V"⟩ : MethodName) prog_14_method_1_code 8 none :: ws) ({ frames := 1, cells := 6, slots := 98, locals := 15 } : Room)) (fun a U => a = #[(.ref a0), (.ref a1), (.ref a2)] ∧ Z.Warmed39 U.vm ∧ U.heap = h0) (fun _ _ _ _ _ => True) (fun _ U o U' => ∃ v L, o = .returned v ∧ Q1c Z a0 a1 a2 kx1 kx2 sv0 sv1 sv2 h0 n0 v U'.heap L ∧ ReturnedEndW U o U' L ({ frames := 1, cells := 6, slots := 98, locals := 15 } : Room).cells ({ frames := 1, cells := 6, slots := 98, locals := 15 } : Room).slots) := by
  refine MetFree.of_bodySF (plainFor_of_name pn_1c) hisR ?_
  intro p e s m args below meth c s₁ Bd hml0 hP hK
  obtain ⟨rfl, hZ, hh⟩ := hP
  have hx := Bd.exec
  have hby := Bd.bytes
  have hml : c.maxLocals = 8 := hml0
  have hown : s.vm.findClass "com/example/byteloom/byteloom/SectionLayout" = some m.cls := findClass_of_methodNamed Bd.named
  have hnm := (name_of_methodNamed Bd.named Bd.method).1
  have X0 : Stand p l e ({ frames := 1, cells := 6, slots := 98, locals := 15 } : Room) s m #[(.ref a0), (.ref a1), (.ref a2)] below meth c s₁ [] 0 0 := Stand.of_body Bd
  have e0 : s₁.heap = h0 := by rw [← hh, Bd.state]; rfl
  have N0 := Fr.nil n0
  refine own_back (b := s₁.setTop (mkF m 0 #[.val (.ref a0), .val (.ref a1), .val (.ref a2), .unset, .unset, .unset, .unset, .unset] [])) (fun t kt => castTop (ef_1c m a0 a1 a2) kt) ?_
  obtain ⟨T1, X1, e1, st1⟩ := initO X0 hx hZ hown (hw _ (List.mem_of_getElem? (i := 11) rfl)) (hw _ (List.mem_of_getElem? (i := 12) rfl)) (hw _ (List.mem_of_getElem? (i := 13) rfl)) e0 (g := (mkF m 1 #[.val (.ref a0), .val (.ref a1), .val (.ref a2), .unset, .unset, .unset, .unset, .unset] [(.ref a0)])) rfl (by rw [hml]; rfl) rfl (hb hby d1_1) (by decide) (W := 0) (by show 2 * 0 + _ ≤ _; exact Nat.le_of_eq rfl) (by decide)
  have wS : ∀ a ∈ Bundle.stringAtoms, a.before aw Z = true := by
    intro d hd
    simp only [Bundle.stringAtoms, List.mem_cons, List.not_mem_nil, or_false] at hd
    rcases hd with rfl | rfl | rfl | rfl | rfl | rfl | rfl
    · exact (hw _ (List.mem_of_getElem? (i := 15) rfl))
    · exact (hw _ (List.mem_of_getElem? (i := 16) rfl))
    · exact (hw _ (List.mem_of_getElem? (i := 17) rfl))
    · exact (hw _ (List.mem_of_getElem? (i := 18) rfl))
    · exact (hw _ (List.mem_of_getElem? (i := 19) rfl))
    · exact (hw _ (List.mem_of_getElem? (i := 20) rfl))
    · exact (hw _ (List.mem_of_getElem? (i := 21) rfl))
  obtain ⟨c2, T2, h2, k2, X2, e2, E2, hS2, hk2, hZ, hown, st2⟩ := ldcS (s := s) (vm0 := s.vm) X1 hx hZ hown (hw _ (List.mem_of_getElem? (i := 14) rfl)) wS e1 ((State.WarmedH.refl s).since 0) (Nat.zero_le _) (g := (mkF m 5 #[.val (.ref a0), .val (.ref a1), .val (.ref a2), .unset, .unset, .unset, .unset, .unset] [(.ref a1)])) rfl (hb hby d1_5) (n := 40) (by decide) (by decide) (by decide) (by decide)
  have f2_0 := F_blockSizes_a0.ext E2
  have f2_1 := F_blockCounts_a0.ext E2
  have f2_2 := F_reservedBytes_a0.ext E2
  have f2_3 := E_a0.ext E2
  have f2_4 := V_a1.ext E2
  have f2_5 := V_a2.ext E2
  have f2_6 := E_a1.ext E2
  have f2_7 := E_a2.ext E2
  have K2 : Keep h0 h2 [a0] := (Keep.refl h0 _).ext E2
  have Z2 : n0 ≤ h2.size := Nat.le_trans Z0 E2.1
  obtain ⟨_, _, ⟨T3, L3, k3, n3⟩, -, X3, ⟨Lc3, hQ3, l3, y3, z3⟩, st3⟩ := Jvm.LawKit.callS X2 hx (y := (⟨"java/util/Objects", "requireNonNull", "(Ljava/lang/Object;Ljava/lang/String;)Ljava/lang/Object;"⟩ : MethodName)) hown (mvT hZ (hw _ (List.mem_of_getElem? (i := 22) rfl))) (mvT hZ (hw _ (List.mem_of_getElem? (i := 23) rfl))) (mvT hZ (hw _ (List.mem_of_getElem? (i := 24) rfl))) (mvT hZ (hw _ (List.mem_of_getElem? (i := 25) rfl))) (by decide) (backOf (W := 0) (rm3 l Z aw hw [] a1 c2 h2 n0 Z2 ) hZ (hw _ (List.mem_of_getElem? (i := 25) rfl)) (hw _ (List.mem_of_getElem? (i := 24) rfl)) (by decide) (by decide)) (g := (mkF m 7 #[.val (.ref a0), .val (.ref a1), .val (.ref a2), .unset, .unset, .unset, .unset, .unset] [(.ref c2), (.ref a1)])) rfl (by rw [hml]; rfl) (argsL := [(.ref a1), (.ref c2)]) (rest := []) (lenOf pd_1c_0 rfl) rfl (by show 2 * 0 + _ ≤ _; exact Nat.le_of_eq rfl) (hb hby d1_7) (fun _ _ => ⟨rfl, e2, (by decide : 2 + 0 ≤ _), (by decide : 44 + 0 ≤ _)⟩)
  dsimp only [Pt.U, Pt.locs, Pt.cells, Pt.slots] at X3 l3 y3 z3 st3 hQ3
  rw [l3, y3, z3] at X3
  obtain ⟨rfl, Nq3, e3⟩ := hQ3
  have N3 := Fr.app N0 Nq3
  obtain ⟨c4, T4, h4, k4, X4, e4, E4, hS4, hk4, hZ, hown, st4⟩ := ldcS (s := s) (vm0 := T2.vm) X3 hx hZ hown (hw _ (List.mem_of_getElem? (i := 26) rfl)) wS e3 hS2 hk2 (g := (mkF m 12 #[.val (.ref a0), .val (.ref a1), .val (.ref a2), .unset, .unset, .unset, .unset, .unset] [(.ref a2)])) rfl (hb hby d1_12) (n := 44) (by decide) (by decide) (by decide) (by decide)
  have f4_0 := f2_0.ext E4
  have f4_1 := f2_1.ext E4
  have f4_2 := f2_2.ext E4
  have f4_3 := f2_3.ext E4
  have f4_4 := f2_4.ext E4
  have f4_5 := f2_5.ext E4
  have f4_6 := f2_6.ext E4
  have f4_7 := f2_7.ext E4
  have K4 := K2.ext E4
  have Z4 : n0 ≤ h4.size := Nat.le_trans Z2 E4.1
  obtain ⟨_, _, ⟨T5, L5, k5, n5⟩, -, X5, ⟨Lc5, hQ5, l5, y5, z5⟩, st5⟩ := Jvm.LawKit.callS X4 hx (y := (⟨"java/util/Objects", "requireNonNull", "(Ljava/lang/Object;Ljava/lang/String;)Ljava/lang/Object;"⟩ : MethodName)) hown (mvT hZ (hw _ (List.mem_of_getElem? (i := 22) rfl))) (mvT hZ (hw _ (List.mem_of_getElem? (i := 23) rfl))) (mvT hZ (hw _ (List.mem_of_getElem? (i := 24) rfl))) (mvT hZ (hw _ (List.mem_of_getElem? (i := 25) rfl))) (by decide) (backOf (W := 0) (rm3 l Z aw hw [] a2 c4 h4 n0 Z4 ) hZ (hw _ (List.mem_of_getElem? (i := 25) rfl)) (hw _ (List.mem_of_getElem? (i := 24) rfl)) (by decide) (by decide)) (g := (mkF m 14 #[.val (.ref a0), .val (.ref a1), .val (.ref a2), .unset, .unset, .unset, .unset, .unset] [(.ref c4), (.ref a2)])) rfl (by rw [hml]; rfl) (argsL := [(.ref a2), (.ref c4)]) (rest := []) (lenOf pd_1c_0 rfl) rfl (by show 2 * 0 + _ ≤ _; exact Nat.le_of_eq rfl) (hb hby d1_14) (fun _ _ => ⟨rfl, e4, (by decide : 4 + 0 ≤ _), (by decide : 92 + 0 ≤ _)⟩)
  dsimp only [Pt.U, Pt.locs, Pt.cells, Pt.slots] at X5 l5 y5 z5 st5 hQ5
  rw [l5, y5, z5] at X5
  obtain ⟨rfl, Nq5, e5⟩ := hQ5
  have N5 := Fr.app N3 Nq5
  obtain ⟨cl6, Ar6, qk6, S6, N6', -, -⟩ := own_same f4_4
  obtain ⟨cl7, Ar7, qk7, S7, N7', -, -⟩ := own_same f4_4
  obtain ⟨cl8, Ar8, qk8, S8, N8', -, -⟩ := own_same f4_5
  obtain ⟨cl9, Ar9, qk9, S9, N9', -, -⟩ := own_same f4_4
  obtain ⟨cl10, Ar10, qk10, S10, N10', Hh10, G10⟩ := own_same f4_4
  have hin10 : ¬ ((0 : Int32) < 0 ∨ cl10.slots.size ≤ ((0 : Int32)).toNatClampNeg) := inb_of S10 ⟨by decide, by decide⟩
  have hat10 : cl10.slots[((0 : Int32)).toNatClampNeg]? = some (.int sv0) := Has.at Hh10 hin10 rfl
  obtain ⟨cl11, Ar11, qk11, S11, N11', Hh11, G11⟩ := own_same f4_5
  have hin11 : ¬ ((0 : Int32) < 0 ∨ cl11.slots.size ≤ ((0 : Int32)).toNatClampNeg) := inb_of S11 ⟨by decide, by decide⟩
  have hat11 : cl11.slots[((0 : Int32)).toNatClampNeg]? = some (.int (1 : Int32)) := Has.at Hh11 hin11 rfl
  obtain ⟨cl12, Ar12, qk12, S12, N12', -, -⟩ := own_same f4_4
  obtain ⟨cl13, Ar13, qk13, S13, N13', Hh13, G13⟩ := own_same f4_4
  have hin13 : ¬ ((1 : Int32) < 0 ∨ cl13.slots.size ≤ ((1 : Int32)).toNatClampNeg) := inb_of S13 ⟨by decide, by decide⟩
  have hat13 : cl13.slots[((1 : Int32)).toNatClampNeg]? = some (.int sv1) := Has.at Hh13 hin13 rfl
  obtain ⟨cl14, Ar14, qk14, S14, N14', Hh14, G14⟩ := own_same f4_5
  have hin14 : ¬ ((1 : Int32) < 0 ∨ cl14.slots.size ≤ ((1 : Int32)).toNatClampNeg) := inb_of S14 ⟨by decide, by decide⟩
  have hat14 : cl14.slots[((1 : Int32)).toNatClampNeg]? = some (.int (1 : Int32)) := Has.at Hh14 hin14 rfl
  obtain ⟨cl15, Ar15, qk15, S15, N15', Hh15, G15⟩ := own_same f4_4
  have hin15 : ¬ ((0 : Int32) < 0 ∨ cl15.slots.size ≤ ((0 : Int32)).toNatClampNeg) := inb_of S15 ⟨by decide, by decide⟩
  have hat15 : cl15.slots[((0 : Int32)).toNatClampNeg]? = some (.int sv0) := Has.at Hh15 hin15 rfl
  obtain ⟨cl16, Ar16, qk16, S16, N16', -, -⟩ := own_same f4_4
  obtain ⟨cl17, Ar17, qk17, S17, N17', Hh17, G17⟩ := own_same f4_4
  have hin17 : ¬ ((2 : Int32) < 0 ∨ cl17.slots.size ≤ ((2 : Int32)).toNatClampNeg) := inb_of S17 ⟨by decide, by decide⟩
  have hat17 : cl17.slots[((2 : Int32)).toNatClampNeg]? = some (.int sv2) := Has.at Hh17 hin17 rfl
  obtain ⟨cl18, Ar18, qk18, S18, N18', Hh18, G18⟩ := own_same f4_5
  have hin18 : ¬ ((2 : Int32) < 0 ∨ cl18.slots.size ≤ ((2 : Int32)).toNatClampNeg) := inb_of S18 ⟨by decide, by decide⟩
  have hat18 : cl18.slots[((2 : Int32)).toNatClampNeg]? = some (.int (1 : Int32)) := Has.at Hh18 hin18 rfl
  obtain ⟨cl19, Ar19, qk19, S19, N19', Hh19, G19⟩ := own_same f4_4
  have hin19 : ¬ ((1 : Int32) < 0 ∨ cl19.slots.size ≤ ((1 : Int32)).toNatClampNeg) := inb_of S19 ⟨by decide, by decide⟩
  have hat19 : cl19.slots[((1 : Int32)).toNatClampNeg]? = some (.int sv1) := Has.at Hh19 hin19 rfl
  obtain ⟨cl20, Ar20, qk20, S20, N20', -, -⟩ := own_same f4_4
  obtain ⟨T21, h21, X21, e21, E21, V21, A21, st21⟩ := cloneH X5 hx hZ hown (hw _ (List.mem_of_getElem? (i := 27) rfl)) (hw _ (List.mem_of_getElem? (i := 28) rfl)) (hw _ (List.mem_of_getElem? (i := 32) rfl)) (hw _ (List.mem_of_getElem? (i := 30) rfl)) (hw _ (List.mem_of_getElem? (i := 31) rfl)) (hw _ (List.mem_of_getElem? (i := 33) rfl)) e5 (hs := []) f4_4 f4_6 (g := (mkF m 184 #[.val (.ref a0), .val (.ref a1), .val (.ref a2), .val (.long ((((0 : Int64) + ((sv0.toInt64) * ((1 : Int32).toInt64))) + ((sv1.toInt64) * ((1 : Int32).toInt64))) + ((sv2.toInt64) * ((1 : Int32).toInt64)))), .second, .val (.int (3 : Int32)), .val (.int sv2), .val (.int (1 : Int32))] [(.ref a1), (.ref a0)])) rfl (by rw [hml]; rfl) rfl (hb hby d1_184) (by decide) (W := 1) (by show 2 * 0 + _ ≤ _; exact Nat.le_of_eq rfl) (by decide) (cap := 3) (by decide) (by decide) (by decide)
  obtain ⟨b21, g21⟩ : ∃ z, z = h4.size := ⟨_, rfl⟩
  rw [← g21] at V21 A21 st21
  have ne21_a0 : a0 ≠ b21 := Nat.ne_of_lt (Nat.lt_of_lt_of_le f4_0.lt (Nat.le_of_eq g21.symm))
  have ne21_a1 : a1 ≠ b21 := Nat.ne_of_lt (Nat.lt_of_lt_of_le f4_4.lt (Nat.le_of_eq g21.symm))
  have ne21_a2 : a2 ≠ b21 := Nat.ne_of_lt (Nat.lt_of_lt_of_le f4_5.lt (Nat.le_of_eq g21.symm))
  have lo21 : n0 ≤ b21 := Nat.le_trans Z4 (Nat.le_of_eq g21.symm)
  have sz21 : h0.size ≤ b21 := Nat.le_trans K4.1 (Nat.le_of_eq g21.symm)
  have f21_0 := f4_0.ext E21
  have f21_1 := f4_1.ext E21
  have f21_2 := f4_2.ext E21
  have f21_3 := f4_3.ext E21
  have f21_4 := f4_4.ext E21
  have f21_5 := f4_5.ext E21
  have f21_6 := f4_6.ext E21
  have f21_7 := f4_7.ext E21
  have K21 := K4.ext E21
  have Z21 : n0 ≤ h21.size := Nat.le_trans Z4 E21.1
  have hk21 := Nat.le_trans hk4 E21.1
  have Vc21 : Arv Z h21 b21 kx1 .int (3 : Int32) [(.int sv0), (.int sv1), (.int sv2)] (.int (0 : Int32)) := V21
  obtain ⟨T22, X22, e22, st22⟩ := castY X21 hx hZ hown (hw _ (List.mem_of_getElem? (i := 34) rfl)) e21 (Ins.self A21) (g := (mkF m 187 #[.val (.ref a0), .val (.ref a1), .val (.ref a2), .val (.long ((((0 : Int64) + ((sv0.toInt64) * ((1 : Int32).toInt64))) + ((sv1.toInt64) * ((1 : Int32).toInt64))) + ((sv2.toInt64) * ((1 : Int32).toInt64)))), .second, .val (.int (3 : Int32)), .val (.int sv2), .val (.int (1 : Int32))] [(.ref b21), (.ref a0)])) rfl rfl (hb hby d1_187)
  obtain ⟨T23, h23, X23, e23, W23, st23⟩ := putF X22 hx hZ hown (host := "") (Or.inl (hw _ (List.mem_of_getElem? (i := 36) rfl))) Via.refl e22 f21_0 f21_3 (Or.inr ⟨(hw _ (List.mem_of_getElem? (i := 37) rfl)), rfl, hnm⟩) (hw _ (List.mem_of_getElem? (i := 5) rfl)) (ty := (.array .int)) (by decide) rfl rfl (g := (mkF m 190 #[.val (.ref a0), .val (.ref a1), .val (.ref a2), .val (.long ((((0 : Int64) + ((sv0.toInt64) * ((1 : Int32).toInt64))) + ((sv1.toInt64) * ((1 : Int32).toInt64))) + ((sv2.toInt64) * ((1 : Int32).toInt64)))), .second, .val (.int (3 : Int32)), .val (.int sv2), .val (.int (1 : Int32))] [(.ref b21), (.ref a0)])) rfl rfl (hb hby d1_190)
  have Fw23 := f21_0.same W23
  have f23_0 := f21_1.other W23 (Or.inr (slot_ne (Or.inr (hw _ (List.mem_of_getElem? (i := 39) rfl))) (Or.inr (hw _ (List.mem_of_getElem? (i := 37) rfl))) (by decide) (t := (.array .int)) (t' := (.array .int)) (by decide) (by decide)))
  have f23_1 := f21_2.other W23 (Or.inr (slot_ne (Or.inr (hw _ (List.mem_of_getElem? (i := 41) rfl))) (Or.inr (hw _ (List.mem_of_getElem? (i := 37) rfl))) (by decide) (t := .long) (t' := (.array .int)) (by decide) (by decide)))
  have f23_2 := f21_3.wr W23
  have f23_3 := f21_4.other W23 ne_a1_a0
  have f23_4 := f21_5.other W23 ne_a2_a0
  have f23_5 := f21_6.wr W23
  have f23_6 := f21_7.wr W23
  have f23_7 := Vc21.other W23 (Ne.symm ne21_a0)
  have f23_8 := A21.wr W23
  have K23 : Keep h0 h23 [a0] := K21.wr W23 (Or.inl (List.mem_of_getElem? (i := 0) rfl))
  have Z23 : n0 ≤ h23.size := Nat.le_trans Z21 (Keep.of_wr W23).1
  have hk23 := Nat.le_trans hk21 (Keep.of_wr W23).1
  have N23 := Fr.snoc X23 N5 g_a0
  obtain ⟨T24, h24, X24, e24, E24, V24, A24, st24⟩ := cloneH X23 hx hZ hown (hw _ (List.mem_of_getElem? (i := 27) rfl)) (hw _ (List.mem_of_getElem? (i := 28) rfl)) (hw _ (List.mem_of_getElem? (i := 32) rfl)) (hw _ (List.mem_of_getElem? (i := 30) rfl)) (hw _ (List.mem_of_getElem? (i := 31) rfl)) (hw _ (List.mem_of_getElem? (i := 33) rfl)) e23 (hs := []) f23_4 f23_6 (g := (mkF m 195 #[.val (.ref a0), .val (.ref a1), .val (.ref a2), .val (.long ((((0 : Int64) + ((sv0.toInt64) * ((1 : Int32).toInt64))) + ((sv1.toInt64) * ((1 : Int32).toInt64))) + ((sv2.toInt64) * ((1 : Int32).toInt64)))), .second, .val (.int (3 : Int32)), .val (.int sv2), .val (.int (1 : Int32))] [(.ref a2), (.ref a0)])) rfl (by rw [hml]; rfl) rfl (hb hby d1_195) (by decide) (W := 1) (by show 2 * 0 + _ ≤ _; exact Nat.le_of_eq rfl) (by decide) (cap := 3) (by decide) (by decide) (by decide)
  obtain ⟨b24, g24⟩ : ∃ z, z = h23.size := ⟨_, rfl⟩
  rw [← g24] at V24 A24 st24
  have ne24_a0 : a0 ≠ b24 := Nat.ne_of_lt (Nat.lt_of_lt_of_le f23_0.lt (Nat.le_of_eq g24.symm))
  have ne24_a1 : a1 ≠ b24 := Nat.ne_of_lt (Nat.lt_of_lt_of_le f23_3.lt (Nat.le_of_eq g24.symm))
  have ne24_a2 : a2 ≠ b24 := Nat.ne_of_lt (Nat.lt_of_lt_of_le f23_4.lt (Nat.le_of_eq g24.symm))
  have ne24_b21 : b21 ≠ b24 := Nat.ne_of_lt (Nat.lt_of_lt_of_le f23_7.lt (Nat.le_of_eq g24.symm))
  have lo24 : n0 ≤ b24 := Nat.le_trans Z23 (Nat.le_of_eq g24.symm)
  have sz24 : h0.size ≤ b24 := Nat.le_trans K23.1 (Nat.le_of_eq g24.symm)
  have f24_0 := f23_0.ext E24
  have f24_1 := f23_1.ext E24
  have f24_2 := f23_2.ext E24
  have f24_3 := f23_3.ext E24
  have f24_4 := f23_4.ext E24
  have f24_5 := f23_5.ext E24
  have f24_6 := f23_6.ext E24
  have f24_7 := f23_7.ext E24
  have f24_8 := f23_8.ext E24
  have f24_9 := Fw23.ext E24
  have K24 := K23.ext E24
  have Z24 : n0 ≤ h24.size := Nat.le_trans Z23 E24.1
  have hk24 := Nat.le_trans hk23 E24.1
  have Vc24 : Arv Z h24 b24 kx2 .int (3 : Int32) [(.int (1 : Int32)), (.int (1 : Int32)), (.int (1 : Int32))] (.int (0 : Int32)) := V24
  obtain ⟨T25, X25, e25, st25⟩ := castY X24 hx hZ hown (hw _ (List.mem_of_getElem? (i := 34) rfl)) e24 (Ins.self A24) (g := (mkF m 198 #[.val (.ref a0), .val (.ref a1), .val (.ref a2), .val (.long ((((0 : Int64) + ((sv0.toInt64) * ((1 : Int32).toInt64))) + ((sv1.toInt64) * ((1 : Int32).toInt64))) + ((sv2.toInt64) * ((1 : Int32).toInt64)))), .second, .val (.int (3 : Int32)), .val (.int sv2), .val (.int (1 : Int32))] [(.ref b24), (.ref a0)])) rfl rfl (hb hby d1_198)
  obtain ⟨T26, h26, X26, e26, W26, st26⟩ := putF X25 hx hZ hown (host := "") (Or.inl (hw _ (List.mem_of_getElem? (i := 38) rfl))) Via.refl e25 f24_0 f24_2 (Or.inr ⟨(hw _ (List.mem_of_getElem? (i := 39) rfl)), rfl, hnm⟩) (hw _ (List.mem_of_getElem? (i := 5) rfl)) (ty := (.array .int)) (by decide) rfl rfl (g := (mkF m 201 #[.val (.ref a0), .val (.ref a1), .val (.ref a2), .val (.long ((((0 : Int64) + ((sv0.toInt64) * ((1 : Int32).toInt64))) + ((sv1.toInt64) * ((1 : Int32).toInt64))) + ((sv2.toInt64) * ((1 : Int32).toInt64)))), .second, .val (.int (3 : Int32)), .val (.int sv2), .val (.int (1 : Int32))] [(.ref b24), (.ref a0)])) rfl rfl (hb hby d1_201)
  have Fw26 := f24_0.same W26
  have f26_0 := f24_1.other W26 (Or.inr (slot_ne (Or.inr (hw _ (List.mem_of_getElem? (i := 41) rfl))) (Or.inr (hw _ (List.mem_of_getElem? (i := 39) rfl))) (by decide) (t := .long) (t' := (.array .int)) (by decide) (by decide)))
  have f26_1 := f24_2.wr W26
  have f26_2 := f24_3.other W26 ne_a1_a0
  have f26_3 := f24_4.other W26 ne_a2_a0
  have f26_4 := f24_5.wr W26
  have f26_5 := f24_6.wr W26
  have f26_6 := f24_7.other W26 (Ne.symm ne21_a0)
  have f26_7 := f24_8.wr W26
  have f26_8 := f24_9.other W26 (Or.inr (slot_ne (Or.inr (hw _ (List.mem_of_getElem? (i := 37) rfl))) (Or.inr (hw _ (List.mem_of_getElem? (i := 39) rfl))) (by decide) (t := (.array .int)) (t' := (.array .int)) (by decide) (by decide)))
  have f26_9 := Vc24.other W26 (Ne.symm ne24_a0)
  have f26_10 := A24.wr W26
  have K26 : Keep h0 h26 [a0] := K24.wr W26 (Or.inl (List.mem_of_getElem? (i := 0) rfl))
  have Z26 : n0 ≤ h26.size := Nat.le_trans Z24 (Keep.of_wr W26).1
  have hk26 := Nat.le_trans hk24 (Keep.of_wr W26).1
  have N26 := Fr.snoc X26 N23 g_a0
  obtain ⟨T27, h27, X27, e27, W27, st27⟩ := putF X26 hx hZ hown (host := "") (Or.inl (hw _ (List.mem_of_getElem? (i := 40) rfl))) Via.refl e26 f26_0 f26_1 (Or.inr ⟨(hw _ (List.mem_of_getElem? (i := 41) rfl)), rfl, hnm⟩) (hw _ (List.mem_of_getElem? (i := 5) rfl)) (ty := .long) (by decide) rfl rfl (g := (mkF m 206 #[.val (.ref a0), .val (.ref a1), .val (.ref a2), .val (.long ((((0 : Int64) + ((sv0.toInt64) * ((1 : Int32).toInt64))) + ((sv1.toInt64) * ((1 : Int32).toInt64))) + ((sv2.toInt64) * ((1 : Int32).toInt64)))), .second, .val (.int (3 : Int32)), .val (.int sv2), .val (.int (1 : Int32))] [(.long ((((0 : Int64) + ((sv0.toInt64) * ((1 : Int32).toInt64))) + ((sv1.toInt64) * ((1 : Int32).toInt64))) + ((sv2.toInt64) * ((1 : Int32).toInt64)))), (.ref a0)])) rfl rfl (hb hby d1_206)
  have Fw27 := f26_0.same W27
  have f27_0 := f26_1.wr W27
  have f27_1 := f26_2.other W27 ne_a1_a0
  have f27_2 := f26_3.other W27 ne_a2_a0
  have f27_3 := f26_4.wr W27
  have f27_4 := f26_5.wr W27
  have f27_5 := f26_6.other W27 (Ne.symm ne21_a0)
  have f27_6 := f26_7.wr W27
  have f27_7 := f26_8.other W27 (Or.inr (slot_ne (Or.inr (hw _ (List.mem_of_getElem? (i := 37) rfl))) (Or.inr (hw _ (List.mem_of_getElem? (i := 41) rfl))) (by decide) (t := (.array .int)) (t' := .long) (by decide) (by decide)))
  have f27_8 := f26_9.other W27 (Ne.symm ne24_a0)
  have f27_9 := f26_10.wr W27
  have f27_10 := Fw26.other W27 (Or.inr (slot_ne (Or.inr (hw _ (List.mem_of_getElem? (i := 39) rfl))) (Or.inr (hw _ (List.mem_of_getElem? (i := 41) rfl))) (by decide) (t := (.array .int)) (t' := .long) (by decide) (by decide)))
  have K27 : Keep h0 h27 [a0] := K26.wr W27 (Or.inl (List.mem_of_getElem? (i := 0) rfl))
  have Z27 : n0 ≤ h27.size := Nat.le_trans Z26 (Keep.of_wr W27).1
  have hk27 := Nat.le_trans hk26 (Keep.of_wr W27).1
  have N27 := Fr.snoc X27 N26 g_a0
  refine own_back (b := T27.setTop (mkF m 209 #[.val (.ref a0), .val (.ref a1), .val (.ref a2), .val (.long ((((0 : Int64) + ((sv0.toInt64) * ((1 : Int32).toInt64))) + ((sv1.toInt64) * ((1 : Int32).toInt64))) + ((sv2.toInt64) * ((1 : Int32).toInt64)))), .second, .val (.int (3 : Int32)), .val (.int sv2), .val (.int (1 : Int32))] [])) (fun t kt => ?_) ?_
  · show Steps p.tables e below (s₁.setTop (mkF m 0 #[.val (.ref a0), .val (.ref a1), .val (.ref a2), .unset, .unset, .unset, .unset, .unset] [])) _
    refine XS.aloadN X0.here hx rfl (hb hby d1_0) rfl rfl ?_
    show Steps p.tables e below (s₁.setTop (mkF m 1 #[.val (.ref a0), .val (.ref a1), .val (.ref a2), .unset, .unset, .unset, .unset, .unset] [(.ref a0)])) _
    refine st1 _ ?_
    show Steps p.tables e below (T1.setTop (mkF m 4 #[.val (.ref a0), .val (.ref a1), .val (.ref a2), .unset, .unset, .unset, .unset, .unset] [])) _
    refine XS.aloadN X1.here hx rfl (hb hby d1_4) rfl rfl ?_
    show Steps p.tables e below (T1.setTop (mkF m 5 #[.val (.ref a0), .val (.ref a1), .val (.ref a2), .unset, .unset, .unset, .unset, .unset] [(.ref a1)])) _
    refine st2 _ ?_
    show Steps p.tables e below (T2.setTop (mkF m 7 #[.val (.ref a0), .val (.ref a1), .val (.ref a2), .unset, .unset, .unset, .unset, .unset] [(.ref c2), (.ref a1)])) _
    refine st3 _ ?_
    show Steps p.tables e below (T3.setTop (mkF m 10 #[.val (.ref a0), .val (.ref a1), .val (.ref a2), .unset, .unset, .unset, .unset, .unset] [(.ref a1)])) _
    refine XS.pop X3.here hx rfl (hb hby d1_10) rfl rfl ?_
    show Steps p.tables e below (T3.setTop (mkF m 11 #[.val (.ref a0), .val (.ref a1), .val (.ref a2), .unset, .unset, .unset, .unset, .unset] [])) _
    refine XS.aloadN X3.here hx rfl (hb hby d1_11) rfl rfl ?_
    show Steps p.tables e below (T3.setTop (mkF m 12 #[.val (.ref a0), .val (.ref a1), .val (.ref a2), .unset, .unset, .unset, .unset, .unset] [(.ref a2)])) _
    refine st4 _ ?_
    show Steps p.tables e below (T4.setTop (mkF m 14 #[.val (.ref a0), .val (.ref a1), .val (.ref a2), .unset, .unset, .unset, .unset, .unset] [(.ref c4), (.ref a2)])) _
    refine st5 _ ?_
    show Steps p.tables e below (T5.setTop (mkF m 17 #[.val (.ref a0), .val (.ref a1), .val (.ref a2), .unset, .unset, .unset, .unset, .unset] [(.ref a2)])) _
    refine XS.pop X5.here hx rfl (hb hby d1_17) rfl rfl ?_
    show Steps p.tables e below (T5.setTop (mkF m 18 #[.val (.ref a0), .val (.ref a1), .val (.ref a2), .unset, .unset, .unset, .unset, .unset] [])) _
    refine XS.aloadN X5.here hx rfl (hb hby d1_18) rfl rfl ?_
    show Steps p.tables e below (T5.setTop (mkF m 19 #[.val (.ref a0), .val (.ref a1), .val (.ref a2), .unset, .unset, .unset, .unset, .unset] [(.ref a1)])) _
    refine X5.arraylength hx (by rw [e5]; exact Ar6.1) (State.isArrayOf_alike hZ.alike Ar6.2.1) (g := (mkF m 19 #[.val (.ref a0), .val (.ref a1), .val (.ref a2), .unset, .unset, .unset, .unset, .unset] [(.ref a1)])) rfl rfl (hb hby d1_19) _ ?_
    rw [len_of S6 N6']
    show Steps p.tables e below (T5.setTop (mkF m 20 #[.val (.ref a0), .val (.ref a1), .val (.ref a2), .unset, .unset, .unset, .unset, .unset] [(.int (3 : Int32))])) _
    refine XS.ifYes X5.here hx rfl (pc0 := 20) (pc' := 33) rfl (hb hby d1_20) rfl ((if0 _ _).trans (feq (by decide : ¬ ((3 : Int32) = (0 : Int32)))).2) (by decide) (by decide) ?_
    show Steps p.tables e below (T5.setTop (mkF m 33 #[.val (.ref a0), .val (.ref a1), .val (.ref a2), .unset, .unset, .unset, .unset, .unset] [])) _
    refine XS.aloadN X5.here hx rfl (hb hby d1_33) rfl rfl ?_
    show Steps p.tables e below (T5.setTop (mkF m 34 #[.val (.ref a0), .val (.ref a1), .val (.ref a2), .unset, .unset, .unset, .unset, .unset] [(.ref a1)])) _
    refine X5.arraylength hx (by rw [e5]; exact Ar7.1) (State.isArrayOf_alike hZ.alike Ar7.2.1) (g := (mkF m 34 #[.val (.ref a0), .val (.ref a1), .val (.ref a2), .unset, .unset, .unset, .unset, .unset] [(.ref a1)])) rfl rfl (hb hby d1_34) _ ?_
    rw [len_of S7 N7']
    show Steps p.tables e below (T5.setTop (mkF m 35 #[.val (.ref a0), .val (.ref a1), .val (.ref a2), .unset, .unset, .unset, .unset, .unset] [(.int (3 : Int32))])) _
    refine XS.aloadN X5.here hx rfl (hb hby d1_35) rfl rfl ?_
    show Steps p.tables e below (T5.setTop (mkF m 36 #[.val (.ref a0), .val (.ref a1), .val (.ref a2), .unset, .unset, .unset, .unset, .unset] [(.ref a2), (.int (3 : Int32))])) _
    refine X5.arraylength hx (by rw [e5]; exact Ar8.1) (State.isArrayOf_alike hZ.alike Ar8.2.1) (g := (mkF m 36 #[.val (.ref a0), .val (.ref a1), .val (.ref a2), .unset, .unset, .unset, .unset, .unset] [(.ref a2), (.int (3 : Int32))])) rfl rfl (hb hby d1_36) _ ?_
    rw [len_of S8 N8']
    show Steps p.tables e below (T5.setTop (mkF m 37 #[.val (.ref a0), .val (.ref a1), .val (.ref a2), .unset, .unset, .unset, .unset, .unset] [(.int (3 : Int32)), (.int (3 : Int32))])) _
    refine XS.icmpYes X5.here hx rfl (pc0 := 37) (pc' := 57) rfl (hb hby d1_37) rfl (teq (by decide : (3 : Int32) = (3 : Int32))).1 (by decide) (by decide) ?_
    show Steps p.tables e below (T5.setTop (mkF m 57 #[.val (.ref a0), .val (.ref a1), .val (.ref a2), .unset, .unset, .unset, .unset, .unset] [])) _
    refine XS.lconst X5.here hx rfl (hb hby d1_57) ?_
    show Steps p.tables e below (T5.setTop (mkF m 58 #[.val (.ref a0), .val (.ref a1), .val (.ref a2), .unset, .unset, .unset, .unset, .unset] [(.long (0 : Int64))])) _
    refine XS.lstoreN X5.here hx rfl (hb hby d1_58) rfl (l' := #[.val (.ref a0), .val (.ref a1), .val (.ref a2), .val (.long (0 : Int64)), .second, .unset, .unset, .unset]) rfl ?_
    show Steps p.tables e below (T5.setTop (mkF m 59 #[.val (.ref a0), .val (.ref a1), .val (.ref a2), .val (.long (0 : Int64)), .second, .unset, .unset, .unset] [])) _
    refine XS.iconst X5.here hx rfl (hb hby d1_59) ?_
    show Steps p.tables e below (T5.setTop (mkF m 60 #[.val (.ref a0), .val (.ref a1), .val (.ref a2), .val (.long (0 : Int64)), .second, .unset, .unset, .unset] [(.int (0 : Int32))])) _
    refine XS.istore X5.here hx rfl (hb hby d1_60) rfl (l' := #[.val (.ref a0), .val (.ref a1), .val (.ref a2), .val (.long (0 : Int64)), .second, .val (.int (0 : Int32)), .unset, .unset]) rfl ?_
    show Steps p.tables e below (T5.setTop (mkF m 62 #[.val (.ref a0), .val (.ref a1), .val (.ref a2), .val (.long (0 : Int64)), .second, .val (.int (0 : Int32)), .unset, .unset] [])) _
    refine XS.iload X5.here hx rfl (hb hby d1_62) rfl ?_
    show Steps p.tables e below (T5.setTop (mkF m 64 #[.val (.ref a0), .val (.ref a1), .val (.ref a2), .val (.long (0 : Int64)), .second, .val (.int (0 : Int32)), .unset, .unset] [(.int (0 : Int32))])) _
    refine XS.aloadN X5.here hx rfl (hb hby d1_64) rfl rfl ?_
    show Steps p.tables e below (T5.setTop (mkF m 65 #[.val (.ref a0), .val (.ref a1), .val (.ref a2), .val (.long (0 : Int64)), .second, .val (.int (0 : Int32)), .unset, .unset] [(.ref a1), (.int (0 : Int32))])) _
    refine X5.arraylength hx (by rw [e5]; exact Ar9.1) (State.isArrayOf_alike hZ.alike Ar9.2.1) (g := (mkF m 65 #[.val (.ref a0), .val (.ref a1), .val (.ref a2), .val (.long (0 : Int64)), .second, .val (.int (0 : Int32)), .unset, .unset] [(.ref a1), (.int (0 : Int32))])) rfl rfl (hb hby d1_65) _ ?_
    rw [len_of S9 N9']
    show Steps p.tables e below (T5.setTop (mkF m 66 #[.val (.ref a0), .val (.ref a1), .val (.ref a2), .val (.long (0 : Int64)), .second, .val (.int (0 : Int32)), .unset, .unset] [(.int (3 : Int32)), (.int (0 : Int32))])) _
    refine XS.icmpNo X5.here hx rfl (hb hby d1_66) rfl (tlt (by decide : (0 : Int32) < (3 : Int32))).2.1 ?_
    show Steps p.tables e below (T5.setTop (mkF m 69 #[.val (.ref a0), .val (.ref a1), .val (.ref a2), .val (.long (0 : Int64)), .second, .val (.int (0 : Int32)), .unset, .unset] [])) _
    refine XS.aloadN X5.here hx rfl (hb hby d1_69) rfl rfl ?_
    show Steps p.tables e below (T5.setTop (mkF m 70 #[.val (.ref a0), .val (.ref a1), .val (.ref a2), .val (.long (0 : Int64)), .second, .val (.int (0 : Int32)), .unset, .unset] [(.ref a1)])) _
    refine XS.iload X5.here hx rfl (hb hby d1_70) rfl ?_
    show Steps p.tables e below (T5.setTop (mkF m 72 #[.val (.ref a0), .val (.ref a1), .val (.ref a2), .val (.long (0 : Int64)), .second, .val (.int (0 : Int32)), .unset, .unset] [(.int (0 : Int32)), (.ref a1)])) _
    refine X5.iaload hx (j := (0 : Int32)) (v := (.int sv0)) (by rw [e5]; exact Ar10.1) (State.isArrayOf_alike hZ.alike Ar10.2.1) Ar10.2.2 hin10 hat10 (g := (mkF m 72 #[.val (.ref a0), .val (.ref a1), .val (.ref a2), .val (.long (0 : Int64)), .second, .val (.int (0 : Int32)), .unset, .unset] [(.int (0 : Int32)), (.ref a1)])) rfl rfl (hb hby d1_72) _ ?_
    show Steps p.tables e below (T5.setTop (mkF m 73 #[.val (.ref a0), .val (.ref a1), .val (.ref a2), .val (.long (0 : Int64)), .second, .val (.int (0 : Int32)), .unset, .unset] [(.int sv0)])) _
    refine XS.istore X5.here hx rfl (hb hby d1_73) rfl (l' := #[.val (.ref a0), .val (.ref a1), .val (.ref a2), .val (.long (0 : Int64)), .second, .val (.int (0 : Int32)), .val (.int sv0), .unset]) rfl ?_
    show Steps p.tables e below (T5.setTop (mkF m 75 #[.val (.ref a0), .val (.ref a1), .val (.ref a2), .val (.long (0 : Int64)), .second, .val (.int (0 : Int32)), .val (.int sv0), .unset] [])) _
    refine XS.aloadN X5.here hx rfl (hb hby d1_75) rfl rfl ?_
    show Steps p.tables e below (T5.setTop (mkF m 76 #[.val (.ref a0), .val (.ref a1), .val (.ref a2), .val (.long (0 : Int64)), .second, .val (.int (0 : Int32)), .val (.int sv0), .unset] [(.ref a2)])) _
    refine XS.iload X5.here hx rfl (hb hby d1_76) rfl ?_
    show Steps p.tables e below (T5.setTop (mkF m 78 #[.val (.ref a0), .val (.ref a1), .val (.ref a2), .val (.long (0 : Int64)), .second, .val (.int (0 : Int32)), .val (.int sv0), .unset] [(.int (0 : Int32)), (.ref a2)])) _
    refine X5.iaload hx (j := (0 : Int32)) (v := (.int (1 : Int32))) (by rw [e5]; exact Ar11.1) (State.isArrayOf_alike hZ.alike Ar11.2.1) Ar11.2.2 hin11 hat11 (g := (mkF m 78 #[.val (.ref a0), .val (.ref a1), .val (.ref a2), .val (.long (0 : Int64)), .second, .val (.int (0 : Int32)), .val (.int sv0), .unset] [(.int (0 : Int32)), (.ref a2)])) rfl rfl (hb hby d1_78) _ ?_
    show Steps p.tables e below (T5.setTop (mkF m 79 #[.val (.ref a0), .val (.ref a1), .val (.ref a2), .val (.long (0 : Int64)), .second, .val (.int (0 : Int32)), .val (.int sv0), .unset] [(.int (1 : Int32))])) _
    refine XS.istore X5.here hx rfl (hb hby d1_79) rfl (l' := #[.val (.ref a0), .val (.ref a1), .val (.ref a2), .val (.long (0 : Int64)), .second, .val (.int (0 : Int32)), .val (.int sv0), .val (.int (1 : Int32))]) rfl ?_
    show Steps p.tables e below (T5.setTop (mkF m 81 #[.val (.ref a0), .val (.ref a1), .val (.ref a2), .val (.long (0 : Int64)), .second, .val (.int (0 : Int32)), .val (.int sv0), .val (.int (1 : Int32))] [])) _
    refine XS.iload X5.here hx rfl (hb hby d1_81) rfl ?_
    show Steps p.tables e below (T5.setTop (mkF m 83 #[.val (.ref a0), .val (.ref a1), .val (.ref a2), .val (.long (0 : Int64)), .second, .val (.int (0 : Int32)), .val (.int sv0), .val (.int (1 : Int32))] [(.int sv0)])) _
    refine XS.iconst X5.here hx rfl (hb hby d1_83) ?_
    show Steps p.tables e below (T5.setTop (mkF m 84 #[.val (.ref a0), .val (.ref a1), .val (.ref a2), .val (.long (0 : Int64)), .second, .val (.int (0 : Int32)), .val (.int sv0), .val (.int (1 : Int32))] [(.int (1 : Int32)), (.int sv0)])) _
    refine XS.icmpYes X5.here hx rfl (pc0 := 84) (pc' := 104) rfl (hb hby d1_84) rfl (flt hps0).2.1 (by decide) (by decide) ?_
    show Steps p.tables e below (T5.setTop (mkF m 104 #[.val (.ref a0), .val (.ref a1), .val (.ref a2), .val (.long (0 : Int64)), .second, .val (.int (0 : Int32)), .val (.int sv0), .val (.int (1 : Int32))] [])) _
    refine XS.iload X5.here hx rfl (hb hby d1_104) rfl ?_
    show Steps p.tables e below (T5.setTop (mkF m 106 #[.val (.ref a0), .val (.ref a1), .val (.ref a2), .val (.long (0 : Int64)), .second, .val (.int (0 : Int32)), .val (.int sv0), .val (.int (1 : Int32))] [(.int (1 : Int32))])) _
    refine XS.iconst X5.here hx rfl (hb hby d1_106) ?_
    show Steps p.tables e below (T5.setTop (mkF m 107 #[.val (.ref a0), .val (.ref a1), .val (.ref a2), .val (.long (0 : Int64)), .second, .val (.int (0 : Int32)), .val (.int sv0), .val (.int (1 : Int32))] [(.int (1 : Int32)), (.int (1 : Int32))])) _
    refine XS.icmpYes X5.here hx rfl (pc0 := 107) (pc' := 127) rfl (hb hby d1_107) rfl (flt (by decide : ¬ ((1 : Int32) < (1 : Int32)))).2.1 (by decide) (by decide) ?_
    show Steps p.tables e below (T5.setTop (mkF m 127 #[.val (.ref a0), .val (.ref a1), .val (.ref a2), .val (.long (0 : Int64)), .second, .val (.int (0 : Int32)), .val (.int sv0), .val (.int (1 : Int32))] [])) _
    refine XS.iload X5.here hx rfl (hb hby d1_127) rfl ?_
    show Steps p.tables e below (T5.setTop (mkF m 129 #[.val (.ref a0), .val (.ref a1), .val (.ref a2), .val (.long (0 : Int64)), .second, .val (.int (0 : Int32)), .val (.int sv0), .val (.int (1 : Int32))] [(.int (0 : Int32))])) _
    refine XS.ifYes X5.here hx rfl (pc0 := 129) (pc' := 166) rfl (hb hby d1_129) rfl ((if0 _ _).trans (flt (by decide : ¬ ((0 : Int32) < (0 : Int32)))).2.2.2) (by decide) (by decide) ?_
    show Steps p.tables e below (T5.setTop (mkF m 166 #[.val (.ref a0), .val (.ref a1), .val (.ref a2), .val (.long (0 : Int64)), .second, .val (.int (0 : Int32)), .val (.int sv0), .val (.int (1 : Int32))] [])) _
    refine XS.lloadN X5.here hx rfl (hb hby d1_166) rfl ?_
    show Steps p.tables e below (T5.setTop (mkF m 167 #[.val (.ref a0), .val (.ref a1), .val (.ref a2), .val (.long (0 : Int64)), .second, .val (.int (0 : Int32)), .val (.int sv0), .val (.int (1 : Int32))] [(.long (0 : Int64))])) _
    refine XS.iload X5.here hx rfl (hb hby d1_167) rfl ?_
    show Steps p.tables e below (T5.setTop (mkF m 169 #[.val (.ref a0), .val (.ref a1), .val (.ref a2), .val (.long (0 : Int64)), .second, .val (.int (0 : Int32)), .val (.int sv0), .val (.int (1 : Int32))] [(.int sv0), (.long (0 : Int64))])) _
    refine XS.i2l X5.here hx rfl (hb hby d1_169) rfl ?_
    show Steps p.tables e below (T5.setTop (mkF m 170 #[.val (.ref a0), .val (.ref a1), .val (.ref a2), .val (.long (0 : Int64)), .second, .val (.int (0 : Int32)), .val (.int sv0), .val (.int (1 : Int32))] [(.long (sv0.toInt64)), (.long (0 : Int64))])) _
    refine XS.iload X5.here hx rfl (hb hby d1_170) rfl ?_
    show Steps p.tables e below (T5.setTop (mkF m 172 #[.val (.ref a0), .val (.ref a1), .val (.ref a2), .val (.long (0 : Int64)), .second, .val (.int (0 : Int32)), .val (.int sv0), .val (.int (1 : Int32))] [(.int (1 : Int32)), (.long (sv0.toInt64)), (.long (0 : Int64))])) _
    refine XS.i2l X5.here hx rfl (hb hby d1_172) rfl ?_
    show Steps p.tables e below (T5.setTop (mkF m 173 #[.val (.ref a0), .val (.ref a1), .val (.ref a2), .val (.long (0 : Int64)), .second, .val (.int (0 : Int32)), .val (.int sv0), .val (.int (1 : Int32))] [(.long ((1 : Int32).toInt64)), (.long (sv0.toInt64)), (.long (0 : Int64))])) _
    refine XS.lmul X5.here hx rfl (hb hby d1_173) rfl ?_
    show Steps p.tables e below (T5.setTop (mkF m 174 #[.val (.ref a0), .val (.ref a1), .val (.ref a2), .val (.long (0 : Int64)), .second, .val (.int (0 : Int32)), .val (.int sv0), .val (.int (1 : Int32))] [(.long ((sv0.toInt64) * ((1 : Int32).toInt64))), (.long (0 : Int64))])) _
    refine XS.ladd X5.here hx rfl (hb hby d1_174) rfl ?_
    show Steps p.tables e below (T5.setTop (mkF m 175 #[.val (.ref a0), .val (.ref a1), .val (.ref a2), .val (.long (0 : Int64)), .second, .val (.int (0 : Int32)), .val (.int sv0), .val (.int (1 : Int32))] [(.long ((0 : Int64) + ((sv0.toInt64) * ((1 : Int32).toInt64))))])) _
    refine XS.lstoreN X5.here hx rfl (hb hby d1_175) rfl (l' := #[.val (.ref a0), .val (.ref a1), .val (.ref a2), .val (.long ((0 : Int64) + ((sv0.toInt64) * ((1 : Int32).toInt64)))), .second, .val (.int (0 : Int32)), .val (.int sv0), .val (.int (1 : Int32))]) rfl ?_
    show Steps p.tables e below (T5.setTop (mkF m 176 #[.val (.ref a0), .val (.ref a1), .val (.ref a2), .val (.long ((0 : Int64) + ((sv0.toInt64) * ((1 : Int32).toInt64)))), .second, .val (.int (0 : Int32)), .val (.int sv0), .val (.int (1 : Int32))] [])) _
    refine XS.iinc X5.here hx rfl (hb hby d1_176) rfl (l' := #[.val (.ref a0), .val (.ref a1), .val (.ref a2), .val (.long ((0 : Int64) + ((sv0.toInt64) * ((1 : Int32).toInt64)))), .second, .val (.int (1 : Int32)), .val (.int sv0), .val (.int (1 : Int32))]) rfl ?_
    show Steps p.tables e below (T5.setTop (mkF m 179 #[.val (.ref a0), .val (.ref a1), .val (.ref a2), .val (.long ((0 : Int64) + ((sv0.toInt64) * ((1 : Int32).toInt64)))), .second, .val (.int (1 : Int32)), .val (.int sv0), .val (.int (1 : Int32))] [])) _
    refine XS.goto X5.here hx rfl (pc0 := 179) (pc' := 62) rfl (hb hby d1_179) (by decide) (by decide) ?_
    show Steps p.tables e below (T5.setTop (mkF m 62 #[.val (.ref a0), .val (.ref a1), .val (.ref a2), .val (.long ((0 : Int64) + ((sv0.toInt64) * ((1 : Int32).toInt64)))), .second, .val (.int (1 : Int32)), .val (.int sv0), .val (.int (1 : Int32))] [])) _
    refine XS.iload X5.here hx rfl (hb hby d1_62) rfl ?_
    show Steps p.tables e below (T5.setTop (mkF m 64 #[.val (.ref a0), .val (.ref a1), .val (.ref a2), .val (.long ((0 : Int64) + ((sv0.toInt64) * ((1 : Int32).toInt64)))), .second, .val (.int (1 : Int32)), .val (.int sv0), .val (.int (1 : Int32))] [(.int (1 : Int32))])) _
    refine XS.aloadN X5.here hx rfl (hb hby d1_64) rfl rfl ?_
    show Steps p.tables e below (T5.setTop (mkF m 65 #[.val (.ref a0), .val (.ref a1), .val (.ref a2), .val (.long ((0 : Int64) + ((sv0.toInt64) * ((1 : Int32).toInt64)))), .second, .val (.int (1 : Int32)), .val (.int sv0), .val (.int (1 : Int32))] [(.ref a1), (.int (1 : Int32))])) _
    refine X5.arraylength hx (by rw [e5]; exact Ar12.1) (State.isArrayOf_alike hZ.alike Ar12.2.1) (g := (mkF m 65 #[.val (.ref a0), .val (.ref a1), .val (.ref a2), .val (.long ((0 : Int64) + ((sv0.toInt64) * ((1 : Int32).toInt64)))), .second, .val (.int (1 : Int32)), .val (.int sv0), .val (.int (1 : Int32))] [(.ref a1), (.int (1 : Int32))])) rfl rfl (hb hby d1_65) _ ?_
    rw [len_of S12 N12']
    show Steps p.tables e below (T5.setTop (mkF m 66 #[.val (.ref a0), .val (.ref a1), .val (.ref a2), .val (.long ((0 : Int64) + ((sv0.toInt64) * ((1 : Int32).toInt64)))), .second, .val (.int (1 : Int32)), .val (.int sv0), .val (.int (1 : Int32))] [(.int (3 : Int32)), (.int (1 : Int32))])) _
    refine XS.icmpNo X5.here hx rfl (hb hby d1_66) rfl (tlt (by decide : (1 : Int32) < (3 : Int32))).2.1 ?_
    show Steps p.tables e below (T5.setTop (mkF m 69 #[.val (.ref a0), .val (.ref a1), .val (.ref a2), .val (.long ((0 : Int64) + ((sv0.toInt64) * ((1 : Int32).toInt64)))), .second, .val (.int (1 : Int32)), .val (.int sv0), .val (.int (1 : Int32))] [])) _
    refine XS.aloadN X5.here hx rfl (hb hby d1_69) rfl rfl ?_
    show Steps p.tables e below (T5.setTop (mkF m 70 #[.val (.ref a0), .val (.ref a1), .val (.ref a2), .val (.long ((0 : Int64) + ((sv0.toInt64) * ((1 : Int32).toInt64)))), .second, .val (.int (1 : Int32)), .val (.int sv0), .val (.int (1 : Int32))] [(.ref a1)])) _
    refine XS.iload X5.here hx rfl (hb hby d1_70) rfl ?_
    show Steps p.tables e below (T5.setTop (mkF m 72 #[.val (.ref a0), .val (.ref a1), .val (.ref a2), .val (.long ((0 : Int64) + ((sv0.toInt64) * ((1 : Int32).toInt64)))), .second, .val (.int (1 : Int32)), .val (.int sv0), .val (.int (1 : Int32))] [(.int (1 : Int32)), (.ref a1)])) _
    refine X5.iaload hx (j := (1 : Int32)) (v := (.int sv1)) (by rw [e5]; exact Ar13.1) (State.isArrayOf_alike hZ.alike Ar13.2.1) Ar13.2.2 hin13 hat13 (g := (mkF m 72 #[.val (.ref a0), .val (.ref a1), .val (.ref a2), .val (.long ((0 : Int64) + ((sv0.toInt64) * ((1 : Int32).toInt64)))), .second, .val (.int (1 : Int32)), .val (.int sv0), .val (.int (1 : Int32))] [(.int (1 : Int32)), (.ref a1)])) rfl rfl (hb hby d1_72) _ ?_
    show Steps p.tables e below (T5.setTop (mkF m 73 #[.val (.ref a0), .val (.ref a1), .val (.ref a2), .val (.long ((0 : Int64) + ((sv0.toInt64) * ((1 : Int32).toInt64)))), .second, .val (.int (1 : Int32)), .val (.int sv0), .val (.int (1 : Int32))] [(.int sv1)])) _
    refine XS.istore X5.here hx rfl (hb hby d1_73) rfl (l' := #[.val (.ref a0), .val (.ref a1), .val (.ref a2), .val (.long ((0 : Int64) + ((sv0.toInt64) * ((1 : Int32).toInt64)))), .second, .val (.int (1 : Int32)), .val (.int sv1), .val (.int (1 : Int32))]) rfl ?_
    show Steps p.tables e below (T5.setTop (mkF m 75 #[.val (.ref a0), .val (.ref a1), .val (.ref a2), .val (.long ((0 : Int64) + ((sv0.toInt64) * ((1 : Int32).toInt64)))), .second, .val (.int (1 : Int32)), .val (.int sv1), .val (.int (1 : Int32))] [])) _
    refine XS.aloadN X5.here hx rfl (hb hby d1_75) rfl rfl ?_
    show Steps p.tables e below (T5.setTop (mkF m 76 #[.val (.ref a0), .val (.ref a1), .val (.ref a2), .val (.long ((0 : Int64) + ((sv0.toInt64) * ((1 : Int32).toInt64)))), .second, .val (.int (1 : Int32)), .val (.int sv1), .val (.int (1 : Int32))] [(.ref a2)])) _
    refine XS.iload X5.here hx rfl (hb hby d1_76) rfl ?_
    show Steps p.tables e below (T5.setTop (mkF m 78 #[.val (.ref a0), .val (.ref a1), .val (.ref a2), .val (.long ((0 : Int64) + ((sv0.toInt64) * ((1 : Int32).toInt64)))), .second, .val (.int (1 : Int32)), .val (.int sv1), .val (.int (1 : Int32))] [(.int (1 : Int32)), (.ref a2)])) _
    refine X5.iaload hx (j := (1 : Int32)) (v := (.int (1 : Int32))) (by rw [e5]; exact Ar14.1) (State.isArrayOf_alike hZ.alike Ar14.2.1) Ar14.2.2 hin14 hat14 (g := (mkF m 78 #[.val (.ref a0), .val (.ref a1), .val (.ref a2), .val (.long ((0 : Int64) + ((sv0.toInt64) * ((1 : Int32).toInt64)))), .second, .val (.int (1 : Int32)), .val (.int sv1), .val (.int (1 : Int32))] [(.int (1 : Int32)), (.ref a2)])) rfl rfl (hb hby d1_78) _ ?_
    show Steps p.tables e below (T5.setTop (mkF m 79 #[.val (.ref a0), .val (.ref a1), .val (.ref a2), .val (.long ((0 : Int64) + ((sv0.toInt64) * ((1 : Int32).toInt64)))), .second, .val (.int (1 : Int32)), .val (.int sv1), .val (.int (1 : Int32))] [(.int (1 : Int32))])) _
    refine XS.istore X5.here hx rfl (hb hby d1_79) rfl (l' := #[.val (.ref a0), .val (.ref a1), .val (.ref a2), .val (.long ((0 : Int64) + ((sv0.toInt64) * ((1 : Int32).toInt64)))), .second, .val (.int (1 : Int32)), .val (.int sv1), .val (.int (1 : Int32))]) rfl ?_
    show Steps p.tables e below (T5.setTop (mkF m 81 #[.val (.ref a0), .val (.ref a1), .val (.ref a2), .val (.long ((0 : Int64) + ((sv0.toInt64) * ((1 : Int32).toInt64)))), .second, .val (.int (1 : Int32)), .val (.int sv1), .val (.int (1 : Int32))] [])) _
    refine XS.iload X5.here hx rfl (hb hby d1_81) rfl ?_
    show Steps p.tables e below (T5.setTop (mkF m 83 #[.val (.ref a0), .val (.ref a1), .val (.ref a2), .val (.long ((0 : Int64) + ((sv0.toInt64) * ((1 : Int32).toInt64)))), .second, .val (.int (1 : Int32)), .val (.int sv1), .val (.int (1 : Int32))] [(.int sv1)])) _
    refine XS.iconst X5.here hx rfl (hb hby d1_83) ?_
    show Steps p.tables e below (T5.setTop (mkF m 84 #[.val (.ref a0), .val (.ref a1), .val (.ref a2), .val (.long ((0 : Int64) + ((sv0.toInt64) * ((1 : Int32).toInt64)))), .second, .val (.int (1 : Int32)), .val (.int sv1), .val (.int (1 : Int32))] [(.int (1 : Int32)), (.int sv1)])) _
    refine XS.icmpYes X5.here hx rfl (pc0 := 84) (pc' := 104) rfl (hb hby d1_84) rfl (flt hps1).2.1 (by decide) (by decide) ?_
    show Steps p.tables e below (T5.setTop (mkF m 104 #[.val (.ref a0), .val (.ref a1), .val (.ref a2), .val (.long ((0 : Int64) + ((sv0.toInt64) * ((1 : Int32).toInt64)))), .second, .val (.int (1 : Int32)), .val (.int sv1), .val (.int (1 : Int32))] [])) _
    refine XS.iload X5.here hx rfl (hb hby d1_104) rfl ?_
    show Steps p.tables e below (T5.setTop (mkF m 106 #[.val (.ref a0), .val (.ref a1), .val (.ref a2), .val (.long ((0 : Int64) + ((sv0.toInt64) * ((1 : Int32).toInt64)))), .second, .val (.int (1 : Int32)), .val (.int sv1), .val (.int (1 : Int32))] [(.int (1 : Int32))])) _
    refine XS.iconst X5.here hx rfl (hb hby d1_106) ?_
    show Steps p.tables e below (T5.setTop (mkF m 107 #[.val (.ref a0), .val (.ref a1), .val (.ref a2), .val (.long ((0 : Int64) + ((sv0.toInt64) * ((1 : Int32).toInt64)))), .second, .val (.int (1 : Int32)), .val (.int sv1), .val (.int (1 : Int32))] [(.int (1 : Int32)), (.int (1 : Int32))])) _
    refine XS.icmpYes X5.here hx rfl (pc0 := 107) (pc' := 127) rfl (hb hby d1_107) rfl (flt (by decide : ¬ ((1 : Int32) < (1 : Int32)))).2.1 (by decide) (by decide) ?_
    show Steps p.tables e below (T5.setTop (mkF m 127 #[.val (.ref a0), .val (.ref a1), .val (.ref a2), .val (.long ((0 : Int64) + ((sv0.toInt64) * ((1 : Int32).toInt64)))), .second, .val (.int (1 : Int32)), .val (.int sv1), .val (.int (1 : Int32))] [])) _
    refine XS.iload X5.here hx rfl (hb hby d1_127) rfl ?_
    show Steps p.tables e below (T5.setTop (mkF m 129 #[.val (.ref a0), .val (.ref a1), .val (.ref a2), .val (.long ((0 : Int64) + ((sv0.toInt64) * ((1 : Int32).toInt64)))), .second, .val (.int (1 : Int32)), .val (.int sv1), .val (.int (1 : Int32))] [(.int (1 : Int32))])) _
    refine XS.ifNo X5.here hx rfl (hb hby d1_129) rfl ((if0 _ _).trans (tlt (by decide : (0 : Int32) < (1 : Int32))).2.2.2) ?_
    show Steps p.tables e below (T5.setTop (mkF m 132 #[.val (.ref a0), .val (.ref a1), .val (.ref a2), .val (.long ((0 : Int64) + ((sv0.toInt64) * ((1 : Int32).toInt64)))), .second, .val (.int (1 : Int32)), .val (.int sv1), .val (.int (1 : Int32))] [])) _
    refine XS.iload X5.here hx rfl (hb hby d1_132) rfl ?_
    show Steps p.tables e below (T5.setTop (mkF m 134 #[.val (.ref a0), .val (.ref a1), .val (.ref a2), .val (.long ((0 : Int64) + ((sv0.toInt64) * ((1 : Int32).toInt64)))), .second, .val (.int (1 : Int32)), .val (.int sv1), .val (.int (1 : Int32))] [(.int sv1)])) _
    refine XS.aloadN X5.here hx rfl (hb hby d1_134) rfl rfl ?_
    show Steps p.tables e below (T5.setTop (mkF m 135 #[.val (.ref a0), .val (.ref a1), .val (.ref a2), .val (.long ((0 : Int64) + ((sv0.toInt64) * ((1 : Int32).toInt64)))), .second, .val (.int (1 : Int32)), .val (.int sv1), .val (.int (1 : Int32))] [(.ref a1), (.int sv1)])) _
    refine XS.iload X5.here hx rfl (hb hby d1_135) rfl ?_
    show Steps p.tables e below (T5.setTop (mkF m 137 #[.val (.ref a0), .val (.ref a1), .val (.ref a2), .val (.long ((0 : Int64) + ((sv0.toInt64) * ((1 : Int32).toInt64)))), .second, .val (.int (1 : Int32)), .val (.int sv1), .val (.int (1 : Int32))] [(.int (1 : Int32)), (.ref a1), (.int sv1)])) _
    refine XS.iconst X5.here hx rfl (hb hby d1_137) ?_
    show Steps p.tables e below (T5.setTop (mkF m 138 #[.val (.ref a0), .val (.ref a1), .val (.ref a2), .val (.long ((0 : Int64) + ((sv0.toInt64) * ((1 : Int32).toInt64)))), .second, .val (.int (1 : Int32)), .val (.int sv1), .val (.int (1 : Int32))] [(.int (1 : Int32)), (.int (1 : Int32)), (.ref a1), (.int sv1)])) _
    refine XS.isub X5.here hx rfl (hb hby d1_138) rfl ?_
    show Steps p.tables e below (T5.setTop (mkF m 139 #[.val (.ref a0), .val (.ref a1), .val (.ref a2), .val (.long ((0 : Int64) + ((sv0.toInt64) * ((1 : Int32).toInt64)))), .second, .val (.int (1 : Int32)), .val (.int sv1), .val (.int (1 : Int32))] [(.int (0 : Int32)), (.ref a1), (.int sv1)])) _
    refine X5.iaload hx (j := (0 : Int32)) (v := (.int sv0)) (by rw [e5]; exact Ar15.1) (State.isArrayOf_alike hZ.alike Ar15.2.1) Ar15.2.2 hin15 hat15 (g := (mkF m 139 #[.val (.ref a0), .val (.ref a1), .val (.ref a2), .val (.long ((0 : Int64) + ((sv0.toInt64) * ((1 : Int32).toInt64)))), .second, .val (.int (1 : Int32)), .val (.int sv1), .val (.int (1 : Int32))] [(.int (0 : Int32)), (.ref a1), (.int sv1)])) rfl rfl (hb hby d1_139) _ ?_
    show Steps p.tables e below (T5.setTop (mkF m 140 #[.val (.ref a0), .val (.ref a1), .val (.ref a2), .val (.long ((0 : Int64) + ((sv0.toInt64) * ((1 : Int32).toInt64)))), .second, .val (.int (1 : Int32)), .val (.int sv1), .val (.int (1 : Int32))] [(.int sv0), (.int sv1)])) _
    refine XS.icmpYes X5.here hx rfl (pc0 := 140) (pc' := 166) rfl (hb hby d1_140) rfl (tlt hpg0).2.2.1 (by decide) (by decide) ?_
    show Steps p.tables e below (T5.setTop (mkF m 166 #[.val (.ref a0), .val (.ref a1), .val (.ref a2), .val (.long ((0 : Int64) + ((sv0.toInt64) * ((1 : Int32).toInt64)))), .second, .val (.int (1 : Int32)), .val (.int sv1), .val (.int (1 : Int32))] [])) _
    refine XS.lloadN X5.here hx rfl (hb hby d1_166) rfl ?_
    show Steps p.tables e below (T5.setTop (mkF m 167 #[.val (.ref a0), .val (.ref a1), .val (.ref a2), .val (.long ((0 : Int64) + ((sv0.toInt64) * ((1 : Int32).toInt64)))), .second, .val (.int (1 : Int32)), .val (.int sv1), .val (.int (1 : Int32))] [(.long ((0 : Int64) + ((sv0.toInt64) * ((1 : Int32).toInt64))))])) _
    refine XS.iload X5.here hx rfl (hb hby d1_167) rfl ?_
    show Steps p.tables e below (T5.setTop (mkF m 169 #[.val (.ref a0), .val (.ref a1), .val (.ref a2), .val (.long ((0 : Int64) + ((sv0.toInt64) * ((1 : Int32).toInt64)))), .second, .val (.int (1 : Int32)), .val (.int sv1), .val (.int (1 : Int32))] [(.int sv1), (.long ((0 : Int64) + ((sv0.toInt64) * ((1 : Int32).toInt64))))])) _
    refine XS.i2l X5.here hx rfl (hb hby d1_169) rfl ?_
    show Steps p.tables e below (T5.setTop (mkF m 170 #[.val (.ref a0), .val (.ref a1), .val (.ref a2), .val (.long ((0 : Int64) + ((sv0.toInt64) * ((1 : Int32).toInt64)))), .second, .val (.int (1 : Int32)), .val (.int sv1), .val (.int (1 : Int32))] [(.long (sv1.toInt64)), (.long ((0 : Int64) + ((sv0.toInt64) * ((1 : Int32).toInt64))))])) _
    refine XS.iload X5.here hx rfl (hb hby d1_170) rfl ?_
    show Steps p.tables e below (T5.setTop (mkF m 172 #[.val (.ref a0), .val (.ref a1), .val (.ref a2), .val (.long ((0 : Int64) + ((sv0.toInt64) * ((1 : Int32).toInt64)))), .second, .val (.int (1 : Int32)), .val (.int sv1), .val (.int (1 : Int32))] [(.int (1 : Int32)), (.long (sv1.toInt64)), (.long ((0 : Int64) + ((sv0.toInt64) * ((1 : Int32).toInt64))))])) _
    refine XS.i2l X5.here hx rfl (hb hby d1_172) rfl ?_
    show Steps p.tables e below (T5.setTop (mkF m 173 #[.val (.ref a0), .val (.ref a1), .val (.ref a2), .val (.long ((0 : Int64) + ((sv0.toInt64) * ((1 : Int32).toInt64)))), .second, .val (.int (1 : Int32)), .val (.int sv1), .val (.int (1 : Int32))] [(.long ((1 : Int32).toInt64)), (.long (sv1.toInt64)), (.long ((0 : Int64) + ((sv0.toInt64) * ((1 : Int32).toInt64))))])) _
    refine XS.lmul X5.here hx rfl (hb hby d1_173) rfl ?_
    show Steps p.tables e below (T5.setTop (mkF m 174 #[.val (.ref a0), .val (.ref a1), .val (.ref a2), .val (.long ((0 : Int64) + ((sv0.toInt64) * ((1 : Int32).toInt64)))), .second, .val (.int (1 : Int32)), .val (.int sv1), .val (.int (1 : Int32))] [(.long ((sv1.toInt64) * ((1 : Int32).toInt64))), (.long ((0 : Int64) + ((sv0.toInt64) * ((1 : Int32).toInt64))))])) _
    refine XS.ladd X5.here hx rfl (hb hby d1_174) rfl ?_
    show Steps p.tables e below (T5.setTop (mkF m 175 #[.val (.ref a0), .val (.ref a1), .val (.ref a2), .val (.long ((0 : Int64) + ((sv0.toInt64) * ((1 : Int32).toInt64)))), .second, .val (.int (1 : Int32)), .val (.int sv1), .val (.int (1 : Int32))] [(.long (((0 : Int64) + ((sv0.toInt64) * ((1 : Int32).toInt64))) + ((sv1.toInt64) * ((1 : Int32).toInt64))))])) _
    refine XS.lstoreN X5.here hx rfl (hb hby d1_175) rfl (l' := #[.val (.ref a0), .val (.ref a1), .val (.ref a2), .val (.long (((0 : Int64) + ((sv0.toInt64) * ((1 : Int32).toInt64))) + ((sv1.toInt64) * ((1 : Int32).toInt64)))), .second, .val (.int (1 : Int32)), .val (.int sv1), .val (.int (1 : Int32))]) rfl ?_
    show Steps p.tables e below (T5.setTop (mkF m 176 #[.val (.ref a0), .val (.ref a1), .val (.ref a2), .val (.long (((0 : Int64) + ((sv0.toInt64) * ((1 : Int32).toInt64))) + ((sv1.toInt64) * ((1 : Int32).toInt64)))), .second, .val (.int (1 : Int32)), .val (.int sv1), .val (.int (1 : Int32))] [])) _
    refine XS.iinc X5.here hx rfl (hb hby d1_176) rfl (l' := #[.val (.ref a0), .val (.ref a1), .val (.ref a2), .val (.long (((0 : Int64) + ((sv0.toInt64) * ((1 : Int32).toInt64))) + ((sv1.toInt64) * ((1 : Int32).toInt64)))), .second, .val (.int (2 : Int32)), .val (.int sv1), .val (.int (1 : Int32))]) rfl ?_
    show Steps p.tables e below (T5.setTop (mkF m 179 #[.val (.ref a0), .val (.ref a1), .val (.ref a2), .val (.long (((0 : Int64) + ((sv0.toInt64) * ((1 : Int32).toInt64))) + ((sv1.toInt64) * ((1 : Int32).toInt64)))), .second, .val (.int (2 : Int32)), .val (.int sv1), .val (.int (1 : Int32))] [])) _
    refine XS.goto X5.here hx rfl (pc0 := 179) (pc' := 62) rfl (hb hby d1_179) (by decide) (by decide) ?_
    show Steps p.tables e below (T5.setTop (mkF m 62 #[.val (.ref a0), .val (.ref a1), .val (.ref a2), .val (.long (((0 : Int64) + ((sv0.toInt64) * ((1 : Int32).toInt64))) + ((sv1.toInt64) * ((1 : Int32).toInt64)))), .second, .val (.int (2 : Int32)), .val (.int sv1), .val (.int (1 : Int32))] [])) _
    refine XS.iload X5.here hx rfl (hb hby d1_62) rfl ?_
    show Steps p.tables e below (T5.setTop (mkF m 64 #[.val (.ref a0), .val (.ref a1), .val (.ref a2), .val (.long (((0 : Int64) + ((sv0.toInt64) * ((1 : Int32).toInt64))) + ((sv1.toInt64) * ((1 : Int32).toInt64)))), .second, .val (.int (2 : Int32)), .val (.int sv1), .val (.int (1 : Int32))] [(.int (2 : Int32))])) _
    refine XS.aloadN X5.here hx rfl (hb hby d1_64) rfl rfl ?_
    show Steps p.tables e below (T5.setTop (mkF m 65 #[.val (.ref a0), .val (.ref a1), .val (.ref a2), .val (.long (((0 : Int64) + ((sv0.toInt64) * ((1 : Int32).toInt64))) + ((sv1.toInt64) * ((1 : Int32).toInt64)))), .second, .val (.int (2 : Int32)), .val (.int sv1), .val (.int (1 : Int32))] [(.ref a1), (.int (2 : Int32))])) _
    refine X5.arraylength hx (by rw [e5]; exact Ar16.1) (State.isArrayOf_alike hZ.alike Ar16.2.1) (g := (mkF m 65 #[.val (.ref a0), .val (.ref a1), .val (.ref a2), .val (.long (((0 : Int64) + ((sv0.toInt64) * ((1 : Int32).toInt64))) + ((sv1.toInt64) * ((1 : Int32).toInt64)))), .second, .val (.int (2 : Int32)), .val (.int sv1), .val (.int (1 : Int32))] [(.ref a1), (.int (2 : Int32))])) rfl rfl (hb hby d1_65) _ ?_
    rw [len_of S16 N16']
    show Steps p.tables e below (T5.setTop (mkF m 66 #[.val (.ref a0), .val (.ref a1), .val (.ref a2), .val (.long (((0 : Int64) + ((sv0.toInt64) * ((1 : Int32).toInt64))) + ((sv1.toInt64) * ((1 : Int32).toInt64)))), .second, .val (.int (2 : Int32)), .val (.int sv1), .val (.int (1 : Int32))] [(.int (3 : Int32)), (.int (2 : Int32))])) _
    refine XS.icmpNo X5.here hx rfl (hb hby d1_66) rfl (tlt (by decide : (2 : Int32) < (3 : Int32))).2.1 ?_
    show Steps p.tables e below (T5.setTop (mkF m 69 #[.val (.ref a0), .val (.ref a1), .val (.ref a2), .val (.long (((0 : Int64) + ((sv0.toInt64) * ((1 : Int32).toInt64))) + ((sv1.toInt64) * ((1 : Int32).toInt64)))), .second, .val (.int (2 : Int32)), .val (.int sv1), .val (.int (1 : Int32))] [])) _
    refine XS.aloadN X5.here hx rfl (hb hby d1_69) rfl rfl ?_
    show Steps p.tables e below (T5.setTop (mkF m 70 #[.val (.ref a0), .val (.ref a1), .val (.ref a2), .val (.long (((0 : Int64) + ((sv0.toInt64) * ((1 : Int32).toInt64))) + ((sv1.toInt64) * ((1 : Int32).toInt64)))), .second, .val (.int (2 : Int32)), .val (.int sv1), .val (.int (1 : Int32))] [(.ref a1)])) _
    refine XS.iload X5.here hx rfl (hb hby d1_70) rfl ?_
    show Steps p.tables e below (T5.setTop (mkF m 72 #[.val (.ref a0), .val (.ref a1), .val (.ref a2), .val (.long (((0 : Int64) + ((sv0.toInt64) * ((1 : Int32).toInt64))) + ((sv1.toInt64) * ((1 : Int32).toInt64)))), .second, .val (.int (2 : Int32)), .val (.int sv1), .val (.int (1 : Int32))] [(.int (2 : Int32)), (.ref a1)])) _
    refine X5.iaload hx (j := (2 : Int32)) (v := (.int sv2)) (by rw [e5]; exact Ar17.1) (State.isArrayOf_alike hZ.alike Ar17.2.1) Ar17.2.2 hin17 hat17 (g := (mkF m 72 #[.val (.ref a0), .val (.ref a1), .val (.ref a2), .val (.long (((0 : Int64) + ((sv0.toInt64) * ((1 : Int32).toInt64))) + ((sv1.toInt64) * ((1 : Int32).toInt64)))), .second, .val (.int (2 : Int32)), .val (.int sv1), .val (.int (1 : Int32))] [(.int (2 : Int32)), (.ref a1)])) rfl rfl (hb hby d1_72) _ ?_
    show Steps p.tables e below (T5.setTop (mkF m 73 #[.val (.ref a0), .val (.ref a1), .val (.ref a2), .val (.long (((0 : Int64) + ((sv0.toInt64) * ((1 : Int32).toInt64))) + ((sv1.toInt64) * ((1 : Int32).toInt64)))), .second, .val (.int (2 : Int32)), .val (.int sv1), .val (.int (1 : Int32))] [(.int sv2)])) _
    refine XS.istore X5.here hx rfl (hb hby d1_73) rfl (l' := #[.val (.ref a0), .val (.ref a1), .val (.ref a2), .val (.long (((0 : Int64) + ((sv0.toInt64) * ((1 : Int32).toInt64))) + ((sv1.toInt64) * ((1 : Int32).toInt64)))), .second, .val (.int (2 : Int32)), .val (.int sv2), .val (.int (1 : Int32))]) rfl ?_
    show Steps p.tables e below (T5.setTop (mkF m 75 #[.val (.ref a0), .val (.ref a1), .val (.ref a2), .val (.long (((0 : Int64) + ((sv0.toInt64) * ((1 : Int32).toInt64))) + ((sv1.toInt64) * ((1 : Int32).toInt64)))), .second, .val (.int (2 : Int32)), .val (.int sv2), .val (.int (1 : Int32))] [])) _
    refine XS.aloadN X5.here hx rfl (hb hby d1_75) rfl rfl ?_
    show Steps p.tables e below (T5.setTop (mkF m 76 #[.val (.ref a0), .val (.ref a1), .val (.ref a2), .val (.long (((0 : Int64) + ((sv0.toInt64) * ((1 : Int32).toInt64))) + ((sv1.toInt64) * ((1 : Int32).toInt64)))), .second, .val (.int (2 : Int32)), .val (.int sv2), .val (.int (1 : Int32))] [(.ref a2)])) _
    refine XS.iload X5.here hx rfl (hb hby d1_76) rfl ?_
    show Steps p.tables e below (T5.setTop (mkF m 78 #[.val (.ref a0), .val (.ref a1), .val (.ref a2), .val (.long (((0 : Int64) + ((sv0.toInt64) * ((1 : Int32).toInt64))) + ((sv1.toInt64) * ((1 : Int32).toInt64)))), .second, .val (.int (2 : Int32)), .val (.int sv2), .val (.int (1 : Int32))] [(.int (2 : Int32)), (.ref a2)])) _
    refine X5.iaload hx (j := (2 : Int32)) (v := (.int (1 : Int32))) (by rw [e5]; exact Ar18.1) (State.isArrayOf_alike hZ.alike Ar18.2.1) Ar18.2.2 hin18 hat18 (g := (mkF m 78 #[.val (.ref a0), .val (.ref a1), .val (.ref a2), .val (.long (((0 : Int64) + ((sv0.toInt64) * ((1 : Int32).toInt64))) + ((sv1.toInt64) * ((1 : Int32).toInt64)))), .second, .val (.int (2 : Int32)), .val (.int sv2), .val (.int (1 : Int32))] [(.int (2 : Int32)), (.ref a2)])) rfl rfl (hb hby d1_78) _ ?_
    show Steps p.tables e below (T5.setTop (mkF m 79 #[.val (.ref a0), .val (.ref a1), .val (.ref a2), .val (.long (((0 : Int64) + ((sv0.toInt64) * ((1 : Int32).toInt64))) + ((sv1.toInt64) * ((1 : Int32).toInt64)))), .second, .val (.int (2 : Int32)), .val (.int sv2), .val (.int (1 : Int32))] [(.int (1 : Int32))])) _
    refine XS.istore X5.here hx rfl (hb hby d1_79) rfl (l' := #[.val (.ref a0), .val (.ref a1), .val (.ref a2), .val (.long (((0 : Int64) + ((sv0.toInt64) * ((1 : Int32).toInt64))) + ((sv1.toInt64) * ((1 : Int32).toInt64)))), .second, .val (.int (2 : Int32)), .val (.int sv2), .val (.int (1 : Int32))]) rfl ?_
    show Steps p.tables e below (T5.setTop (mkF m 81 #[.val (.ref a0), .val (.ref a1), .val (.ref a2), .val (.long (((0 : Int64) + ((sv0.toInt64) * ((1 : Int32).toInt64))) + ((sv1.toInt64) * ((1 : Int32).toInt64)))), .second, .val (.int (2 : Int32)), .val (.int sv2), .val (.int (1 : Int32))] [])) _
    refine XS.iload X5.here hx rfl (hb hby d1_81) rfl ?_
    show Steps p.tables e below (T5.setTop (mkF m 83 #[.val (.ref a0), .val (.ref a1), .val (.ref a2), .val (.long (((0 : Int64) + ((sv0.toInt64) * ((1 : Int32).toInt64))) + ((sv1.toInt64) * ((1 : Int32).toInt64)))), .second, .val (.int (2 : Int32)), .val (.int sv2), .val (.int (1 : Int32))] [(.int sv2)])) _
    refine XS.iconst X5.here hx rfl (hb hby d1_83) ?_
    show Steps p.tables e below (T5.setTop (mkF m 84 #[.val (.ref a0), .val (.ref a1), .val (.ref a2), .val (.long (((0 : Int64) + ((sv0.toInt64) * ((1 : Int32).toInt64))) + ((sv1.toInt64) * ((1 : Int32).toInt64)))), .second, .val (.int (2 : Int32)), .val (.int sv2), .val (.int (1 : Int32))] [(.int (1 : Int32)), (.int sv2)])) _
    refine XS.icmpYes X5.here hx rfl (pc0 := 84) (pc' := 104) rfl (hb hby d1_84) rfl (flt hps2).2.1 (by decide) (by decide) ?_
    show Steps p.tables e below (T5.setTop (mkF m 104 #[.val (.ref a0), .val (.ref a1), .val (.ref a2), .val (.long (((0 : Int64) + ((sv0.toInt64) * ((1 : Int32).toInt64))) + ((sv1.toInt64) * ((1 : Int32).toInt64)))), .second, .val (.int (2 : Int32)), .val (.int sv2), .val (.int (1 : Int32))] [])) _
    refine XS.iload X5.here hx rfl (hb hby d1_104) rfl ?_
    show Steps p.tables e below (T5.setTop (mkF m 106 #[.val (.ref a0), .val (.ref a1), .val (.ref a2), .val (.long (((0 : Int64) + ((sv0.toInt64) * ((1 : Int32).toInt64))) + ((sv1.toInt64) * ((1 : Int32).toInt64)))), .second, .val (.int (2 : Int32)), .val (.int sv2), .val (.int (1 : Int32))] [(.int (1 : Int32))])) _
    refine XS.iconst X5.here hx rfl (hb hby d1_106) ?_
    show Steps p.tables e below (T5.setTop (mkF m 107 #[.val (.ref a0), .val (.ref a1), .val (.ref a2), .val (.long (((0 : Int64) + ((sv0.toInt64) * ((1 : Int32).toInt64))) + ((sv1.toInt64) * ((1 : Int32).toInt64)))), .second, .val (.int (2 : Int32)), .val (.int sv2), .val (.int (1 : Int32))] [(.int (1 : Int32)), (.int (1 : Int32))])) _
    refine XS.icmpYes X5.here hx rfl (pc0 := 107) (pc' := 127) rfl (hb hby d1_107) rfl (flt (by decide : ¬ ((1 : Int32) < (1 : Int32)))).2.1 (by decide) (by decide) ?_
    show Steps p.tables e below (T5.setTop (mkF m 127 #[.val (.ref a0), .val (.ref a1), .val (.ref a2), .val (.long (((0 : Int64) + ((sv0.toInt64) * ((1 : Int32).toInt64))) + ((sv1.toInt64) * ((1 : Int32).toInt64)))), .second, .val (.int (2 : Int32)), .val (.int sv2), .val (.int (1 : Int32))] [])) _
    refine XS.iload X5.here hx rfl (hb hby d1_127) rfl ?_
    show Steps p.tables e below (T5.setTop (mkF m 129 #[.val (.ref a0), .val (.ref a1), .val (.ref a2), .val (.long (((0 : Int64) + ((sv0.toInt64) * ((1 : Int32).toInt64))) + ((sv1.toInt64) * ((1 : Int32).toInt64)))), .second, .val (.int (2 : Int32)), .val (.int sv2), .val (.int (1 : Int32))] [(.int (2 : Int32))])) _
    refine XS.ifNo X5.here hx rfl (hb hby d1_129) rfl ((if0 _ _).trans (tlt (by decide : (0 : Int32) < (2 : Int32))).2.2.2) ?_
    show Steps p.tables e below (T5.setTop (mkF m 132 #[.val (.ref a0), .val (.ref a1), .val (.ref a2), .val (.long (((0 : Int64) + ((sv0.toInt64) * ((1 : Int32).toInt64))) + ((sv1.toInt64) * ((1 : Int32).toInt64)))), .second, .val (.int (2 : Int32)), .val (.int sv2), .val (.int (1 : Int32))] [])) _
    refine XS.iload X5.here hx rfl (hb hby d1_132) rfl ?_
    show Steps p.tables e below (T5.setTop (mkF m 134 #[.val (.ref a0), .val (.ref a1), .val (.ref a2), .val (.long (((0 : Int64) + ((sv0.toInt64) * ((1 : Int32).toInt64))) + ((sv1.toInt64) * ((1 : Int32).toInt64)))), .second, .val (.int (2 : Int32)), .val (.int sv2), .val (.int (1 : Int32))] [(.int sv2)])) _
    refine XS.aloadN X5.here hx rfl (hb hby d1_134) rfl rfl ?_
    show Steps p.tables e below (T5.setTop (mkF m 135 #[.val (.ref a0), .val (.ref a1), .val (.ref a2), .val (.long (((0 : Int64) + ((sv0.toInt64) * ((1 : Int32).toInt64))) + ((sv1.toInt64) * ((1 : Int32).toInt64)))), .second, .val (.int (2 : Int32)), .val (.int sv2), .val (.int (1 : Int32))] [(.ref a1), (.int sv2)])) _
    refine XS.iload X5.here hx rfl (hb hby d1_135) rfl ?_
    show Steps p.tables e below (T5.setTop (mkF m 137 #[.val (.ref a0), .val (.ref a1), .val (.ref a2), .val (.long (((0 : Int64) + ((sv0.toInt64) * ((1 : Int32).toInt64))) + ((sv1.toInt64) * ((1 : Int32).toInt64)))), .second, .val (.int (2 : Int32)), .val (.int sv2), .val (.int (1 : Int32))] [(.int (2 : Int32)), (.ref a1), (.int sv2)])) _
    refine XS.iconst X5.here hx rfl (hb hby d1_137) ?_
    show Steps p.tables e below (T5.setTop (mkF m 138 #[.val (.ref a0), .val (.ref a1), .val (.ref a2), .val (.long (((0 : Int64) + ((sv0.toInt64) * ((1 : Int32).toInt64))) + ((sv1.toInt64) * ((1 : Int32).toInt64)))), .second, .val (.int (2 : Int32)), .val (.int sv2), .val (.int (1 : Int32))] [(.int (1 : Int32)), (.int (2 : Int32)), (.ref a1), (.int sv2)])) _
    refine XS.isub X5.here hx rfl (hb hby d1_138) rfl ?_
    show Steps p.tables e below (T5.setTop (mkF m 139 #[.val (.ref a0), .val (.ref a1), .val (.ref a2), .val (.long (((0 : Int64) + ((sv0.toInt64) * ((1 : Int32).toInt64))) + ((sv1.toInt64) * ((1 : Int32).toInt64)))), .second, .val (.int (2 : Int32)), .val (.int sv2), .val (.int (1 : Int32))] [(.int (1 : Int32)), (.ref a1), (.int sv2)])) _
    refine X5.iaload hx (j := (1 : Int32)) (v := (.int sv1)) (by rw [e5]; exact Ar19.1) (State.isArrayOf_alike hZ.alike Ar19.2.1) Ar19.2.2 hin19 hat19 (g := (mkF m 139 #[.val (.ref a0), .val (.ref a1), .val (.ref a2), .val (.long (((0 : Int64) + ((sv0.toInt64) * ((1 : Int32).toInt64))) + ((sv1.toInt64) * ((1 : Int32).toInt64)))), .second, .val (.int (2 : Int32)), .val (.int sv2), .val (.int (1 : Int32))] [(.int (1 : Int32)), (.ref a1), (.int sv2)])) rfl rfl (hb hby d1_139) _ ?_
    show Steps p.tables e below (T5.setTop (mkF m 140 #[.val (.ref a0), .val (.ref a1), .val (.ref a2), .val (.long (((0 : Int64) + ((sv0.toInt64) * ((1 : Int32).toInt64))) + ((sv1.toInt64) * ((1 : Int32).toInt64)))), .second, .val (.int (2 : Int32)), .val (.int sv2), .val (.int (1 : Int32))] [(.int sv1), (.int sv2)])) _
    refine XS.icmpYes X5.here hx rfl (pc0 := 140) (pc' := 166) rfl (hb hby d1_140) rfl (tlt hpg1).2.2.1 (by decide) (by decide) ?_
    show Steps p.tables e below (T5.setTop (mkF m 166 #[.val (.ref a0), .val (.ref a1), .val (.ref a2), .val (.long (((0 : Int64) + ((sv0.toInt64) * ((1 : Int32).toInt64))) + ((sv1.toInt64) * ((1 : Int32).toInt64)))), .second, .val (.int (2 : Int32)), .val (.int sv2), .val (.int (1 : Int32))] [])) _
    refine XS.lloadN X5.here hx rfl (hb hby d1_166) rfl ?_
    show Steps p.tables e below (T5.setTop (mkF m 167 #[.val (.ref a0), .val (.ref a1), .val (.ref a2), .val (.long (((0 : Int64) + ((sv0.toInt64) * ((1 : Int32).toInt64))) + ((sv1.toInt64) * ((1 : Int32).toInt64)))), .second, .val (.int (2 : Int32)), .val (.int sv2), .val (.int (1 : Int32))] [(.long (((0 : Int64) + ((sv0.toInt64) * ((1 : Int32).toInt64))) + ((sv1.toInt64) * ((1 : Int32).toInt64))))])) _
    refine XS.iload X5.here hx rfl (hb hby d1_167) rfl ?_
    show Steps p.tables e below (T5.setTop (mkF m 169 #[.val (.ref a0), .val (.ref a1), .val (.ref a2), .val (.long (((0 : Int64) + ((sv0.toInt64) * ((1 : Int32).toInt64))) + ((sv1.toInt64) * ((1 : Int32).toInt64)))), .second, .val (.int (2 : Int32)), .val (.int sv2), .val (.int (1 : Int32))] [(.int sv2), (.long (((0 : Int64) + ((sv0.toInt64) * ((1 : Int32).toInt64))) + ((sv1.toInt64) * ((1 : Int32).toInt64))))])) _
    refine XS.i2l X5.here hx rfl (hb hby d1_169) rfl ?_
    show Steps p.tables e below (T5.setTop (mkF m 170 #[.val (.ref a0), .val (.ref a1), .val (.ref a2), .val (.long (((0 : Int64) + ((sv0.toInt64) * ((1 : Int32).toInt64))) + ((sv1.toInt64) * ((1 : Int32).toInt64)))), .second, .val (.int (2 : Int32)), .val (.int sv2), .val (.int (1 : Int32))] [(.long (sv2.toInt64)), (.long (((0 : Int64) + ((sv0.toInt64) * ((1 : Int32).toInt64))) + ((sv1.toInt64) * ((1 : Int32).toInt64))))])) _
    refine XS.iload X5.here hx rfl (hb hby d1_170) rfl ?_
    show Steps p.tables e below (T5.setTop (mkF m 172 #[.val (.ref a0), .val (.ref a1), .val (.ref a2), .val (.long (((0 : Int64) + ((sv0.toInt64) * ((1 : Int32).toInt64))) + ((sv1.toInt64) * ((1 : Int32).toInt64)))), .second, .val (.int (2 : Int32)), .val (.int sv2), .val (.int (1 : Int32))] [(.int (1 : Int32)), (.long (sv2.toInt64)), (.long (((0 : Int64) + ((sv0.toInt64) * ((1 : Int32).toInt64))) + ((sv1.toInt64) * ((1 : Int32).toInt64))))])) _
    refine XS.i2l X5.here hx rfl (hb hby d1_172) rfl ?_
    show Steps p.tables e below (T5.setTop (mkF m 173 #[.val (.ref a0), .val (.ref a1), .val (.ref a2), .val (.long (((0 : Int64) + ((sv0.toInt64) * ((1 : Int32).toInt64))) + ((sv1.toInt64) * ((1 : Int32).toInt64)))), .second, .val (.int (2 : Int32)), .val (.int sv2), .val (.int (1 : Int32))] [(.long ((1 : Int32).toInt64)), (.long (sv2.toInt64)), (.long (((0 : Int64) + ((sv0.toInt64) * ((1 : Int32).toInt64))) + ((sv1.toInt64) * ((1 : Int32).toInt64))))])) _
    refine XS.lmul X5.here hx rfl (hb hby d1_173) rfl ?_
    show Steps p.tables e below (T5.setTop (mkF m 174 #[.val (.ref a0), .val (.ref a1), .val (.ref a2), .val (.long (((0 : Int64) + ((sv0.toInt64) * ((1 : Int32).toInt64))) + ((sv1.toInt64) * ((1 : Int32).toInt64)))), .second, .val (.int (2 : Int32)), .val (.int sv2), .val (.int (1 : Int32))] [(.long ((sv2.toInt64) * ((1 : Int32).toInt64))), (.long (((0 : Int64) + ((sv0.toInt64) * ((1 : Int32).toInt64))) + ((sv1.toInt64) * ((1 : Int32).toInt64))))])) _
    refine XS.ladd X5.here hx rfl (hb hby d1_174) rfl ?_
    show Steps p.tables e below (T5.setTop (mkF m 175 #[.val (.ref a0), .val (.ref a1), .val (.ref a2), .val (.long (((0 : Int64) + ((sv0.toInt64) * ((1 : Int32).toInt64))) + ((sv1.toInt64) * ((1 : Int32).toInt64)))), .second, .val (.int (2 : Int32)), .val (.int sv2), .val (.int (1 : Int32))] [(.long ((((0 : Int64) + ((sv0.toInt64) * ((1 : Int32).toInt64))) + ((sv1.toInt64) * ((1 : Int32).toInt64))) + ((sv2.toInt64) * ((1 : Int32).toInt64))))])) _
    refine XS.lstoreN X5.here hx rfl (hb hby d1_175) rfl (l' := #[.val (.ref a0), .val (.ref a1), .val (.ref a2), .val (.long ((((0 : Int64) + ((sv0.toInt64) * ((1 : Int32).toInt64))) + ((sv1.toInt64) * ((1 : Int32).toInt64))) + ((sv2.toInt64) * ((1 : Int32).toInt64)))), .second, .val (.int (2 : Int32)), .val (.int sv2), .val (.int (1 : Int32))]) rfl ?_
    show Steps p.tables e below (T5.setTop (mkF m 176 #[.val (.ref a0), .val (.ref a1), .val (.ref a2), .val (.long ((((0 : Int64) + ((sv0.toInt64) * ((1 : Int32).toInt64))) + ((sv1.toInt64) * ((1 : Int32).toInt64))) + ((sv2.toInt64) * ((1 : Int32).toInt64)))), .second, .val (.int (2 : Int32)), .val (.int sv2), .val (.int (1 : Int32))] [])) _
    refine XS.iinc X5.here hx rfl (hb hby d1_176) rfl (l' := #[.val (.ref a0), .val (.ref a1), .val (.ref a2), .val (.long ((((0 : Int64) + ((sv0.toInt64) * ((1 : Int32).toInt64))) + ((sv1.toInt64) * ((1 : Int32).toInt64))) + ((sv2.toInt64) * ((1 : Int32).toInt64)))), .second, .val (.int (3 : Int32)), .val (.int sv2), .val (.int (1 : Int32))]) rfl ?_
    show Steps p.tables e below (T5.setTop (mkF m 179 #[.val (.ref a0), .val (.ref a1), .val (.ref a2), .val (.long ((((0 : Int64) + ((sv0.toInt64) * ((1 : Int32).toInt64))) + ((sv1.toInt64) * ((1 : Int32).toInt64))) + ((sv2.toInt64) * ((1 : Int32).toInt64)))), .second, .val (.int (3 : Int32)), .val (.int sv2), .val (.int (1 : Int32))] [])) _
    refine XS.goto X5.here hx rfl (pc0 := 179) (pc' := 62) rfl (hb hby d1_179) (by decide) (by decide) ?_
    show Steps p.tables e below (T5.setTop (mkF m 62 #[.val (.ref a0), .val (.ref a1), .val (.ref a2), .val (.long ((((0 : Int64) + ((sv0.toInt64) * ((1 : Int32).toInt64))) + ((sv1.toInt64) * ((1 : Int32).toInt64))) + ((sv2.toInt64) * ((1 : Int32).toInt64)))), .second, .val (.int (3 : Int32)), .val (.int sv2), .val (.int (1 : Int32))] [])) _
    refine XS.iload X5.here hx rfl (hb hby d1_62) rfl ?_
    show Steps p.tables e below (T5.setTop (mkF m 64 #[.val (.ref a0), .val (.ref a1), .val (.ref a2), .val (.long ((((0 : Int64) + ((sv0.toInt64) * ((1 : Int32).toInt64))) + ((sv1.toInt64) * ((1 : Int32).toInt64))) + ((sv2.toInt64) * ((1 : Int32).toInt64)))), .second, .val (.int (3 : Int32)), .val (.int sv2), .val (.int (1 : Int32))] [(.int (3 : Int32))])) _
    refine XS.aloadN X5.here hx rfl (hb hby d1_64) rfl rfl ?_
    show Steps p.tables e below (T5.setTop (mkF m 65 #[.val (.ref a0), .val (.ref a1), .val (.ref a2), .val (.long ((((0 : Int64) + ((sv0.toInt64) * ((1 : Int32).toInt64))) + ((sv1.toInt64) * ((1 : Int32).toInt64))) + ((sv2.toInt64) * ((1 : Int32).toInt64)))), .second, .val (.int (3 : Int32)), .val (.int sv2), .val (.int (1 : Int32))] [(.ref a1), (.int (3 : Int32))])) _
    refine X5.arraylength hx (by rw [e5]; exact Ar20.1) (State.isArrayOf_alike hZ.alike Ar20.2.1) (g := (mkF m 65 #[.val (.ref a0), .val (.ref a1), .val (.ref a2), .val (.long ((((0 : Int64) + ((sv0.toInt64) * ((1 : Int32).toInt64))) + ((sv1.toInt64) * ((1 : Int32).toInt64))) + ((sv2.toInt64) * ((1 : Int32).toInt64)))), .second, .val (.int (3 : Int32)), .val (.int sv2), .val (.int (1 : Int32))] [(.ref a1), (.int (3 : Int32))])) rfl rfl (hb hby d1_65) _ ?_
    rw [len_of S20 N20']
    show Steps p.tables e below (T5.setTop (mkF m 66 #[.val (.ref a0), .val (.ref a1), .val (.ref a2), .val (.long ((((0 : Int64) + ((sv0.toInt64) * ((1 : Int32).toInt64))) + ((sv1.toInt64) * ((1 : Int32).toInt64))) + ((sv2.toInt64) * ((1 : Int32).toInt64)))), .second, .val (.int (3 : Int32)), .val (.int sv2), .val (.int (1 : Int32))] [(.int (3 : Int32)), (.int (3 : Int32))])) _
    refine XS.icmpYes X5.here hx rfl (pc0 := 66) (pc' := 182) rfl (hb hby d1_66) rfl (flt (by decide : ¬ ((3 : Int32) < (3 : Int32)))).2.1 (by decide) (by decide) ?_
    show Steps p.tables e below (T5.setTop (mkF m 182 #[.val (.ref a0), .val (.ref a1), .val (.ref a2), .val (.long ((((0 : Int64) + ((sv0.toInt64) * ((1 : Int32).toInt64))) + ((sv1.toInt64) * ((1 : Int32).toInt64))) + ((sv2.toInt64) * ((1 : Int32).toInt64)))), .second, .val (.int (3 : Int32)), .val (.int sv2), .val (.int (1 : Int32))] [])) _
    refine XS.aloadN X5.here hx rfl (hb hby d1_182) rfl rfl ?_
    show Steps p.tables e below (T5.setTop (mkF m 183 #[.val (.ref a0), .val (.ref a1), .val (.ref a2), .val (.long ((((0 : Int64) + ((sv0.toInt64) * ((1 : Int32).toInt64))) + ((sv1.toInt64) * ((1 : Int32).toInt64))) + ((sv2.toInt64) * ((1 : Int32).toInt64)))), .second, .val (.int (3 : Int32)), .val (.int sv2), .val (.int (1 : Int32))] [(.ref a0)])) _
    refine XS.aloadN X5.here hx rfl (hb hby d1_183) rfl rfl ?_
    show Steps p.tables e below (T5.setTop (mkF m 184 #[.val (.ref a0), .val (.ref a1), .val (.ref a2), .val (.long ((((0 : Int64) + ((sv0.toInt64) * ((1 : Int32).toInt64))) + ((sv1.toInt64) * ((1 : Int32).toInt64))) + ((sv2.toInt64) * ((1 : Int32).toInt64)))), .second, .val (.int (3 : Int32)), .val (.int sv2), .val (.int (1 : Int32))] [(.ref a1), (.ref a0)])) _
    refine st21 _ ?_
    show Steps p.tables e below (T21.setTop (mkF m 187 #[.val (.ref a0), .val (.ref a1), .val (.ref a2), .val (.long ((((0 : Int64) + ((sv0.toInt64) * ((1 : Int32).toInt64))) + ((sv1.toInt64) * ((1 : Int32).toInt64))) + ((sv2.toInt64) * ((1 : Int32).toInt64)))), .second, .val (.int (3 : Int32)), .val (.int sv2), .val (.int (1 : Int32))] [(.ref b21), (.ref a0)])) _
    refine st22 _ ?_
    show Steps p.tables e below (T22.setTop (mkF m 190 #[.val (.ref a0), .val (.ref a1), .val (.ref a2), .val (.long ((((0 : Int64) + ((sv0.toInt64) * ((1 : Int32).toInt64))) + ((sv1.toInt64) * ((1 : Int32).toInt64))) + ((sv2.toInt64) * ((1 : Int32).toInt64)))), .second, .val (.int (3 : Int32)), .val (.int sv2), .val (.int (1 : Int32))] [(.ref b21), (.ref a0)])) _
    refine st23 _ ?_
    show Steps p.tables e below (T23.setTop (mkF m 193 #[.val (.ref a0), .val (.ref a1), .val (.ref a2), .val (.long ((((0 : Int64) + ((sv0.toInt64) * ((1 : Int32).toInt64))) + ((sv1.toInt64) * ((1 : Int32).toInt64))) + ((sv2.toInt64) * ((1 : Int32).toInt64)))), .second, .val (.int (3 : Int32)), .val (.int sv2), .val (.int (1 : Int32))] [])) _
    refine XS.aloadN X23.here hx rfl (hb hby d1_193) rfl rfl ?_
    show Steps p.tables e below (T23.setTop (mkF m 194 #[.val (.ref a0), .val (.ref a1), .val (.ref a2), .val (.long ((((0 : Int64) + ((sv0.toInt64) * ((1 : Int32).toInt64))) + ((sv1.toInt64) * ((1 : Int32).toInt64))) + ((sv2.toInt64) * ((1 : Int32).toInt64)))), .second, .val (.int (3 : Int32)), .val (.int sv2), .val (.int (1 : Int32))] [(.ref a0)])) _
    refine XS.aloadN X23.here hx rfl (hb hby d1_194) rfl rfl ?_
    show Steps p.tables e below (T23.setTop (mkF m 195 #[.val (.ref a0), .val (.ref a1), .val (.ref a2), .val (.long ((((0 : Int64) + ((sv0.toInt64) * ((1 : Int32).toInt64))) + ((sv1.toInt64) * ((1 : Int32).toInt64))) + ((sv2.toInt64) * ((1 : Int32).toInt64)))), .second, .val (.int (3 : Int32)), .val (.int sv2), .val (.int (1 : Int32))] [(.ref a2), (.ref a0)])) _
    refine st24 _ ?_
    show Steps p.tables e below (T24.setTop (mkF m 198 #[.val (.ref a0), .val (.ref a1), .val (.ref a2), .val (.long ((((0 : Int64) + ((sv0.toInt64) * ((1 : Int32).toInt64))) + ((sv1.toInt64) * ((1 : Int32).toInt64))) + ((sv2.toInt64) * ((1 : Int32).toInt64)))), .second, .val (.int (3 : Int32)), .val (.int sv2), .val (.int (1 : Int32))] [(.ref b24), (.ref a0)])) _
    refine st25 _ ?_
    show Steps p.tables e below (T25.setTop (mkF m 201 #[.val (.ref a0), .val (.ref a1), .val (.ref a2), .val (.long ((((0 : Int64) + ((sv0.toInt64) * ((1 : Int32).toInt64))) + ((sv1.toInt64) * ((1 : Int32).toInt64))) + ((sv2.toInt64) * ((1 : Int32).toInt64)))), .second, .val (.int (3 : Int32)), .val (.int sv2), .val (.int (1 : Int32))] [(.ref b24), (.ref a0)])) _
    refine st26 _ ?_
    show Steps p.tables e below (T26.setTop (mkF m 204 #[.val (.ref a0), .val (.ref a1), .val (.ref a2), .val (.long ((((0 : Int64) + ((sv0.toInt64) * ((1 : Int32).toInt64))) + ((sv1.toInt64) * ((1 : Int32).toInt64))) + ((sv2.toInt64) * ((1 : Int32).toInt64)))), .second, .val (.int (3 : Int32)), .val (.int sv2), .val (.int (1 : Int32))] [])) _
    refine XS.aloadN X26.here hx rfl (hb hby d1_204) rfl rfl ?_
    show Steps p.tables e below (T26.setTop (mkF m 205 #[.val (.ref a0), .val (.ref a1), .val (.ref a2), .val (.long ((((0 : Int64) + ((sv0.toInt64) * ((1 : Int32).toInt64))) + ((sv1.toInt64) * ((1 : Int32).toInt64))) + ((sv2.toInt64) * ((1 : Int32).toInt64)))), .second, .val (.int (3 : Int32)), .val (.int sv2), .val (.int (1 : Int32))] [(.ref a0)])) _
    refine XS.lloadN X26.here hx rfl (hb hby d1_205) rfl ?_
    show Steps p.tables e below (T26.setTop (mkF m 206 #[.val (.ref a0), .val (.ref a1), .val (.ref a2), .val (.long ((((0 : Int64) + ((sv0.toInt64) * ((1 : Int32).toInt64))) + ((sv1.toInt64) * ((1 : Int32).toInt64))) + ((sv2.toInt64) * ((1 : Int32).toInt64)))), .second, .val (.int (3 : Int32)), .val (.int sv2), .val (.int (1 : Int32))] [(.long ((((0 : Int64) + ((sv0.toInt64) * ((1 : Int32).toInt64))) + ((sv1.toInt64) * ((1 : Int32).toInt64))) + ((sv2.toInt64) * ((1 : Int32).toInt64)))), (.ref a0)])) _
    refine st27 _ ?_
    exact kt
  obtain ⟨fs, hr, hrun, hended, hEnd⟩ := Stand.leaveW (s := s) X27 hS4 (by rw [e27]; exact hk27) (v := none) (fun _ => rfl) (BodyLoose.notSynchronized Bd)
  refine ⟨_, _, ?_, hrun, hended, _, _, rfl, ?_, own_endW hEnd (by decide) (by decide)⟩
  · show Steps p.tables e below (T27.setTop (mkF m 209 #[.val (.ref a0), .val (.ref a1), .val (.ref a2), .val (.long ((((0 : Int64) + ((sv0.toInt64) * ((1 : Int32).toInt64))) + ((sv1.toInt64) * ((1 : Int32).toInt64))) + ((sv2.toInt64) * ((1 : Int32).toInt64)))), .second, .val (.int (3 : Int32)), .val (.int sv2), .val (.int (1 : Int32))] [])) _
    exact X27.returnOut hx Bd.returns (hb hby d1_209) hr
  · show Q1c Z a0 a1 a2 kx1 kx2 sv0 sv1 sv2 h0 n0 _ T27.heap _
    rw [e27]
    exact ⟨b21, rfl, N27, K27, f27_0, f27_7, f27_5⟩
theorem pn_4c : plainName "com/example/byteloom/byteloom/SectionLayout" = true := by first | (simp [plainName, overriddenIn]; done) | decide +kernel
theorem ef_4c (m : MethodId) (x0 : Addr) (x1 : Int64) : entryFrame m #[(.ref x0), (.long x1)] 5 = mkF m 0 #[.val (.ref x0), .val (.long x1), .second, .unset, .unset] [] := by first | (simp [entryFrame, mkF, argsToLocals, Value.category]; done) | rfl
def f4c (q1 : Int64) (sv0 : Int32) (sv1 : Int32) (sv2 : Int32) : Int32 := (if (sv0.toInt64) < q1 then (if (sv1.toInt64) < q1 then (if (sv2.toInt64) < q1 then (-1 : Int32) else (2 : Int32)) else (1 : Int32)) else (0 : Int32))
def Q4c (Z : State) (a0 : Addr) (q1 : Int64) (av : Addr) (kA : ClassId) (sv0 : Int32) (sv1 : Int32) (sv2 : Int32) (h0 : Heap) (n0 : Nat) (v : Option Value) (h : Heap) (L : List Loc) : Prop := v = some (.int (f4c q1 sv0 sv1 sv2)) ∧ Fr n0 L ∧ h = h0
set_option maxRecDepth 65536 in
set_option maxHeartbeats 40000000 in
theorem rm4c (l : Launch) (Z : State) (aw : Array Value) (hw : ∀ d ∈ tables_1, d.before aw Z = true) (ws : List Jvm.Cond) (a0 : Addr) (q1 : Int64) (av : Addr) (kA : ClassId) (sv0 : Int32) (sv1 : Int32) (sv2 : Int32) (h0 : Heap) (n0 : Nat) (Z0 : n0 ≤ h0.size) (F_blockSizes_a0 : Fld Z h0 a0 "com/example/byteloom/byteloom/SectionLayout" "blockSizes" "[I" (.ref av)) (V_av : Arv Z h0 av kA .int (3 : Int32) [(.int sv0), (.int sv1), (.int sv2)] (.int (0 : Int32))) (hq : ¬ (q1 < (0 : Int64))) :
    MetFree l (⟨"com/example/byteloom/byteloom/SectionLayout", "sectionFor", "(J)I"⟩ : MethodName) (head1 (Jvm.Cond.code (⟨"com/example/byteloom/byteloom/SectionLayout", "sectionFor", "(J)I"⟩ : MethodName) prog_14_method_6_code 5 (some .int) :: ws) ({ frames := 0, cells := 0, slots := 0, locals := 0 } : Room)) (fun a U => a = #[(.ref a0), (.long q1)] ∧ Z.Warmed39 U.vm ∧ U.heap = h0) (fun _ _ _ _ _ => True) (fun _ U o U' => ∃ v L, o = .returned v ∧ Q4c Z a0 q1 av kA sv0 sv1 sv2 h0 n0 v U'.heap L ∧ FrameEnd U o U' L ({ frames := 0, cells := 0, slots := 0, locals := 0 } : Room).cells ({ frames := 0, cells := 0, slots := 0, locals := 0 } : Room).slots) := by
  refine MetFree.of_bodySF (plainFor_of_name pn_4c) hisR ?_
  intro p e s m args below meth c s₁ Bd hml0 hP hK
  obtain ⟨rfl, hZ, hh⟩ := hP
  have hx := Bd.exec
  have hby := Bd.bytes
  have hml : c.maxLocals = 5 := hml0
  have hown : s.vm.findClass "com/example/byteloom/byteloom/SectionLayout" = some m.cls := findClass_of_methodNamed Bd.named
  have hnm := (name_of_methodNamed Bd.named Bd.method).1
  have X0 : Stand p l e ({ frames := 0, cells := 0, slots := 0, locals := 0 } : Room) s m #[(.ref a0), (.long q1)] below meth c s₁ [] 0 0 := Stand.of_body Bd
  have e0 : s₁.heap = h0 := by rw [← hh, Bd.state]; rfl
  have N0 := Fr.nil n0
  refine own_back (b := s₁.setTop (mkF m 0 #[.val (.ref a0), .val (.long q1), .second, .unset, .unset] [])) (fun t kt => castTop (ef_4c m a0 q1) kt) ?_
  obtain ⟨T1, X1, e1, st1⟩ := getF X0 hx hZ hown (host := "") (Or.inl (hw _ (List.mem_of_getElem? (i := 36) rfl))) Via.refl e0 F_blockSizes_a0 (g := (mkF m 28 #[.val (.ref a0), .val (.long q1), .second, .val (.int (-1 : Int32)), .val (.int (0 : Int32))] [(.ref a0), (.int (0 : Int32))])) rfl rfl (hb hby d4_28)
  obtain ⟨cl2, Ar2, qk2, S2, N2', -, -⟩ := own_same V_av
  obtain ⟨T3, X3, e3, st3⟩ := getF X1 hx hZ hown (host := "") (Or.inl (hw _ (List.mem_of_getElem? (i := 36) rfl))) Via.refl e1 F_blockSizes_a0 (g := (mkF m 36 #[.val (.ref a0), .val (.long q1), .second, .val (.int (-1 : Int32)), .val (.int (0 : Int32))] [(.ref a0)])) rfl rfl (hb hby d4_36)
  obtain ⟨cl4, Ar4, qk4, S4, N4', Hh4, G4⟩ := own_same V_av
  have hin4 : ¬ ((0 : Int32) < 0 ∨ cl4.slots.size ≤ ((0 : Int32)).toNatClampNeg) := inb_of S4 ⟨by decide, by decide⟩
  have hat4 : cl4.slots[((0 : Int32)).toNatClampNeg]? = some (.int sv0) := Has.at Hh4 hin4 rfl
  refine own_back (b := T3.setTop (mkF m 45 #[.val (.ref a0), .val (.long q1), .second, .val (.int (-1 : Int32)), .val (.int (0 : Int32))] [(.int (lcmpW (sv0.toInt64) q1))])) (fun t kt => ?_) ?_
  · show Steps p.tables e below (s₁.setTop (mkF m 0 #[.val (.ref a0), .val (.long q1), .second, .unset, .unset] [])) _
    refine XS.lloadN X0.here hx rfl (hb hby d4_0) rfl ?_
    show Steps p.tables e below (s₁.setTop (mkF m 1 #[.val (.ref a0), .val (.long q1), .second, .unset, .unset] [(.long q1)])) _
    refine XS.lconst X0.here hx rfl (hb hby d4_1) ?_
    show Steps p.tables e below (s₁.setTop (mkF m 2 #[.val (.ref a0), .val (.long q1), .second, .unset, .unset] [(.long (0 : Int64)), (.long q1)])) _
    refine XS.lcmp X0.here hx rfl (hb hby d4_2) rfl ?_
    show Steps p.tables e below (s₁.setTop (mkF m 3 #[.val (.ref a0), .val (.long q1), .second, .unset, .unset] [(.int (lcmpW q1 (0 : Int64)))])) _
    refine XS.ifYes X0.here hx rfl (pc0 := 3) (pc' := 20) rfl (hb hby d4_3) rfl ((if0 _ _).trans (flt (fun q => hq ((lw_lt _ _).mp q))).2.1) (by decide) (by decide) ?_
    show Steps p.tables e below (s₁.setTop (mkF m 20 #[.val (.ref a0), .val (.long q1), .second, .unset, .unset] [])) _
    refine XS.iconst X0.here hx rfl (hb hby d4_20) ?_
    show Steps p.tables e below (s₁.setTop (mkF m 21 #[.val (.ref a0), .val (.long q1), .second, .unset, .unset] [(.int (-1 : Int32))])) _
    refine XS.istoreN X0.here hx rfl (hb hby d4_21) rfl (l' := #[.val (.ref a0), .val (.long q1), .second, .val (.int (-1 : Int32)), .unset]) rfl ?_
    show Steps p.tables e below (s₁.setTop (mkF m 22 #[.val (.ref a0), .val (.long q1), .second, .val (.int (-1 : Int32)), .unset] [])) _
    refine XS.iconst X0.here hx rfl (hb hby d4_22) ?_
    show Steps p.tables e below (s₁.setTop (mkF m 23 #[.val (.ref a0), .val (.long q1), .second, .val (.int (-1 : Int32)), .unset] [(.int (0 : Int32))])) _
    refine XS.istore X0.here hx rfl (hb hby d4_23) rfl (l' := #[.val (.ref a0), .val (.long q1), .second, .val (.int (-1 : Int32)), .val (.int (0 : Int32))]) rfl ?_
    show Steps p.tables e below (s₁.setTop (mkF m 25 #[.val (.ref a0), .val (.long q1), .second, .val (.int (-1 : Int32)), .val (.int (0 : Int32))] [])) _
    refine XS.iload X0.here hx rfl (hb hby d4_25) rfl ?_
    show Steps p.tables e below (s₁.setTop (mkF m 27 #[.val (.ref a0), .val (.long q1), .second, .val (.int (-1 : Int32)), .val (.int (0 : Int32))] [(.int (0 : Int32))])) _
    refine XS.aloadN X0.here hx rfl (hb hby d4_27) rfl rfl ?_
    show Steps p.tables e below (s₁.setTop (mkF m 28 #[.val (.ref a0), .val (.long q1), .second, .val (.int (-1 : Int32)), .val (.int (0 : Int32))] [(.ref a0), (.int (0 : Int32))])) _
    refine st1 _ ?_
    show Steps p.tables e below (T1.setTop (mkF m 31 #[.val (.ref a0), .val (.long q1), .second, .val (.int (-1 : Int32)), .val (.int (0 : Int32))] [(.ref av), (.int (0 : Int32))])) _
    refine X1.arraylength hx (by rw [e1]; exact Ar2.1) (State.isArrayOf_alike hZ.alike Ar2.2.1) (g := (mkF m 31 #[.val (.ref a0), .val (.long q1), .second, .val (.int (-1 : Int32)), .val (.int (0 : Int32))] [(.ref av), (.int (0 : Int32))])) rfl rfl (hb hby d4_31) _ ?_
    rw [len_of S2 N2']
    show Steps p.tables e below (T1.setTop (mkF m 32 #[.val (.ref a0), .val (.long q1), .second, .val (.int (-1 : Int32)), .val (.int (0 : Int32))] [(.int (3 : Int32)), (.int (0 : Int32))])) _
    refine XS.icmpNo X1.here hx rfl (hb hby d4_32) rfl (tlt (by decide : (0 : Int32) < (3 : Int32))).2.1 ?_
    show Steps p.tables e below (T1.setTop (mkF m 35 #[.val (.ref a0), .val (.long q1), .second, .val (.int (-1 : Int32)), .val (.int (0 : Int32))] [])) _
    refine XS.aloadN X1.here hx rfl (hb hby d4_35) rfl rfl ?_
    show Steps p.tables e below (T1.setTop (mkF m 36 #[.val (.ref a0), .val (.long q1), .second, .val (.int (-1 : Int32)), .val (.int (0 : Int32))] [(.ref a0)])) _
    refine st3 _ ?_
    show Steps p.tables e below (T3.setTop (mkF m 39 #[.val (.ref a0), .val (.long q1), .second, .val (.int (-1 : Int32)), .val (.int (0 : Int32))] [(.ref av)])) _
    refine XS.iload X3.here hx rfl (hb hby d4_39) rfl ?_
    show Steps p.tables e below (T3.setTop (mkF m 41 #[.val (.ref a0), .val (.long q1), .second, .val (.int (-1 : Int32)), .val (.int (0 : Int32))] [(.int (0 : Int32)), (.ref av)])) _
    refine X3.iaload hx (j := (0 : Int32)) (v := (.int sv0)) (by rw [e3]; exact Ar4.1) (State.isArrayOf_alike hZ.alike Ar4.2.1) Ar4.2.2 hin4 hat4 (g := (mkF m 41 #[.val (.ref a0), .val (.long q1), .second, .val (.int (-1 : Int32)), .val (.int (0 : Int32))] [(.int (0 : Int32)), (.ref av)])) rfl rfl (hb hby d4_41) _ ?_
    show Steps p.tables e below (T3.setTop (mkF m 42 #[.val (.ref a0), .val (.long q1), .second, .val (.int (-1 : Int32)), .val (.int (0 : Int32))] [(.int sv0)])) _
    refine XS.i2l X3.here hx rfl (hb hby d4_42) rfl ?_
    show Steps p.tables e below (T3.setTop (mkF m 43 #[.val (.ref a0), .val (.long q1), .second, .val (.int (-1 : Int32)), .val (.int (0 : Int32))] [(.long (sv0.toInt64))])) _
    refine XS.lloadN X3.here hx rfl (hb hby d4_43) rfl ?_
    show Steps p.tables e below (T3.setTop (mkF m 44 #[.val (.ref a0), .val (.long q1), .second, .val (.int (-1 : Int32)), .val (.int (0 : Int32))] [(.long q1), (.long (sv0.toInt64))])) _
    refine XS.lcmp X3.here hx rfl (hb hby d4_44) rfl ?_
    exact kt
  by_cases hc45_5 : (sv0.toInt64) < q1
  · obtain ⟨T6, X6, e6, st6⟩ := getF X3 hx hZ hown (host := "") (Or.inl (hw _ (List.mem_of_getElem? (i := 36) rfl))) Via.refl e3 F_blockSizes_a0 (g := (mkF m 28 #[.val (.ref a0), .val (.long q1), .second, .val (.int (-1 : Int32)), .val (.int (1 : Int32))] [(.ref a0), (.int (1 : Int32))])) rfl rfl (hb hby d4_28)
    obtain ⟨cl7, Ar7, qk7, S7, N7', -, -⟩ := own_same V_av
    obtain ⟨T8, X8, e8, st8⟩ := getF X6 hx hZ hown (host := "") (Or.inl (hw _ (List.mem_of_getElem? (i := 36) rfl))) Via.refl e6 F_blockSizes_a0 (g := (mkF m 36 #[.val (.ref a0), .val (.long q1), .second, .val (.int (-1 : Int32)), .val (.int (1 : Int32))] [(.ref a0)])) rfl rfl (hb hby d4_36)
    obtain ⟨cl9, Ar9, qk9, S9, N9', Hh9, G9⟩ := own_same V_av
    have hin9 : ¬ ((1 : Int32) < 0 ∨ cl9.slots.size ≤ ((1 : Int32)).toNatClampNeg) := inb_of S9 ⟨by decide, by decide⟩
    have hat9 : cl9.slots[((1 : Int32)).toNatClampNeg]? = some (.int sv1) := Has.at Hh9 hin9 rfl
    refine own_back (b := T8.setTop (mkF m 45 #[.val (.ref a0), .val (.long q1), .second, .val (.int (-1 : Int32)), .val (.int (1 : Int32))] [(.int (lcmpW (sv1.toInt64) q1))])) (fun t kt => ?_) ?_
    · show Steps p.tables e below (T3.setTop (mkF m 45 #[.val (.ref a0), .val (.long q1), .second, .val (.int (-1 : Int32)), .val (.int (0 : Int32))] [(.int (lcmpW (sv0.toInt64) q1))])) _
      refine XS.ifYes X3.here hx rfl (pc0 := 45) (pc' := 54) rfl (hb hby d4_45) rfl ((if0 _ _).trans (tlt ((lw_lt _ _).mpr hc45_5)).1) (by decide) (by decide) ?_
      show Steps p.tables e below (T3.setTop (mkF m 54 #[.val (.ref a0), .val (.long q1), .second, .val (.int (-1 : Int32)), .val (.int (0 : Int32))] [])) _
      refine XS.iinc X3.here hx rfl (hb hby d4_54) rfl (l' := #[.val (.ref a0), .val (.long q1), .second, .val (.int (-1 : Int32)), .val (.int (1 : Int32))]) rfl ?_
      show Steps p.tables e below (T3.setTop (mkF m 57 #[.val (.ref a0), .val (.long q1), .second, .val (.int (-1 : Int32)), .val (.int (1 : Int32))] [])) _
      refine XS.goto X3.here hx rfl (pc0 := 57) (pc' := 25) rfl (hb hby d4_57) (by decide) (by decide) ?_
      show Steps p.tables e below (T3.setTop (mkF m 25 #[.val (.ref a0), .val (.long q1), .second, .val (.int (-1 : Int32)), .val (.int (1 : Int32))] [])) _
      refine XS.iload X3.here hx rfl (hb hby d4_25) rfl ?_
      show Steps p.tables e below (T3.setTop (mkF m 27 #[.val (.ref a0), .val (.long q1), .second, .val (.int (-1 : Int32)), .val (.int (1 : Int32))] [(.int (1 : Int32))])) _
      refine XS.aloadN X3.here hx rfl (hb hby d4_27) rfl rfl ?_
      show Steps p.tables e below (T3.setTop (mkF m 28 #[.val (.ref a0), .val (.long q1), .second, .val (.int (-1 : Int32)), .val (.int (1 : Int32))] [(.ref a0), (.int (1 : Int32))])) _
      refine st6 _ ?_
      show Steps p.tables e below (T6.setTop (mkF m 31 #[.val (.ref a0), .val (.long q1), .second, .val (.int (-1 : Int32)), .val (.int (1 : Int32))] [(.ref av), (.int (1 : Int32))])) _
      refine X6.arraylength hx (by rw [e6]; exact Ar7.1) (State.isArrayOf_alike hZ.alike Ar7.2.1) (g := (mkF m 31 #[.val (.ref a0), .val (.long q1), .second, .val (.int (-1 : Int32)), .val (.int (1 : Int32))] [(.ref av), (.int (1 : Int32))])) rfl rfl (hb hby d4_31) _ ?_
      rw [len_of S7 N7']
      show Steps p.tables e below (T6.setTop (mkF m 32 #[.val (.ref a0), .val (.long q1), .second, .val (.int (-1 : Int32)), .val (.int (1 : Int32))] [(.int (3 : Int32)), (.int (1 : Int32))])) _
      refine XS.icmpNo X6.here hx rfl (hb hby d4_32) rfl (tlt (by decide : (1 : Int32) < (3 : Int32))).2.1 ?_
      show Steps p.tables e below (T6.setTop (mkF m 35 #[.val (.ref a0), .val (.long q1), .second, .val (.int (-1 : Int32)), .val (.int (1 : Int32))] [])) _
      refine XS.aloadN X6.here hx rfl (hb hby d4_35) rfl rfl ?_
      show Steps p.tables e below (T6.setTop (mkF m 36 #[.val (.ref a0), .val (.long q1), .second, .val (.int (-1 : Int32)), .val (.int (1 : Int32))] [(.ref a0)])) _
      refine st8 _ ?_
      show Steps p.tables e below (T8.setTop (mkF m 39 #[.val (.ref a0), .val (.long q1), .second, .val (.int (-1 : Int32)), .val (.int (1 : Int32))] [(.ref av)])) _
      refine XS.iload X8.here hx rfl (hb hby d4_39) rfl ?_
      show Steps p.tables e below (T8.setTop (mkF m 41 #[.val (.ref a0), .val (.long q1), .second, .val (.int (-1 : Int32)), .val (.int (1 : Int32))] [(.int (1 : Int32)), (.ref av)])) _
      refine X8.iaload hx (j := (1 : Int32)) (v := (.int sv1)) (by rw [e8]; exact Ar9.1) (State.isArrayOf_alike hZ.alike Ar9.2.1) Ar9.2.2 hin9 hat9 (g := (mkF m 41 #[.val (.ref a0), .val (.long q1), .second, .val (.int (-1 : Int32)), .val (.int (1 : Int32))] [(.int (1 : Int32)), (.ref av)])) rfl rfl (hb hby d4_41) _ ?_
      show Steps p.tables e below (T8.setTop (mkF m 42 #[.val (.ref a0), .val (.long q1), .second, .val (.int (-1 : Int32)), .val (.int (1 : Int32))] [(.int sv1)])) _
      refine XS.i2l X8.here hx rfl (hb hby d4_42) rfl ?_
      show Steps p.tables e below (T8.setTop (mkF m 43 #[.val (.ref a0), .val (.long q1), .second, .val (.int (-1 : Int32)), .val (.int (1 : Int32))] [(.long (sv1.toInt64))])) _
      refine XS.lloadN X8.here hx rfl (hb hby d4_43) rfl ?_
      show Steps p.tables e below (T8.setTop (mkF m 44 #[.val (.ref a0), .val (.long q1), .second, .val (.int (-1 : Int32)), .val (.int (1 : Int32))] [(.long q1), (.long (sv1.toInt64))])) _
      refine XS.lcmp X8.here hx rfl (hb hby d4_44) rfl ?_
      exact kt
    by_cases hc45_10 : (sv1.toInt64) < q1
    · obtain ⟨T11, X11, e11, st11⟩ := getF X8 hx hZ hown (host := "") (Or.inl (hw _ (List.mem_of_getElem? (i := 36) rfl))) Via.refl e8 F_blockSizes_a0 (g := (mkF m 28 #[.val (.ref a0), .val (.long q1), .second, .val (.int (-1 : Int32)), .val (.int (2 : Int32))] [(.ref a0), (.int (2 : Int32))])) rfl rfl (hb hby d4_28)
      obtain ⟨cl12, Ar12, qk12, S12, N12', -, -⟩ := own_same V_av
      obtain ⟨T13, X13, e13, st13⟩ := getF X11 hx hZ hown (host := "") (Or.inl (hw _ (List.mem_of_getElem? (i := 36) rfl))) Via.refl e11 F_blockSizes_a0 (g := (mkF m 36 #[.val (.ref a0), .val (.long q1), .second, .val (.int (-1 : Int32)), .val (.int (2 : Int32))] [(.ref a0)])) rfl rfl (hb hby d4_36)
      obtain ⟨cl14, Ar14, qk14, S14, N14', Hh14, G14⟩ := own_same V_av
      have hin14 : ¬ ((2 : Int32) < 0 ∨ cl14.slots.size ≤ ((2 : Int32)).toNatClampNeg) := inb_of S14 ⟨by decide, by decide⟩
      have hat14 : cl14.slots[((2 : Int32)).toNatClampNeg]? = some (.int sv2) := Has.at Hh14 hin14 rfl
      refine own_back (b := T13.setTop (mkF m 45 #[.val (.ref a0), .val (.long q1), .second, .val (.int (-1 : Int32)), .val (.int (2 : Int32))] [(.int (lcmpW (sv2.toInt64) q1))])) (fun t kt => ?_) ?_
      · show Steps p.tables e below (T8.setTop (mkF m 45 #[.val (.ref a0), .val (.long q1), .second, .val (.int (-1 : Int32)), .val (.int (1 : Int32))] [(.int (lcmpW (sv1.toInt64) q1))])) _
        refine XS.ifYes X8.here hx rfl (pc0 := 45) (pc' := 54) rfl (hb hby d4_45) rfl ((if0 _ _).trans (tlt ((lw_lt _ _).mpr hc45_10)).1) (by decide) (by decide) ?_
        show Steps p.tables e below (T8.setTop (mkF m 54 #[.val (.ref a0), .val (.long q1), .second, .val (.int (-1 : Int32)), .val (.int (1 : Int32))] [])) _
        refine XS.iinc X8.here hx rfl (hb hby d4_54) rfl (l' := #[.val (.ref a0), .val (.long q1), .second, .val (.int (-1 : Int32)), .val (.int (2 : Int32))]) rfl ?_
        show Steps p.tables e below (T8.setTop (mkF m 57 #[.val (.ref a0), .val (.long q1), .second, .val (.int (-1 : Int32)), .val (.int (2 : Int32))] [])) _
        refine XS.goto X8.here hx rfl (pc0 := 57) (pc' := 25) rfl (hb hby d4_57) (by decide) (by decide) ?_
        show Steps p.tables e below (T8.setTop (mkF m 25 #[.val (.ref a0), .val (.long q1), .second, .val (.int (-1 : Int32)), .val (.int (2 : Int32))] [])) _
        refine XS.iload X8.here hx rfl (hb hby d4_25) rfl ?_
        show Steps p.tables e below (T8.setTop (mkF m 27 #[.val (.ref a0), .val (.long q1), .second, .val (.int (-1 : Int32)), .val (.int (2 : Int32))] [(.int (2 : Int32))])) _
        refine XS.aloadN X8.here hx rfl (hb hby d4_27) rfl rfl ?_
        show Steps p.tables e below (T8.setTop (mkF m 28 #[.val (.ref a0), .val (.long q1), .second, .val (.int (-1 : Int32)), .val (.int (2 : Int32))] [(.ref a0), (.int (2 : Int32))])) _
        refine st11 _ ?_
        show Steps p.tables e below (T11.setTop (mkF m 31 #[.val (.ref a0), .val (.long q1), .second, .val (.int (-1 : Int32)), .val (.int (2 : Int32))] [(.ref av), (.int (2 : Int32))])) _
        refine X11.arraylength hx (by rw [e11]; exact Ar12.1) (State.isArrayOf_alike hZ.alike Ar12.2.1) (g := (mkF m 31 #[.val (.ref a0), .val (.long q1), .second, .val (.int (-1 : Int32)), .val (.int (2 : Int32))] [(.ref av), (.int (2 : Int32))])) rfl rfl (hb hby d4_31) _ ?_
        rw [len_of S12 N12']
        show Steps p.tables e below (T11.setTop (mkF m 32 #[.val (.ref a0), .val (.long q1), .second, .val (.int (-1 : Int32)), .val (.int (2 : Int32))] [(.int (3 : Int32)), (.int (2 : Int32))])) _
        refine XS.icmpNo X11.here hx rfl (hb hby d4_32) rfl (tlt (by decide : (2 : Int32) < (3 : Int32))).2.1 ?_
        show Steps p.tables e below (T11.setTop (mkF m 35 #[.val (.ref a0), .val (.long q1), .second, .val (.int (-1 : Int32)), .val (.int (2 : Int32))] [])) _
        refine XS.aloadN X11.here hx rfl (hb hby d4_35) rfl rfl ?_
        show Steps p.tables e below (T11.setTop (mkF m 36 #[.val (.ref a0), .val (.long q1), .second, .val (.int (-1 : Int32)), .val (.int (2 : Int32))] [(.ref a0)])) _
        refine st13 _ ?_
        show Steps p.tables e below (T13.setTop (mkF m 39 #[.val (.ref a0), .val (.long q1), .second, .val (.int (-1 : Int32)), .val (.int (2 : Int32))] [(.ref av)])) _
        refine XS.iload X13.here hx rfl (hb hby d4_39) rfl ?_
        show Steps p.tables e below (T13.setTop (mkF m 41 #[.val (.ref a0), .val (.long q1), .second, .val (.int (-1 : Int32)), .val (.int (2 : Int32))] [(.int (2 : Int32)), (.ref av)])) _
        refine X13.iaload hx (j := (2 : Int32)) (v := (.int sv2)) (by rw [e13]; exact Ar14.1) (State.isArrayOf_alike hZ.alike Ar14.2.1) Ar14.2.2 hin14 hat14 (g := (mkF m 41 #[.val (.ref a0), .val (.long q1), .second, .val (.int (-1 : Int32)), .val (.int (2 : Int32))] [(.int (2 : Int32)), (.ref av)])) rfl rfl (hb hby d4_41) _ ?_
        show Steps p.tables e below (T13.setTop (mkF m 42 #[.val (.ref a0), .val (.long q1), .second, .val (.int (-1 : Int32)), .val (.int (2 : Int32))] [(.int sv2)])) _
        refine XS.i2l X13.here hx rfl (hb hby d4_42) rfl ?_
        show Steps p.tables e below (T13.setTop (mkF m 43 #[.val (.ref a0), .val (.long q1), .second, .val (.int (-1 : Int32)), .val (.int (2 : Int32))] [(.long (sv2.toInt64))])) _
        refine XS.lloadN X13.here hx rfl (hb hby d4_43) rfl ?_
        show Steps p.tables e below (T13.setTop (mkF m 44 #[.val (.ref a0), .val (.long q1), .second, .val (.int (-1 : Int32)), .val (.int (2 : Int32))] [(.long q1), (.long (sv2.toInt64))])) _
        refine XS.lcmp X13.here hx rfl (hb hby d4_44) rfl ?_
        exact kt
      by_cases hc45_15 : (sv2.toInt64) < q1
      · obtain ⟨T16, X16, e16, st16⟩ := getF X13 hx hZ hown (host := "") (Or.inl (hw _ (List.mem_of_getElem? (i := 36) rfl))) Via.refl e13 F_blockSizes_a0 (g := (mkF m 28 #[.val (.ref a0), .val (.long q1), .second, .val (.int (-1 : Int32)), .val (.int (3 : Int32))] [(.ref a0), (.int (3 : Int32))])) rfl rfl (hb hby d4_28)
        obtain ⟨cl17, Ar17, qk17, S17, N17', -, -⟩ := own_same V_av
        refine own_back (b := T16.setTop (mkF m 61 #[.val (.ref a0), .val (.long q1), .second, .val (.int (-1 : Int32)), .val (.int (3 : Int32))] [(.int (-1 : Int32))])) (fun t kt => ?_) ?_
        · show Steps p.tables e below (T13.setTop (mkF m 45 #[.val (.ref a0), .val (.long q1), .second, .val (.int (-1 : Int32)), .val (.int (2 : Int32))] [(.int (lcmpW (sv2.toInt64) q1))])) _
          refine XS.ifYes X13.here hx rfl (pc0 := 45) (pc' := 54) rfl (hb hby d4_45) rfl ((if0 _ _).trans (tlt ((lw_lt _ _).mpr hc45_15)).1) (by decide) (by decide) ?_
          show Steps p.tables e below (T13.setTop (mkF m 54 #[.val (.ref a0), .val (.long q1), .second, .val (.int (-1 : Int32)), .val (.int (2 : Int32))] [])) _
          refine XS.iinc X13.here hx rfl (hb hby d4_54) rfl (l' := #[.val (.ref a0), .val (.long q1), .second, .val (.int (-1 : Int32)), .val (.int (3 : Int32))]) rfl ?_
          show Steps p.tables e below (T13.setTop (mkF m 57 #[.val (.ref a0), .val (.long q1), .second, .val (.int (-1 : Int32)), .val (.int (3 : Int32))] [])) _
          refine XS.goto X13.here hx rfl (pc0 := 57) (pc' := 25) rfl (hb hby d4_57) (by decide) (by decide) ?_
          show Steps p.tables e below (T13.setTop (mkF m 25 #[.val (.ref a0), .val (.long q1), .second, .val (.int (-1 : Int32)), .val (.int (3 : Int32))] [])) _
          refine XS.iload X13.here hx rfl (hb hby d4_25) rfl ?_
          show Steps p.tables e below (T13.setTop (mkF m 27 #[.val (.ref a0), .val (.long q1), .second, .val (.int (-1 : Int32)), .val (.int (3 : Int32))] [(.int (3 : Int32))])) _
          refine XS.aloadN X13.here hx rfl (hb hby d4_27) rfl rfl ?_
          show Steps p.tables e below (T13.setTop (mkF m 28 #[.val (.ref a0), .val (.long q1), .second, .val (.int (-1 : Int32)), .val (.int (3 : Int32))] [(.ref a0), (.int (3 : Int32))])) _
          refine st16 _ ?_
          show Steps p.tables e below (T16.setTop (mkF m 31 #[.val (.ref a0), .val (.long q1), .second, .val (.int (-1 : Int32)), .val (.int (3 : Int32))] [(.ref av), (.int (3 : Int32))])) _
          refine X16.arraylength hx (by rw [e16]; exact Ar17.1) (State.isArrayOf_alike hZ.alike Ar17.2.1) (g := (mkF m 31 #[.val (.ref a0), .val (.long q1), .second, .val (.int (-1 : Int32)), .val (.int (3 : Int32))] [(.ref av), (.int (3 : Int32))])) rfl rfl (hb hby d4_31) _ ?_
          rw [len_of S17 N17']
          show Steps p.tables e below (T16.setTop (mkF m 32 #[.val (.ref a0), .val (.long q1), .second, .val (.int (-1 : Int32)), .val (.int (3 : Int32))] [(.int (3 : Int32)), (.int (3 : Int32))])) _
          refine XS.icmpYes X16.here hx rfl (pc0 := 32) (pc' := 60) rfl (hb hby d4_32) rfl (flt (by decide : ¬ ((3 : Int32) < (3 : Int32)))).2.1 (by decide) (by decide) ?_
          show Steps p.tables e below (T16.setTop (mkF m 60 #[.val (.ref a0), .val (.long q1), .second, .val (.int (-1 : Int32)), .val (.int (3 : Int32))] [])) _
          refine XS.iloadN X16.here hx rfl (hb hby d4_60) rfl ?_
          exact kt
        obtain ⟨fs, hr, hrun, hended, hW, hsame⟩ := X16.leave (v := some (.int (-1 : Int32))) (fun h => by rw [Bd.returns] at h; cases h) (BodyLoose.notSynchronized Bd)
        refine ⟨_, _, ?_, hrun, hended, _, _, rfl, ?_, ⟨_, rfl⟩, hW, hsame.mono (by decide) (by decide)⟩
        · show Steps p.tables e below (T16.setTop (mkF m 61 #[.val (.ref a0), .val (.long q1), .second, .val (.int (-1 : Int32)), .val (.int (3 : Int32))] [(.int (-1 : Int32))])) _
          exact retI X16 hx Bd.returns (hb hby d4_61) hr
        · show Q4c Z a0 q1 av kA sv0 sv1 sv2 h0 n0 _ T16.heap _
          rw [e16]
          exact ⟨by rw [show f4c q1 sv0 sv1 sv2 = (-1 : Int32) from by unfold f4c; rw [if_pos hc45_5, if_pos hc45_10, if_pos hc45_15]], N0, rfl⟩
      · refine own_back (b := T13.setTop (mkF m 61 #[.val (.ref a0), .val (.long q1), .second, .val (.int (2 : Int32)), .val (.int (2 : Int32))] [(.int (2 : Int32))])) (fun t kt => ?_) ?_
        · show Steps p.tables e below (T13.setTop (mkF m 45 #[.val (.ref a0), .val (.long q1), .second, .val (.int (-1 : Int32)), .val (.int (2 : Int32))] [(.int (lcmpW (sv2.toInt64) q1))])) _
          refine XS.ifNo X13.here hx rfl (hb hby d4_45) rfl ((if0 _ _).trans (flt (fun q => hc45_15 ((lw_lt _ _).mp q))).1) ?_
          show Steps p.tables e below (T13.setTop (mkF m 48 #[.val (.ref a0), .val (.long q1), .second, .val (.int (-1 : Int32)), .val (.int (2 : Int32))] [])) _
          refine XS.iload X13.here hx rfl (hb hby d4_48) rfl ?_
          show Steps p.tables e below (T13.setTop (mkF m 50 #[.val (.ref a0), .val (.long q1), .second, .val (.int (-1 : Int32)), .val (.int (2 : Int32))] [(.int (2 : Int32))])) _
          refine XS.istoreN X13.here hx rfl (hb hby d4_50) rfl (l' := #[.val (.ref a0), .val (.long q1), .second, .val (.int (2 : Int32)), .val (.int (2 : Int32))]) rfl ?_
          show Steps p.tables e below (T13.setTop (mkF m 51 #[.val (.ref a0), .val (.long q1), .second, .val (.int (2 : Int32)), .val (.int (2 : Int32))] [])) _
          refine XS.goto X13.here hx rfl (pc0 := 51) (pc' := 60) rfl (hb hby d4_51) (by decide) (by decide) ?_
          show Steps p.tables e below (T13.setTop (mkF m 60 #[.val (.ref a0), .val (.long q1), .second, .val (.int (2 : Int32)), .val (.int (2 : Int32))] [])) _
          refine XS.iloadN X13.here hx rfl (hb hby d4_60) rfl ?_
          exact kt
        obtain ⟨fs, hr, hrun, hended, hW, hsame⟩ := X13.leave (v := some (.int (2 : Int32))) (fun h => by rw [Bd.returns] at h; cases h) (BodyLoose.notSynchronized Bd)
        refine ⟨_, _, ?_, hrun, hended, _, _, rfl, ?_, ⟨_, rfl⟩, hW, hsame.mono (by decide) (by decide)⟩
        · show Steps p.tables e below (T13.setTop (mkF m 61 #[.val (.ref a0), .val (.long q1), .second, .val (.int (2 : Int32)), .val (.int (2 : Int32))] [(.int (2 : Int32))])) _
          exact retI X13 hx Bd.returns (hb hby d4_61) hr
        · show Q4c Z a0 q1 av kA sv0 sv1 sv2 h0 n0 _ T13.heap _
          rw [e13]
          exact ⟨by rw [show f4c q1 sv0 sv1 sv2 = (2 : Int32) from by unfold f4c; rw [if_pos hc45_5, if_pos hc45_10, if_neg hc45_15]], N0, rfl⟩
    · refine own_back (b := T8.setTop (mkF m 61 #[.val (.ref a0), .val (.long q1), .second, .val (.int (1 : Int32)), .val (.int (1 : Int32))] [(.int (1 : Int32))])) (fun t kt => ?_) ?_
      · show Steps p.tables e below (T8.setTop (mkF m 45 #[.val (.ref a0), .val (.long q1), .second, .val (.int (-1 : Int32)), .val (.int (1 : Int32))] [(.int (lcmpW (sv1.toInt64) q1))])) _
        refine XS.ifNo X8.here hx rfl (hb hby d4_45) rfl ((if0 _ _).trans (flt (fun q => hc45_10 ((lw_lt _ _).mp q))).1) ?_
        show Steps p.tables e below (T8.setTop (mkF m 48 #[.val (.ref a0), .val (.long q1), .second, .val (.int (-1 : Int32)), .val (.int (1 : Int32))] [])) _
        refine XS.iload X8.here hx rfl (hb hby d4_48) rfl ?_
        show Steps p.tables e below (T8.setTop (mkF m 50 #[.val (.ref a0), .val (.long q1), .second, .val (.int (-1 : Int32)), .val (.int (1 : Int32))] [(.int (1 : Int32))])) _
        refine XS.istoreN X8.here hx rfl (hb hby d4_50) rfl (l' := #[.val (.ref a0), .val (.long q1), .second, .val (.int (1 : Int32)), .val (.int (1 : Int32))]) rfl ?_
        show Steps p.tables e below (T8.setTop (mkF m 51 #[.val (.ref a0), .val (.long q1), .second, .val (.int (1 : Int32)), .val (.int (1 : Int32))] [])) _
        refine XS.goto X8.here hx rfl (pc0 := 51) (pc' := 60) rfl (hb hby d4_51) (by decide) (by decide) ?_
        show Steps p.tables e below (T8.setTop (mkF m 60 #[.val (.ref a0), .val (.long q1), .second, .val (.int (1 : Int32)), .val (.int (1 : Int32))] [])) _
        refine XS.iloadN X8.here hx rfl (hb hby d4_60) rfl ?_
        exact kt
      obtain ⟨fs, hr, hrun, hended, hW, hsame⟩ := X8.leave (v := some (.int (1 : Int32))) (fun h => by rw [Bd.returns] at h; cases h) (BodyLoose.notSynchronized Bd)
      refine ⟨_, _, ?_, hrun, hended, _, _, rfl, ?_, ⟨_, rfl⟩, hW, hsame.mono (by decide) (by decide)⟩
      · show Steps p.tables e below (T8.setTop (mkF m 61 #[.val (.ref a0), .val (.long q1), .second, .val (.int (1 : Int32)), .val (.int (1 : Int32))] [(.int (1 : Int32))])) _
        exact retI X8 hx Bd.returns (hb hby d4_61) hr
      · show Q4c Z a0 q1 av kA sv0 sv1 sv2 h0 n0 _ T8.heap _
        rw [e8]
        exact ⟨by rw [show f4c q1 sv0 sv1 sv2 = (1 : Int32) from by unfold f4c; rw [if_pos hc45_5, if_neg hc45_10]], N0, rfl⟩
  · refine own_back (b := T3.setTop (mkF m 61 #[.val (.ref a0), .val (.long q1), .second, .val (.int (0 : Int32)), .val (.int (0 : Int32))] [(.int (0 : Int32))])) (fun t kt => ?_) ?_
    · show Steps p.tables e below (T3.setTop (mkF m 45 #[.val (.ref a0), .val (.long q1), .second, .val (.int (-1 : Int32)), .val (.int (0 : Int32))] [(.int (lcmpW (sv0.toInt64) q1))])) _
      refine XS.ifNo X3.here hx rfl (hb hby d4_45) rfl ((if0 _ _).trans (flt (fun q => hc45_5 ((lw_lt _ _).mp q))).1) ?_
      show Steps p.tables e below (T3.setTop (mkF m 48 #[.val (.ref a0), .val (.long q1), .second, .val (.int (-1 : Int32)), .val (.int (0 : Int32))] [])) _
      refine XS.iload X3.here hx rfl (hb hby d4_48) rfl ?_
      show Steps p.tables e below (T3.setTop (mkF m 50 #[.val (.ref a0), .val (.long q1), .second, .val (.int (-1 : Int32)), .val (.int (0 : Int32))] [(.int (0 : Int32))])) _
      refine XS.istoreN X3.here hx rfl (hb hby d4_50) rfl (l' := #[.val (.ref a0), .val (.long q1), .second, .val (.int (0 : Int32)), .val (.int (0 : Int32))]) rfl ?_
      show Steps p.tables e below (T3.setTop (mkF m 51 #[.val (.ref a0), .val (.long q1), .second, .val (.int (0 : Int32)), .val (.int (0 : Int32))] [])) _
      refine XS.goto X3.here hx rfl (pc0 := 51) (pc' := 60) rfl (hb hby d4_51) (by decide) (by decide) ?_
      show Steps p.tables e below (T3.setTop (mkF m 60 #[.val (.ref a0), .val (.long q1), .second, .val (.int (0 : Int32)), .val (.int (0 : Int32))] [])) _
      refine XS.iloadN X3.here hx rfl (hb hby d4_60) rfl ?_
      exact kt
    obtain ⟨fs, hr, hrun, hended, hW, hsame⟩ := X3.leave (v := some (.int (0 : Int32))) (fun h => by rw [Bd.returns] at h; cases h) (BodyLoose.notSynchronized Bd)
    refine ⟨_, _, ?_, hrun, hended, _, _, rfl, ?_, ⟨_, rfl⟩, hW, hsame.mono (by decide) (by decide)⟩
    · show Steps p.tables e below (T3.setTop (mkF m 61 #[.val (.ref a0), .val (.long q1), .second, .val (.int (0 : Int32)), .val (.int (0 : Int32))] [(.int (0 : Int32))])) _
      exact retI X3 hx Bd.returns (hb hby d4_61) hr
    · show Q4c Z a0 q1 av kA sv0 sv1 sv2 h0 n0 _ T3.heap _
      rw [e3]
      exact ⟨by rw [show f4c q1 sv0 sv1 sv2 = (0 : Int32) from by unfold f4c; rw [if_neg hc45_5]], N0, rfl⟩
theorem pn_0 : plainName "com/example/byteloom/byteloom/SectionLayoutSectionForPinLaw" = true := by first | (simp [plainName, overriddenIn]; done) | decide +kernel
theorem pd_0_0 : parseMethodDescriptor "([I[I)V" = some ⟨[(.array .int), (.array .int)], none⟩ := by decide +kernel
theorem pd_0_1 : parseMethodDescriptor "(J)I" = some ⟨[.long], some .int⟩ := by decide +kernel
theorem ef_0 (m : MethodId) (x0 : Int32) (x1 : Int32) (x2 : Int32) (x3 : Int32) (x4 : Int64) : entryFrame m #[(.int x0), (.int x1), (.int x2), (.int x3), (.long x4)] maxLocals = mkF m 0 #[.val (.int x0), .val (.int x1), .val (.int x2), .val (.int x3), .val (.long x4), .second, .unset, .unset, .unset, .unset, .unset, .unset, .unset, .unset, .unset] [] := by first | (simp [entryFrame, mkF, argsToLocals, Value.category, maxLocals]; done) | rfl
def m0_0 (p0 : Int32) (p1 : Int32) (p2 : Int32) (p3 : Int32) (q4 : Int64) : Int32 := ((1 : Int32) + (p0 &&& (536870911 : Int32)))
def m0_1 (p0 : Int32) (p1 : Int32) (p2 : Int32) (p3 : Int32) (q4 : Int64) : Int32 := (((m0_0 p0 p1 p2 p3 q4) + (1 : Int32)) + (p1 &&& (536870911 : Int32)))
def m0_2 (p0 : Int32) (p1 : Int32) (p2 : Int32) (p3 : Int32) (q4 : Int64) : Int32 := (((m0_1 p0 p1 p2 p3 q4) + (1 : Int32)) + ((p2 &&& (1073741823 : Int32)) % (1073741822 : Int32)))
def m0_3 (p0 : Int32) (p1 : Int32) (p2 : Int32) (p3 : Int32) (q4 : Int64) : Int32 := ((1 : Int32) + ((((p3.toUInt32 >>> ((2 : Int32) &&& 31).toUInt32).toInt32) &&& (3 : Int32)) % (3 : Int32)))
def m0_4 (p0 : Int32) (p1 : Int32) (p2 : Int32) (p3 : Int32) (q4 : Int64) : Int32 := (if ((m0_0 p0 p1 p2 p3 q4).toInt64) < (q4 &&& (9223372036854775807 : Int64)) then (-1 : Int32) else (0 : Int32))
def m0_5 (p0 : Int32) (p1 : Int32) (p2 : Int32) (p3 : Int32) (q4 : Int64) : Int32 := (if ((m0_0 p0 p1 p2 p3 q4).toInt64) < (q4 &&& (9223372036854775807 : Int64)) then (if ((m0_1 p0 p1 p2 p3 q4).toInt64) < (q4 &&& (9223372036854775807 : Int64)) then (-1 : Int32) else (1 : Int32)) else (0 : Int32))
def m0_6 (p0 : Int32) (p1 : Int32) (p2 : Int32) (p3 : Int32) (q4 : Int64) : Int32 := (if ((m0_0 p0 p1 p2 p3 q4).toInt64) < (q4 &&& (9223372036854775807 : Int64)) then (if ((m0_1 p0 p1 p2 p3 q4).toInt64) < (q4 &&& (9223372036854775807 : Int64)) then (if ((m0_2 p0 p1 p2 p3 q4).toInt64) < (q4 &&& (9223372036854775807 : Int64)) then (-1 : Int32) else (2 : Int32)) else (1 : Int32)) else (0 : Int32))
def m0_7 (p0 : Int32) (p1 : Int32) (p2 : Int32) (p3 : Int32) (q4 : Int64) : Int32 := (if (p3 &&& (3 : Int32)) = (1 : Int32) then (m0_0 p0 p1 p2 p3 q4) else (if (p3 &&& (3 : Int32)) = (2 : Int32) then (m0_1 p0 p1 p2 p3 q4) else (m0_2 p0 p1 p2 p3 q4)))
def m0_8 (p0 : Int32) (p1 : Int32) (p2 : Int32) (p3 : Int32) (q4 : Int64) : Int64 := (((m0_7 p0 p1 p2 p3 q4).toInt64) + ((((q4 &&& (3 : Int64)).toInt32) - (1 : Int32)).toInt64))
def m0_9 (p0 : Int32) (p1 : Int32) (p2 : Int32) (p3 : Int32) (q4 : Int64) : Int32 := (if ((m0_0 p0 p1 p2 p3 q4).toInt64) < (m0_8 p0 p1 p2 p3 q4) then (-1 : Int32) else (0 : Int32))
def m0_10 (p0 : Int32) (p1 : Int32) (p2 : Int32) (p3 : Int32) (q4 : Int64) : Int32 := (if ((m0_0 p0 p1 p2 p3 q4).toInt64) < (m0_8 p0 p1 p2 p3 q4) then (if ((m0_1 p0 p1 p2 p3 q4).toInt64) < (m0_8 p0 p1 p2 p3 q4) then (-1 : Int32) else (1 : Int32)) else (0 : Int32))
def m0_11 (p0 : Int32) (p1 : Int32) (p2 : Int32) (p3 : Int32) (q4 : Int64) : Int32 := (if ((m0_0 p0 p1 p2 p3 q4).toInt64) < (m0_8 p0 p1 p2 p3 q4) then (if ((m0_1 p0 p1 p2 p3 q4).toInt64) < (m0_8 p0 p1 p2 p3 q4) then (if ((m0_2 p0 p1 p2 p3 q4).toInt64) < (m0_8 p0 p1 p2 p3 q4) then (-1 : Int32) else (2 : Int32)) else (1 : Int32)) else (0 : Int32))
theorem own_s0 (p0 p1 p2 p3 : Int32) (q4 : Int64) : 1 ≤ (m0_0 p0 p1 p2 p3 q4).toInt ∧ (m0_0 p0 p1 p2 p3 q4).toInt ≤ 536870912 := by
  unfold m0_0
  have h := c_mask p0 536870911 29 (by decide) (by decide)
  have h3 := c_iadd 1 (p0 &&& 536870911)
  have r := rng32 ((1 : Int32) + (p0 &&& 536870911))
  have k1 : (1 : Int32).toInt = 1 := rfl
  have : (2 ^ 29 : Nat) = 536870912 := by decide
  omega
theorem own_s1 (p0 p1 p2 p3 : Int32) (q4 : Int64) : (m0_0 p0 p1 p2 p3 q4).toInt < (m0_1 p0 p1 p2 p3 q4).toInt ∧ (m0_1 p0 p1 p2 p3 q4).toInt ≤ 1073741824 := by
  have h0 := own_s0 p0 p1 p2 p3 q4
  unfold m0_1
  generalize m0_0 p0 p1 p2 p3 q4 = s at *
  have h := c_mask p1 536870911 29 (by decide) (by decide)
  have h2 := c_iadd s 1
  have r2 := rng32 (s + 1)
  have h3 := c_iadd (s + 1) (p1 &&& 536870911)
  have r := rng32 (s + 1 + (p1 &&& 536870911))
  have k1 : (1 : Int32).toInt = 1 := rfl
  have : (2 ^ 29 : Nat) = 536870912 := by decide
  omega
theorem own_s2 (p0 p1 p2 p3 : Int32) (q4 : Int64) : (m0_1 p0 p1 p2 p3 q4).toInt < (m0_2 p0 p1 p2 p3 q4).toInt := by
  have h0 := own_s0 p0 p1 p2 p3 q4
  have h1 := own_s1 p0 p1 p2 p3 q4
  unfold m0_2
  generalize m0_1 p0 p1 p2 p3 q4 = s at *
  have h := c_mask p2 1073741823 30 (by decide) (by decide)
  have hr := (c_irem (p2 &&& 1073741823) 1073741822 1073741822 rfl).1
  have h2 := c_iadd s 1
  have r2 := rng32 (s + 1)
  have h3 := c_iadd (s + 1) ((p2 &&& 1073741823) % 1073741822)
  have r := rng32 (s + 1 + (p2 &&& 1073741823) % 1073741822)
  have k1 : (1 : Int32).toInt = 1 := rfl
  have : (2 ^ 30 : Nat) = 1073741824 := by decide
  omega
theorem own_nn (p0 p1 p2 p3 : Int32) (q4 : Int64) : 1 ≤ (m0_3 p0 p1 p2 p3 q4).toInt ∧ (m0_3 p0 p1 p2 p3 q4).toInt ≤ 3 := by
  unfold m0_3
  generalize ((p3.toUInt32 >>> ((2 : Int32) &&& 31).toUInt32).toInt32) = z
  have h := c_mask z 3 2 (by decide) (by decide)
  have h2 := (c_irem (z &&& 3) 3 3 rfl).1
  have h3 := c_iadd 1 ((z &&& 3) % 3)
  have r := rng32 ((1 : Int32) + (z &&& 3) % 3)
  have k1 : (1 : Int32).toInt = 1 := rfl
  have : (2 ^ 2 : Nat) = 4 := by decide
  omega
theorem own_n3 (p0 p1 p2 p3 : Int32) (q4 : Int64) (h1 : ¬ m0_3 p0 p1 p2 p3 q4 = (1 : Int32)) (h2 : ¬ m0_3 p0 p1 p2 p3 q4 = (2 : Int32)) : m0_3 p0 p1 p2 p3 q4 = (3 : Int32) := by
  have h := own_nn p0 p1 p2 p3 q4
  rw [← Int32.toInt_inj, show (1 : Int32).toInt = 1 from rfl] at h1
  rw [← Int32.toInt_inj, show (2 : Int32).toInt = 2 from rfl] at h2
  rw [← Int32.toInt_inj, show (3 : Int32).toInt = 3 from rfl]
  omega
theorem own_p (x : Int32) (h : 1 ≤ x.toInt) : ¬ x < (1 : Int32) := by
  rw [Int32.lt_iff_toInt_lt, show (1 : Int32).toInt = 1 from rfl]; omega
theorem own_g0 (p0 p1 p2 p3 : Int32) (q4 : Int64) : ¬ m0_0 p0 p1 p2 p3 q4 < (1 : Int32) := own_p _ (own_s0 p0 p1 p2 p3 q4).1
theorem own_g1 (p0 p1 p2 p3 : Int32) (q4 : Int64) : ¬ m0_1 p0 p1 p2 p3 q4 < (1 : Int32) := own_p _ (by have := own_s0 p0 p1 p2 p3 q4; have := own_s1 p0 p1 p2 p3 q4; omega)
theorem own_g2 (p0 p1 p2 p3 : Int32) (q4 : Int64) : ¬ m0_2 p0 p1 p2 p3 q4 < (1 : Int32) := own_p _ (by have := own_s0 p0 p1 p2 p3 q4; have := own_s1 p0 p1 p2 p3 q4; have := own_s2 p0 p1 p2 p3 q4; omega)
theorem own_l01 (p0 p1 p2 p3 : Int32) (q4 : Int64) : m0_0 p0 p1 p2 p3 q4 < m0_1 p0 p1 p2 p3 q4 := Int32.lt_iff_toInt_lt.mpr (own_s1 p0 p1 p2 p3 q4).1
theorem own_l12 (p0 p1 p2 p3 : Int32) (q4 : Int64) : m0_1 p0 p1 p2 p3 q4 < m0_2 p0 p1 p2 p3 q4 := Int32.lt_iff_toInt_lt.mpr (own_s2 p0 p1 p2 p3 q4)
theorem own_mx (x : Int64) : ¬ (x &&& (9223372036854775807 : Int64)) < (0 : Int64) := by
  have h := c_maskL x 9223372036854775807 63 (by decide) (by decide)
  have k0 : (0 : Int64).toInt = 0 := rfl
  rw [Int64.lt_iff_toInt_lt, h, k0]
  have : (2 ^ 63 : Nat) = 9223372036854775808 := by decide
  omega
theorem own_len (p0 p1 p2 p3 : Int32) (q4 : Int64) : ¬ (m0_8 p0 p1 p2 p3 q4) < (0 : Int64) := by
  have h7 : 1 ≤ (m0_7 p0 p1 p2 p3 q4).toInt := by
    have h0 := own_s0 p0 p1 p2 p3 q4
    have h1 := own_s1 p0 p1 p2 p3 q4
    have h2 := own_s2 p0 p1 p2 p3 q4
    unfold m0_7
    repeat' split
    all_goals omega
  unfold m0_8
  generalize m0_7 p0 p1 p2 p3 q4 = z at *
  have k0 : (0 : Int64).toInt = 0 := rfl
  have k1 : (1 : Int32).toInt = 1 := rfl
  have hm := c_maskL q4 3 2 (by decide) (by decide)
  have h22 : (2 ^ 2 : Nat) = 4 := by decide
  have hi := c_l2i (q4 &&& (3 : Int64))
  have hir := rng32 ((q4 &&& (3 : Int64)).toInt32)
  have hs := c_isub ((q4 &&& (3 : Int64)).toInt32) 1
  have hsr := rng32 ((q4 &&& (3 : Int64)).toInt32 - 1)
  have ha := c_ladd z.toInt64 ((q4 &&& (3 : Int64)).toInt32 - 1).toInt64
  have har := rng64 (z.toInt64 + ((q4 &&& (3 : Int64)).toInt32 - 1).toInt64)
  have hz := rng32 z
  rw [c_i2l, c_i2l] at ha
  rw [Int64.lt_iff_toInt_lt, k0]
  omega
def f0 (p0 : Int32) (p1 : Int32) (p2 : Int32) (p3 : Int32) (q4 : Int64) : Int32 := (if (p3 &&& (3 : Int32)) = (0 : Int32) then (if (m0_3 p0 p1 p2 p3 q4) = (1 : Int32) then (if (f4a (q4 &&& (9223372036854775807 : Int64)) (m0_0 p0 p1 p2 p3 q4)) = (m0_4 p0 p1 p2 p3 q4) then (1 : Int32) else (0 : Int32)) else (if (m0_3 p0 p1 p2 p3 q4) = (2 : Int32) then (if (f4b (q4 &&& (9223372036854775807 : Int64)) (m0_0 p0 p1 p2 p3 q4) (m0_1 p0 p1 p2 p3 q4)) = (m0_5 p0 p1 p2 p3 q4) then (1 : Int32) else (0 : Int32)) else (if (f4c (q4 &&& (9223372036854775807 : Int64)) (m0_0 p0 p1 p2 p3 q4) (m0_1 p0 p1 p2 p3 q4) (m0_2 p0 p1 p2 p3 q4)) = (m0_6 p0 p1 p2 p3 q4) then (1 : Int32) else (0 : Int32)))) else (if (m0_3 p0 p1 p2 p3 q4) = (1 : Int32) then (if (f4a (m0_8 p0 p1 p2 p3 q4) (m0_0 p0 p1 p2 p3 q4)) = (m0_9 p0 p1 p2 p3 q4) then (1 : Int32) else (0 : Int32)) else (if (m0_3 p0 p1 p2 p3 q4) = (2 : Int32) then (if (f4b (m0_8 p0 p1 p2 p3 q4) (m0_0 p0 p1 p2 p3 q4) (m0_1 p0 p1 p2 p3 q4)) = (m0_10 p0 p1 p2 p3 q4) then (1 : Int32) else (0 : Int32)) else (if (f4c (m0_8 p0 p1 p2 p3 q4) (m0_0 p0 p1 p2 p3 q4) (m0_1 p0 p1 p2 p3 q4) (m0_2 p0 p1 p2 p3 q4)) = (m0_11 p0 p1 p2 p3 q4) then (1 : Int32) else (0 : Int32)))))
def Q0 (Z : State) (p0 : Int32) (p1 : Int32) (p2 : Int32) (p3 : Int32) (q4 : Int64) (h0 : Heap) (n0 : Nat) (v : Option Value) (h : Heap) (L : List Loc) : Prop := v = some (.int (f0 p0 p1 p2 p3 q4)) ∧ Fr n0 L
set_option maxRecDepth 65536 in
set_option maxHeartbeats 40000000 in
theorem rm0 (l : Launch) (Z : State) (aw : Array Value) (hw : ∀ d ∈ tables_1, d.before aw Z = true) (ws : List Jvm.Cond) (p0 : Int32) (p1 : Int32) (p2 : Int32) (p3 : Int32) (q4 : Int64) (h0 : Heap) (n0 : Nat) (Z0 : n0 ≤ h0.size) :
    MetFree l x (head1 (Jvm.Cond.code x code maxLocals ret :: ws) room_1) (fun a U => a = #[(.int p0), (.int p1), (.int p2), (.int p3), (.long q4)] ∧ Z.Warmed39 U.vm ∧ U.heap = h0) (fun _ _ _ _ _ => True) (fun _ U o U' => ∃ v L, o = .returned v ∧ Q0 Z p0 p1 p2 p3 q4 h0 n0 v U'.heap L ∧ ReturnedEndW U o U' L room_1.cells room_1.slots) := by
  refine MetFree.of_bodySF (plainFor_of_name pn_0) hisR ?_
  intro p e s m args below meth c s₁ Bd hml0 hP hK
  obtain ⟨rfl, hZ, hh⟩ := hP
  have hx := Bd.exec
  have hby := Bd.bytes
  have hml : c.maxLocals = 15 := hml0
  have hown : s.vm.findClass "com/example/byteloom/byteloom/SectionLayoutSectionForPinLaw" = some m.cls := findClass_of_methodNamed Bd.named
  have hnm := (name_of_methodNamed Bd.named Bd.method).1
  have X0 : Stand p l e room_1 s m #[(.int p0), (.int p1), (.int p2), (.int p3), (.long q4)] below meth c s₁ [] 0 0 := Stand.of_body Bd
  have e0 : s₁.heap = h0 := by rw [← hh, Bd.state]; rfl
  have N0 := Fr.nil n0
  refine own_back (b := s₁.setTop (mkF m 0 #[.val (.int p0), .val (.int p1), .val (.int p2), .val (.int p3), .val (.long q4), .second, .unset, .unset, .unset, .unset, .unset, .unset, .unset, .unset, .unset] [])) (fun t kt => castTop (ef_0 m p0 p1 p2 p3 q4) kt) ?_
  refine own_back (b := s₁.setTop (mkF m 51 #[.val (.int p0), .val (.int p1), .val (.int p2), .val (.int p3), .val (.long q4), .second, .val (.int (m0_0 p0 p1 p2 p3 q4)), .val (.int (m0_1 p0 p1 p2 p3 q4)), .val (.int (m0_2 p0 p1 p2 p3 q4)), .val (.int (m0_3 p0 p1 p2 p3 q4)), .val (.int (p3 &&& (3 : Int32))), .unset, .unset, .unset, .unset] [(.int (p3 &&& (3 : Int32)))])) (fun t kt => ?_) ?_
  · show Steps p.tables e below (s₁.setTop (mkF m 0 #[.val (.int p0), .val (.int p1), .val (.int p2), .val (.int p3), .val (.long q4), .second, .unset, .unset, .unset, .unset, .unset, .unset, .unset, .unset, .unset] [])) _
    refine XS.iconst X0.here hx rfl (hb hby at_0) ?_
    show Steps p.tables e below (s₁.setTop (mkF m 1 #[.val (.int p0), .val (.int p1), .val (.int p2), .val (.int p3), .val (.long q4), .second, .unset, .unset, .unset, .unset, .unset, .unset, .unset, .unset, .unset] [(.int (1 : Int32))])) _
    refine XS.iloadN X0.here hx rfl (hb hby at_1) rfl ?_
    show Steps p.tables e below (s₁.setTop (mkF m 2 #[.val (.int p0), .val (.int p1), .val (.int p2), .val (.int p3), .val (.long q4), .second, .unset, .unset, .unset, .unset, .unset, .unset, .unset, .unset, .unset] [(.int p0), (.int (1 : Int32))])) _
    refine X0.ldcInt hx hown (mvT hZ (hw _ (List.mem_of_getElem? (i := 0) rfl))) (g := (mkF m 2 #[.val (.int p0), .val (.int p1), .val (.int p2), .val (.int p3), .val (.long q4), .second, .unset, .unset, .unset, .unset, .unset, .unset, .unset, .unset, .unset] [(.int p0), (.int (1 : Int32))])) rfl (hb hby at_2) _ ?_
    show Steps p.tables e below (s₁.setTop (mkF m 4 #[.val (.int p0), .val (.int p1), .val (.int p2), .val (.int p3), .val (.long q4), .second, .unset, .unset, .unset, .unset, .unset, .unset, .unset, .unset, .unset] [(.int (536870911 : Int32)), (.int p0), (.int (1 : Int32))])) _
    refine XS.iand X0.here hx rfl (hb hby at_4) rfl ?_
    show Steps p.tables e below (s₁.setTop (mkF m 5 #[.val (.int p0), .val (.int p1), .val (.int p2), .val (.int p3), .val (.long q4), .second, .unset, .unset, .unset, .unset, .unset, .unset, .unset, .unset, .unset] [(.int (p0 &&& (536870911 : Int32))), (.int (1 : Int32))])) _
    refine XS.iadd X0.here hx rfl (hb hby at_5) rfl ?_
    show Steps p.tables e below (s₁.setTop (mkF m 6 #[.val (.int p0), .val (.int p1), .val (.int p2), .val (.int p3), .val (.long q4), .second, .unset, .unset, .unset, .unset, .unset, .unset, .unset, .unset, .unset] [(.int ((1 : Int32) + (p0 &&& (536870911 : Int32))))])) _
    refine XS.istore X0.here hx rfl (hb hby at_6) rfl (l' := #[.val (.int p0), .val (.int p1), .val (.int p2), .val (.int p3), .val (.long q4), .second, .val (.int (m0_0 p0 p1 p2 p3 q4)), .unset, .unset, .unset, .unset, .unset, .unset, .unset, .unset]) rfl ?_
    show Steps p.tables e below (s₁.setTop (mkF m 8 #[.val (.int p0), .val (.int p1), .val (.int p2), .val (.int p3), .val (.long q4), .second, .val (.int (m0_0 p0 p1 p2 p3 q4)), .unset, .unset, .unset, .unset, .unset, .unset, .unset, .unset] [])) _
    refine XS.iload X0.here hx rfl (hb hby at_8) rfl ?_
    show Steps p.tables e below (s₁.setTop (mkF m 10 #[.val (.int p0), .val (.int p1), .val (.int p2), .val (.int p3), .val (.long q4), .second, .val (.int (m0_0 p0 p1 p2 p3 q4)), .unset, .unset, .unset, .unset, .unset, .unset, .unset, .unset] [(.int (m0_0 p0 p1 p2 p3 q4))])) _
    refine XS.iconst X0.here hx rfl (hb hby at_10) ?_
    show Steps p.tables e below (s₁.setTop (mkF m 11 #[.val (.int p0), .val (.int p1), .val (.int p2), .val (.int p3), .val (.long q4), .second, .val (.int (m0_0 p0 p1 p2 p3 q4)), .unset, .unset, .unset, .unset, .unset, .unset, .unset, .unset] [(.int (1 : Int32)), (.int (m0_0 p0 p1 p2 p3 q4))])) _
    refine XS.iadd X0.here hx rfl (hb hby at_11) rfl ?_
    show Steps p.tables e below (s₁.setTop (mkF m 12 #[.val (.int p0), .val (.int p1), .val (.int p2), .val (.int p3), .val (.long q4), .second, .val (.int (m0_0 p0 p1 p2 p3 q4)), .unset, .unset, .unset, .unset, .unset, .unset, .unset, .unset] [(.int ((m0_0 p0 p1 p2 p3 q4) + (1 : Int32)))])) _
    refine XS.iloadN X0.here hx rfl (hb hby at_12) rfl ?_
    show Steps p.tables e below (s₁.setTop (mkF m 13 #[.val (.int p0), .val (.int p1), .val (.int p2), .val (.int p3), .val (.long q4), .second, .val (.int (m0_0 p0 p1 p2 p3 q4)), .unset, .unset, .unset, .unset, .unset, .unset, .unset, .unset] [(.int p1), (.int ((m0_0 p0 p1 p2 p3 q4) + (1 : Int32)))])) _
    refine X0.ldcInt hx hown (mvT hZ (hw _ (List.mem_of_getElem? (i := 0) rfl))) (g := (mkF m 13 #[.val (.int p0), .val (.int p1), .val (.int p2), .val (.int p3), .val (.long q4), .second, .val (.int (m0_0 p0 p1 p2 p3 q4)), .unset, .unset, .unset, .unset, .unset, .unset, .unset, .unset] [(.int p1), (.int ((m0_0 p0 p1 p2 p3 q4) + (1 : Int32)))])) rfl (hb hby at_13) _ ?_
    show Steps p.tables e below (s₁.setTop (mkF m 15 #[.val (.int p0), .val (.int p1), .val (.int p2), .val (.int p3), .val (.long q4), .second, .val (.int (m0_0 p0 p1 p2 p3 q4)), .unset, .unset, .unset, .unset, .unset, .unset, .unset, .unset] [(.int (536870911 : Int32)), (.int p1), (.int ((m0_0 p0 p1 p2 p3 q4) + (1 : Int32)))])) _
    refine XS.iand X0.here hx rfl (hb hby at_15) rfl ?_
    show Steps p.tables e below (s₁.setTop (mkF m 16 #[.val (.int p0), .val (.int p1), .val (.int p2), .val (.int p3), .val (.long q4), .second, .val (.int (m0_0 p0 p1 p2 p3 q4)), .unset, .unset, .unset, .unset, .unset, .unset, .unset, .unset] [(.int (p1 &&& (536870911 : Int32))), (.int ((m0_0 p0 p1 p2 p3 q4) + (1 : Int32)))])) _
    refine XS.iadd X0.here hx rfl (hb hby at_16) rfl ?_
    show Steps p.tables e below (s₁.setTop (mkF m 17 #[.val (.int p0), .val (.int p1), .val (.int p2), .val (.int p3), .val (.long q4), .second, .val (.int (m0_0 p0 p1 p2 p3 q4)), .unset, .unset, .unset, .unset, .unset, .unset, .unset, .unset] [(.int (((m0_0 p0 p1 p2 p3 q4) + (1 : Int32)) + (p1 &&& (536870911 : Int32))))])) _
    refine XS.istore X0.here hx rfl (hb hby at_17) rfl (l' := #[.val (.int p0), .val (.int p1), .val (.int p2), .val (.int p3), .val (.long q4), .second, .val (.int (m0_0 p0 p1 p2 p3 q4)), .val (.int (m0_1 p0 p1 p2 p3 q4)), .unset, .unset, .unset, .unset, .unset, .unset, .unset]) rfl ?_
    show Steps p.tables e below (s₁.setTop (mkF m 19 #[.val (.int p0), .val (.int p1), .val (.int p2), .val (.int p3), .val (.long q4), .second, .val (.int (m0_0 p0 p1 p2 p3 q4)), .val (.int (m0_1 p0 p1 p2 p3 q4)), .unset, .unset, .unset, .unset, .unset, .unset, .unset] [])) _
    refine XS.iload X0.here hx rfl (hb hby at_19) rfl ?_
    show Steps p.tables e below (s₁.setTop (mkF m 21 #[.val (.int p0), .val (.int p1), .val (.int p2), .val (.int p3), .val (.long q4), .second, .val (.int (m0_0 p0 p1 p2 p3 q4)), .val (.int (m0_1 p0 p1 p2 p3 q4)), .unset, .unset, .unset, .unset, .unset, .unset, .unset] [(.int (m0_1 p0 p1 p2 p3 q4))])) _
    refine XS.iconst X0.here hx rfl (hb hby at_21) ?_
    show Steps p.tables e below (s₁.setTop (mkF m 22 #[.val (.int p0), .val (.int p1), .val (.int p2), .val (.int p3), .val (.long q4), .second, .val (.int (m0_0 p0 p1 p2 p3 q4)), .val (.int (m0_1 p0 p1 p2 p3 q4)), .unset, .unset, .unset, .unset, .unset, .unset, .unset] [(.int (1 : Int32)), (.int (m0_1 p0 p1 p2 p3 q4))])) _
    refine XS.iadd X0.here hx rfl (hb hby at_22) rfl ?_
    show Steps p.tables e below (s₁.setTop (mkF m 23 #[.val (.int p0), .val (.int p1), .val (.int p2), .val (.int p3), .val (.long q4), .second, .val (.int (m0_0 p0 p1 p2 p3 q4)), .val (.int (m0_1 p0 p1 p2 p3 q4)), .unset, .unset, .unset, .unset, .unset, .unset, .unset] [(.int ((m0_1 p0 p1 p2 p3 q4) + (1 : Int32)))])) _
    refine XS.iloadN X0.here hx rfl (hb hby at_23) rfl ?_
    show Steps p.tables e below (s₁.setTop (mkF m 24 #[.val (.int p0), .val (.int p1), .val (.int p2), .val (.int p3), .val (.long q4), .second, .val (.int (m0_0 p0 p1 p2 p3 q4)), .val (.int (m0_1 p0 p1 p2 p3 q4)), .unset, .unset, .unset, .unset, .unset, .unset, .unset] [(.int p2), (.int ((m0_1 p0 p1 p2 p3 q4) + (1 : Int32)))])) _
    refine X0.ldcInt hx hown (mvT hZ (hw _ (List.mem_of_getElem? (i := 1) rfl))) (g := (mkF m 24 #[.val (.int p0), .val (.int p1), .val (.int p2), .val (.int p3), .val (.long q4), .second, .val (.int (m0_0 p0 p1 p2 p3 q4)), .val (.int (m0_1 p0 p1 p2 p3 q4)), .unset, .unset, .unset, .unset, .unset, .unset, .unset] [(.int p2), (.int ((m0_1 p0 p1 p2 p3 q4) + (1 : Int32)))])) rfl (hb hby at_24) _ ?_
    show Steps p.tables e below (s₁.setTop (mkF m 26 #[.val (.int p0), .val (.int p1), .val (.int p2), .val (.int p3), .val (.long q4), .second, .val (.int (m0_0 p0 p1 p2 p3 q4)), .val (.int (m0_1 p0 p1 p2 p3 q4)), .unset, .unset, .unset, .unset, .unset, .unset, .unset] [(.int (1073741823 : Int32)), (.int p2), (.int ((m0_1 p0 p1 p2 p3 q4) + (1 : Int32)))])) _
    refine XS.iand X0.here hx rfl (hb hby at_26) rfl ?_
    show Steps p.tables e below (s₁.setTop (mkF m 27 #[.val (.int p0), .val (.int p1), .val (.int p2), .val (.int p3), .val (.long q4), .second, .val (.int (m0_0 p0 p1 p2 p3 q4)), .val (.int (m0_1 p0 p1 p2 p3 q4)), .unset, .unset, .unset, .unset, .unset, .unset, .unset] [(.int (p2 &&& (1073741823 : Int32))), (.int ((m0_1 p0 p1 p2 p3 q4) + (1 : Int32)))])) _
    refine X0.ldcInt hx hown (mvT hZ (hw _ (List.mem_of_getElem? (i := 2) rfl))) (g := (mkF m 27 #[.val (.int p0), .val (.int p1), .val (.int p2), .val (.int p3), .val (.long q4), .second, .val (.int (m0_0 p0 p1 p2 p3 q4)), .val (.int (m0_1 p0 p1 p2 p3 q4)), .unset, .unset, .unset, .unset, .unset, .unset, .unset] [(.int (p2 &&& (1073741823 : Int32))), (.int ((m0_1 p0 p1 p2 p3 q4) + (1 : Int32)))])) rfl (hb hby at_27) _ ?_
    show Steps p.tables e below (s₁.setTop (mkF m 29 #[.val (.int p0), .val (.int p1), .val (.int p2), .val (.int p3), .val (.long q4), .second, .val (.int (m0_0 p0 p1 p2 p3 q4)), .val (.int (m0_1 p0 p1 p2 p3 q4)), .unset, .unset, .unset, .unset, .unset, .unset, .unset] [(.int (1073741822 : Int32)), (.int (p2 &&& (1073741823 : Int32))), (.int ((m0_1 p0 p1 p2 p3 q4) + (1 : Int32)))])) _
    refine iremM X0 hx rfl (hb hby at_29) rfl (by decide) ?_
    show Steps p.tables e below (s₁.setTop (mkF m 30 #[.val (.int p0), .val (.int p1), .val (.int p2), .val (.int p3), .val (.long q4), .second, .val (.int (m0_0 p0 p1 p2 p3 q4)), .val (.int (m0_1 p0 p1 p2 p3 q4)), .unset, .unset, .unset, .unset, .unset, .unset, .unset] [(.int ((p2 &&& (1073741823 : Int32)) % (1073741822 : Int32))), (.int ((m0_1 p0 p1 p2 p3 q4) + (1 : Int32)))])) _
    refine XS.iadd X0.here hx rfl (hb hby at_30) rfl ?_
    show Steps p.tables e below (s₁.setTop (mkF m 31 #[.val (.int p0), .val (.int p1), .val (.int p2), .val (.int p3), .val (.long q4), .second, .val (.int (m0_0 p0 p1 p2 p3 q4)), .val (.int (m0_1 p0 p1 p2 p3 q4)), .unset, .unset, .unset, .unset, .unset, .unset, .unset] [(.int (((m0_1 p0 p1 p2 p3 q4) + (1 : Int32)) + ((p2 &&& (1073741823 : Int32)) % (1073741822 : Int32))))])) _
    refine XS.istore X0.here hx rfl (hb hby at_31) rfl (l' := #[.val (.int p0), .val (.int p1), .val (.int p2), .val (.int p3), .val (.long q4), .second, .val (.int (m0_0 p0 p1 p2 p3 q4)), .val (.int (m0_1 p0 p1 p2 p3 q4)), .val (.int (m0_2 p0 p1 p2 p3 q4)), .unset, .unset, .unset, .unset, .unset, .unset]) rfl ?_
    show Steps p.tables e below (s₁.setTop (mkF m 33 #[.val (.int p0), .val (.int p1), .val (.int p2), .val (.int p3), .val (.long q4), .second, .val (.int (m0_0 p0 p1 p2 p3 q4)), .val (.int (m0_1 p0 p1 p2 p3 q4)), .val (.int (m0_2 p0 p1 p2 p3 q4)), .unset, .unset, .unset, .unset, .unset, .unset] [])) _
    refine XS.iconst X0.here hx rfl (hb hby at_33) ?_
    show Steps p.tables e below (s₁.setTop (mkF m 34 #[.val (.int p0), .val (.int p1), .val (.int p2), .val (.int p3), .val (.long q4), .second, .val (.int (m0_0 p0 p1 p2 p3 q4)), .val (.int (m0_1 p0 p1 p2 p3 q4)), .val (.int (m0_2 p0 p1 p2 p3 q4)), .unset, .unset, .unset, .unset, .unset, .unset] [(.int (1 : Int32))])) _
    refine XS.iloadN X0.here hx rfl (hb hby at_34) rfl ?_
    show Steps p.tables e below (s₁.setTop (mkF m 35 #[.val (.int p0), .val (.int p1), .val (.int p2), .val (.int p3), .val (.long q4), .second, .val (.int (m0_0 p0 p1 p2 p3 q4)), .val (.int (m0_1 p0 p1 p2 p3 q4)), .val (.int (m0_2 p0 p1 p2 p3 q4)), .unset, .unset, .unset, .unset, .unset, .unset] [(.int p3), (.int (1 : Int32))])) _
    refine XS.iconst X0.here hx rfl (hb hby at_35) ?_
    show Steps p.tables e below (s₁.setTop (mkF m 36 #[.val (.int p0), .val (.int p1), .val (.int p2), .val (.int p3), .val (.long q4), .second, .val (.int (m0_0 p0 p1 p2 p3 q4)), .val (.int (m0_1 p0 p1 p2 p3 q4)), .val (.int (m0_2 p0 p1 p2 p3 q4)), .unset, .unset, .unset, .unset, .unset, .unset] [(.int (2 : Int32)), (.int p3), (.int (1 : Int32))])) _
    refine XS.iushr X0.here hx rfl (hb hby at_36) rfl ?_
    show Steps p.tables e below (s₁.setTop (mkF m 37 #[.val (.int p0), .val (.int p1), .val (.int p2), .val (.int p3), .val (.long q4), .second, .val (.int (m0_0 p0 p1 p2 p3 q4)), .val (.int (m0_1 p0 p1 p2 p3 q4)), .val (.int (m0_2 p0 p1 p2 p3 q4)), .unset, .unset, .unset, .unset, .unset, .unset] [(.int ((p3.toUInt32 >>> ((2 : Int32) &&& 31).toUInt32).toInt32)), (.int (1 : Int32))])) _
    refine XS.iconst X0.here hx rfl (hb hby at_37) ?_
    show Steps p.tables e below (s₁.setTop (mkF m 38 #[.val (.int p0), .val (.int p1), .val (.int p2), .val (.int p3), .val (.long q4), .second, .val (.int (m0_0 p0 p1 p2 p3 q4)), .val (.int (m0_1 p0 p1 p2 p3 q4)), .val (.int (m0_2 p0 p1 p2 p3 q4)), .unset, .unset, .unset, .unset, .unset, .unset] [(.int (3 : Int32)), (.int ((p3.toUInt32 >>> ((2 : Int32) &&& 31).toUInt32).toInt32)), (.int (1 : Int32))])) _
    refine XS.iand X0.here hx rfl (hb hby at_38) rfl ?_
    show Steps p.tables e below (s₁.setTop (mkF m 39 #[.val (.int p0), .val (.int p1), .val (.int p2), .val (.int p3), .val (.long q4), .second, .val (.int (m0_0 p0 p1 p2 p3 q4)), .val (.int (m0_1 p0 p1 p2 p3 q4)), .val (.int (m0_2 p0 p1 p2 p3 q4)), .unset, .unset, .unset, .unset, .unset, .unset] [(.int (((p3.toUInt32 >>> ((2 : Int32) &&& 31).toUInt32).toInt32) &&& (3 : Int32))), (.int (1 : Int32))])) _
    refine XS.iconst X0.here hx rfl (hb hby at_39) ?_
    show Steps p.tables e below (s₁.setTop (mkF m 40 #[.val (.int p0), .val (.int p1), .val (.int p2), .val (.int p3), .val (.long q4), .second, .val (.int (m0_0 p0 p1 p2 p3 q4)), .val (.int (m0_1 p0 p1 p2 p3 q4)), .val (.int (m0_2 p0 p1 p2 p3 q4)), .unset, .unset, .unset, .unset, .unset, .unset] [(.int (3 : Int32)), (.int (((p3.toUInt32 >>> ((2 : Int32) &&& 31).toUInt32).toInt32) &&& (3 : Int32))), (.int (1 : Int32))])) _
    refine iremM X0 hx rfl (hb hby at_40) rfl (by decide) ?_
    show Steps p.tables e below (s₁.setTop (mkF m 41 #[.val (.int p0), .val (.int p1), .val (.int p2), .val (.int p3), .val (.long q4), .second, .val (.int (m0_0 p0 p1 p2 p3 q4)), .val (.int (m0_1 p0 p1 p2 p3 q4)), .val (.int (m0_2 p0 p1 p2 p3 q4)), .unset, .unset, .unset, .unset, .unset, .unset] [(.int ((((p3.toUInt32 >>> ((2 : Int32) &&& 31).toUInt32).toInt32) &&& (3 : Int32)) % (3 : Int32))), (.int (1 : Int32))])) _
    refine XS.iadd X0.here hx rfl (hb hby at_41) rfl ?_
    show Steps p.tables e below (s₁.setTop (mkF m 42 #[.val (.int p0), .val (.int p1), .val (.int p2), .val (.int p3), .val (.long q4), .second, .val (.int (m0_0 p0 p1 p2 p3 q4)), .val (.int (m0_1 p0 p1 p2 p3 q4)), .val (.int (m0_2 p0 p1 p2 p3 q4)), .unset, .unset, .unset, .unset, .unset, .unset] [(.int ((1 : Int32) + ((((p3.toUInt32 >>> ((2 : Int32) &&& 31).toUInt32).toInt32) &&& (3 : Int32)) % (3 : Int32))))])) _
    refine XS.istore X0.here hx rfl (hb hby at_42) rfl (l' := #[.val (.int p0), .val (.int p1), .val (.int p2), .val (.int p3), .val (.long q4), .second, .val (.int (m0_0 p0 p1 p2 p3 q4)), .val (.int (m0_1 p0 p1 p2 p3 q4)), .val (.int (m0_2 p0 p1 p2 p3 q4)), .val (.int (m0_3 p0 p1 p2 p3 q4)), .unset, .unset, .unset, .unset, .unset]) rfl ?_
    show Steps p.tables e below (s₁.setTop (mkF m 44 #[.val (.int p0), .val (.int p1), .val (.int p2), .val (.int p3), .val (.long q4), .second, .val (.int (m0_0 p0 p1 p2 p3 q4)), .val (.int (m0_1 p0 p1 p2 p3 q4)), .val (.int (m0_2 p0 p1 p2 p3 q4)), .val (.int (m0_3 p0 p1 p2 p3 q4)), .unset, .unset, .unset, .unset, .unset] [])) _
    refine XS.iloadN X0.here hx rfl (hb hby at_44) rfl ?_
    show Steps p.tables e below (s₁.setTop (mkF m 45 #[.val (.int p0), .val (.int p1), .val (.int p2), .val (.int p3), .val (.long q4), .second, .val (.int (m0_0 p0 p1 p2 p3 q4)), .val (.int (m0_1 p0 p1 p2 p3 q4)), .val (.int (m0_2 p0 p1 p2 p3 q4)), .val (.int (m0_3 p0 p1 p2 p3 q4)), .unset, .unset, .unset, .unset, .unset] [(.int p3)])) _
    refine XS.iconst X0.here hx rfl (hb hby at_45) ?_
    show Steps p.tables e below (s₁.setTop (mkF m 46 #[.val (.int p0), .val (.int p1), .val (.int p2), .val (.int p3), .val (.long q4), .second, .val (.int (m0_0 p0 p1 p2 p3 q4)), .val (.int (m0_1 p0 p1 p2 p3 q4)), .val (.int (m0_2 p0 p1 p2 p3 q4)), .val (.int (m0_3 p0 p1 p2 p3 q4)), .unset, .unset, .unset, .unset, .unset] [(.int (3 : Int32)), (.int p3)])) _
    refine XS.iand X0.here hx rfl (hb hby at_46) rfl ?_
    show Steps p.tables e below (s₁.setTop (mkF m 47 #[.val (.int p0), .val (.int p1), .val (.int p2), .val (.int p3), .val (.long q4), .second, .val (.int (m0_0 p0 p1 p2 p3 q4)), .val (.int (m0_1 p0 p1 p2 p3 q4)), .val (.int (m0_2 p0 p1 p2 p3 q4)), .val (.int (m0_3 p0 p1 p2 p3 q4)), .unset, .unset, .unset, .unset, .unset] [(.int (p3 &&& (3 : Int32)))])) _
    refine XS.istore X0.here hx rfl (hb hby at_47) rfl (l' := #[.val (.int p0), .val (.int p1), .val (.int p2), .val (.int p3), .val (.long q4), .second, .val (.int (m0_0 p0 p1 p2 p3 q4)), .val (.int (m0_1 p0 p1 p2 p3 q4)), .val (.int (m0_2 p0 p1 p2 p3 q4)), .val (.int (m0_3 p0 p1 p2 p3 q4)), .val (.int (p3 &&& (3 : Int32))), .unset, .unset, .unset, .unset]) rfl ?_
    show Steps p.tables e below (s₁.setTop (mkF m 49 #[.val (.int p0), .val (.int p1), .val (.int p2), .val (.int p3), .val (.long q4), .second, .val (.int (m0_0 p0 p1 p2 p3 q4)), .val (.int (m0_1 p0 p1 p2 p3 q4)), .val (.int (m0_2 p0 p1 p2 p3 q4)), .val (.int (m0_3 p0 p1 p2 p3 q4)), .val (.int (p3 &&& (3 : Int32))), .unset, .unset, .unset, .unset] [])) _
    refine XS.iload X0.here hx rfl (hb hby at_49) rfl ?_
    exact kt
  by_cases hc51_1 : (p3 &&& (3 : Int32)) = (0 : Int32)
  · refine own_back (b := s₁.setTop (mkF m 114 #[.val (.int p0), .val (.int p1), .val (.int p2), .val (.int p3), .val (.long q4), .second, .val (.int (m0_0 p0 p1 p2 p3 q4)), .val (.int (m0_1 p0 p1 p2 p3 q4)), .val (.int (m0_2 p0 p1 p2 p3 q4)), .val (.int (m0_3 p0 p1 p2 p3 q4)), .val (.int (p3 &&& (3 : Int32))), .val (.long (q4 &&& (9223372036854775807 : Int64))), .second, .unset, .unset] [(.int (1 : Int32)), (.int (m0_3 p0 p1 p2 p3 q4))])) (fun t kt => ?_) ?_
    · show Steps p.tables e below (s₁.setTop (mkF m 51 #[.val (.int p0), .val (.int p1), .val (.int p2), .val (.int p3), .val (.long q4), .second, .val (.int (m0_0 p0 p1 p2 p3 q4)), .val (.int (m0_1 p0 p1 p2 p3 q4)), .val (.int (m0_2 p0 p1 p2 p3 q4)), .val (.int (m0_3 p0 p1 p2 p3 q4)), .val (.int (p3 &&& (3 : Int32))), .unset, .unset, .unset, .unset] [(.int (p3 &&& (3 : Int32)))])) _
      refine XS.ifNo X0.here hx rfl (hb hby at_51) rfl ((if0 _ _).trans (teq hc51_1).2) ?_
      show Steps p.tables e below (s₁.setTop (mkF m 54 #[.val (.int p0), .val (.int p1), .val (.int p2), .val (.int p3), .val (.long q4), .second, .val (.int (m0_0 p0 p1 p2 p3 q4)), .val (.int (m0_1 p0 p1 p2 p3 q4)), .val (.int (m0_2 p0 p1 p2 p3 q4)), .val (.int (m0_3 p0 p1 p2 p3 q4)), .val (.int (p3 &&& (3 : Int32))), .unset, .unset, .unset, .unset] [])) _
      refine XS.lload X0.here hx rfl (hb hby at_54) rfl ?_
      show Steps p.tables e below (s₁.setTop (mkF m 56 #[.val (.int p0), .val (.int p1), .val (.int p2), .val (.int p3), .val (.long q4), .second, .val (.int (m0_0 p0 p1 p2 p3 q4)), .val (.int (m0_1 p0 p1 p2 p3 q4)), .val (.int (m0_2 p0 p1 p2 p3 q4)), .val (.int (m0_3 p0 p1 p2 p3 q4)), .val (.int (p3 &&& (3 : Int32))), .unset, .unset, .unset, .unset] [(.long q4)])) _
      refine X0.ldc2Long hx hown (mvT hZ (hw _ (List.mem_of_getElem? (i := 47) rfl))) (g := (mkF m 56 #[.val (.int p0), .val (.int p1), .val (.int p2), .val (.int p3), .val (.long q4), .second, .val (.int (m0_0 p0 p1 p2 p3 q4)), .val (.int (m0_1 p0 p1 p2 p3 q4)), .val (.int (m0_2 p0 p1 p2 p3 q4)), .val (.int (m0_3 p0 p1 p2 p3 q4)), .val (.int (p3 &&& (3 : Int32))), .unset, .unset, .unset, .unset] [(.long q4)])) rfl (hb hby at_56) _ ?_
      show Steps p.tables e below (s₁.setTop (mkF m 59 #[.val (.int p0), .val (.int p1), .val (.int p2), .val (.int p3), .val (.long q4), .second, .val (.int (m0_0 p0 p1 p2 p3 q4)), .val (.int (m0_1 p0 p1 p2 p3 q4)), .val (.int (m0_2 p0 p1 p2 p3 q4)), .val (.int (m0_3 p0 p1 p2 p3 q4)), .val (.int (p3 &&& (3 : Int32))), .unset, .unset, .unset, .unset] [(.long (9223372036854775807 : Int64)), (.long q4)])) _
      refine XS.land X0.here hx rfl (hb hby at_59) rfl ?_
      show Steps p.tables e below (s₁.setTop (mkF m 60 #[.val (.int p0), .val (.int p1), .val (.int p2), .val (.int p3), .val (.long q4), .second, .val (.int (m0_0 p0 p1 p2 p3 q4)), .val (.int (m0_1 p0 p1 p2 p3 q4)), .val (.int (m0_2 p0 p1 p2 p3 q4)), .val (.int (m0_3 p0 p1 p2 p3 q4)), .val (.int (p3 &&& (3 : Int32))), .unset, .unset, .unset, .unset] [(.long (q4 &&& (9223372036854775807 : Int64)))])) _
      refine XS.lstore X0.here hx rfl (hb hby at_60) rfl (l' := #[.val (.int p0), .val (.int p1), .val (.int p2), .val (.int p3), .val (.long q4), .second, .val (.int (m0_0 p0 p1 p2 p3 q4)), .val (.int (m0_1 p0 p1 p2 p3 q4)), .val (.int (m0_2 p0 p1 p2 p3 q4)), .val (.int (m0_3 p0 p1 p2 p3 q4)), .val (.int (p3 &&& (3 : Int32))), .val (.long (q4 &&& (9223372036854775807 : Int64))), .second, .unset, .unset]) rfl ?_
      show Steps p.tables e below (s₁.setTop (mkF m 62 #[.val (.int p0), .val (.int p1), .val (.int p2), .val (.int p3), .val (.long q4), .second, .val (.int (m0_0 p0 p1 p2 p3 q4)), .val (.int (m0_1 p0 p1 p2 p3 q4)), .val (.int (m0_2 p0 p1 p2 p3 q4)), .val (.int (m0_3 p0 p1 p2 p3 q4)), .val (.int (p3 &&& (3 : Int32))), .val (.long (q4 &&& (9223372036854775807 : Int64))), .second, .unset, .unset] [])) _
      refine XS.goto X0.here hx rfl (pc0 := 62) (pc' := 111) rfl (hb hby at_62) (by decide) (by decide) ?_
      show Steps p.tables e below (s₁.setTop (mkF m 111 #[.val (.int p0), .val (.int p1), .val (.int p2), .val (.int p3), .val (.long q4), .second, .val (.int (m0_0 p0 p1 p2 p3 q4)), .val (.int (m0_1 p0 p1 p2 p3 q4)), .val (.int (m0_2 p0 p1 p2 p3 q4)), .val (.int (m0_3 p0 p1 p2 p3 q4)), .val (.int (p3 &&& (3 : Int32))), .val (.long (q4 &&& (9223372036854775807 : Int64))), .second, .unset, .unset] [])) _
      refine XS.iload X0.here hx rfl (hb hby at_111) rfl ?_
      show Steps p.tables e below (s₁.setTop (mkF m 113 #[.val (.int p0), .val (.int p1), .val (.int p2), .val (.int p3), .val (.long q4), .second, .val (.int (m0_0 p0 p1 p2 p3 q4)), .val (.int (m0_1 p0 p1 p2 p3 q4)), .val (.int (m0_2 p0 p1 p2 p3 q4)), .val (.int (m0_3 p0 p1 p2 p3 q4)), .val (.int (p3 &&& (3 : Int32))), .val (.long (q4 &&& (9223372036854775807 : Int64))), .second, .unset, .unset] [(.int (m0_3 p0 p1 p2 p3 q4))])) _
      refine XS.iconst X0.here hx rfl (hb hby at_113) ?_
      exact kt
    by_cases hc114_2 : (m0_3 p0 p1 p2 p3 q4) = (1 : Int32)
    · obtain ⟨T3, h3, X3, e3, E3, A3, D3, -, st3⟩ := newO X0 hx hZ hown (hw _ (List.mem_of_getElem? (i := 4) rfl)) (hw _ (List.mem_of_getElem? (i := 5) rfl)) (hw _ (List.mem_of_getElem? (i := 6) rfl)) e0 (g := (mkF m 117 #[.val (.int p0), .val (.int p1), .val (.int p2), .val (.int p3), .val (.long q4), .second, .val (.int (m0_0 p0 p1 p2 p3 q4)), .val (.int (m0_1 p0 p1 p2 p3 q4)), .val (.int (m0_2 p0 p1 p2 p3 q4)), .val (.int (m0_3 p0 p1 p2 p3 q4)), .val (.int (p3 &&& (3 : Int32))), .val (.long (q4 &&& (9223372036854775807 : Int64))), .second, .unset, .unset] [])) rfl (hb hby at_117) (by decide) (by decide)
      obtain ⟨b3, g3⟩ : ∃ z, z = h0.size := ⟨_, rfl⟩
      rw [← g3] at A3 D3 st3
      have lo3 : n0 ≤ b3 := Nat.le_trans Z0 (Nat.le_of_eq g3.symm)
      have sz3 : h0.size ≤ b3 := Nat.le_trans (Nat.le_refl _) (Nat.le_of_eq g3.symm)
      have K3 : Keep h0 h3 [] := (Keep.refl h0 _).ext E3
      have Z3 : n0 ≤ h3.size := Nat.le_trans Z0 E3.1
      have F3_blockSizes : Fld Z h3 b3 "com/example/byteloom/byteloom/SectionLayout" "blockSizes" "[I" .null := D3 (Or.inr (hw _ (List.mem_of_getElem? (i := 37) rfl))) (ty := (.array .int)) (by decide)
      have F3_blockCounts : Fld Z h3 b3 "com/example/byteloom/byteloom/SectionLayout" "blockCounts" "[I" .null := D3 (Or.inr (hw _ (List.mem_of_getElem? (i := 39) rfl))) (ty := (.array .int)) (by decide)
      have F3_reservedBytes : Fld Z h3 b3 "com/example/byteloom/byteloom/SectionLayout" "reservedBytes" "J" (.long (0 : Int64)) := D3 (Or.inr (hw _ (List.mem_of_getElem? (i := 41) rfl))) (ty := .long) (by decide)
      obtain ⟨T4, h4, k4, X4, e4, E4, A4, B4, st4⟩ := newPE X3 hx hZ (hw _ (List.mem_of_getElem? (i := 7) rfl)) e3 (g := (mkF m 122 #[.val (.int p0), .val (.int p1), .val (.int p2), .val (.int p3), .val (.long q4), .second, .val (.int (m0_0 p0 p1 p2 p3 q4)), .val (.int (m0_1 p0 p1 p2 p3 q4)), .val (.int (m0_2 p0 p1 p2 p3 q4)), .val (.int (m0_3 p0 p1 p2 p3 q4)), .val (.int (p3 &&& (3 : Int32))), .val (.long (q4 &&& (9223372036854775807 : Int64))), .second, .unset, .unset] [(.int (1 : Int32)), (.ref b3), (.ref b3)])) rfl (hb hby at_122) rfl (by decide) (cap := 1) (by decide) (by decide) (by decide) (by decide) (ad := "[I") (by decide)
      obtain ⟨b4, g4⟩ : ∃ z, z = h3.size := ⟨_, rfl⟩
      rw [← g4] at A4 B4 st4
      have ne4_b3 : b3 ≠ b4 := Nat.ne_of_lt (Nat.lt_of_lt_of_le A3.lt (Nat.le_of_eq g4.symm))
      have lo4 : n0 ≤ b4 := Nat.le_trans Z3 (Nat.le_of_eq g4.symm)
      have sz4 : h0.size ≤ b4 := Nat.le_trans K3.1 (Nat.le_of_eq g4.symm)
      have f4_0 := A3.ext E4
      have f4_1 := F3_blockSizes.ext E4
      have f4_2 := F3_blockCounts.ext E4
      have f4_3 := F3_reservedBytes.ext E4
      have K4 := K3.ext E4
      have Z4 : n0 ≤ h4.size := Nat.le_trans Z3 E4.1
      have V4 : Arv Z h4 b4 k4 .int (1 : Int32) [(.int (0 : Int32))] (.int (0 : Int32)) := (Arv.new A4 (by decide)).pad (pad_rep [] (.int (0 : Int32)) 1)
      obtain ⟨cl5, Ar5, qk5, S5, N5', Hh5, G5⟩ := own_same V4
      have hin5 : ¬ ((0 : Int32) < 0 ∨ cl5.slots.size ≤ ((0 : Int32)).toNatClampNeg) := inb_of S5 ⟨by decide, by decide⟩
      obtain ⟨T6, h6, X6, e6, W6, st6⟩ := stI X4 hx hZ e4 Ar5 (j := (0 : Int32)) hin5 (g := (mkF m 128 #[.val (.int p0), .val (.int p1), .val (.int p2), .val (.int p3), .val (.long q4), .second, .val (.int (m0_0 p0 p1 p2 p3 q4)), .val (.int (m0_1 p0 p1 p2 p3 q4)), .val (.int (m0_2 p0 p1 p2 p3 q4)), .val (.int (m0_3 p0 p1 p2 p3 q4)), .val (.int (p3 &&& (3 : Int32))), .val (.long (q4 &&& (9223372036854775807 : Int64))), .second, .unset, .unset] [(.int (m0_0 p0 p1 p2 p3 q4)), (.int (0 : Int32)), (.ref b4), (.ref b4), (.ref b3), (.ref b3)])) rfl rfl (hb hby at_128)
      have V6 : Arv Z h6 b4 k4 .int (1 : Int32) [(.int (m0_0 p0 p1 p2 p3 q4))] (.int (0 : Int32)) := Arv.set Ar5 qk5 S5 N5' Hh5 G5 rfl W6 0 rfl (Nat.le_of_ble_eq_true rfl)
      have f6_0 := f4_0.wr W6
      have f6_1 := f4_1.other W6 (Or.inl ne4_b3)
      have f6_2 := f4_2.other W6 (Or.inl ne4_b3)
      have f6_3 := f4_3.other W6 (Or.inl ne4_b3)
      have f6_4 := B4.wr W6
      have K6 : Keep h0 h6 [] := K4.wr W6 (Or.inr sz4)
      have Z6 : n0 ≤ h6.size := Nat.le_trans Z4 (Keep.of_wr W6).1
      have N6 := Fr.snoc X6 N0 lo4
      obtain ⟨T7, h7, k7, X7, e7, E7, A7, B7, st7⟩ := newPE X6 hx hZ (hw _ (List.mem_of_getElem? (i := 7) rfl)) e6 (g := (mkF m 130 #[.val (.int p0), .val (.int p1), .val (.int p2), .val (.int p3), .val (.long q4), .second, .val (.int (m0_0 p0 p1 p2 p3 q4)), .val (.int (m0_1 p0 p1 p2 p3 q4)), .val (.int (m0_2 p0 p1 p2 p3 q4)), .val (.int (m0_3 p0 p1 p2 p3 q4)), .val (.int (p3 &&& (3 : Int32))), .val (.long (q4 &&& (9223372036854775807 : Int64))), .second, .unset, .unset] [(.int (1 : Int32)), (.ref b4), (.ref b3), (.ref b3)])) rfl (hb hby at_130) rfl (by decide) (cap := 1) (by decide) (by decide) (by decide) (by decide) (ad := "[I") (by decide)
      obtain ⟨b7, g7⟩ : ∃ z, z = h6.size := ⟨_, rfl⟩
      rw [← g7] at A7 B7 st7
      have ne7_b3 : b3 ≠ b7 := Nat.ne_of_lt (Nat.lt_of_lt_of_le f6_0.lt (Nat.le_of_eq g7.symm))
      have ne7_b4 : b4 ≠ b7 := Nat.ne_of_lt (Nat.lt_of_lt_of_le f6_4.lt (Nat.le_of_eq g7.symm))
      have lo7 : n0 ≤ b7 := Nat.le_trans Z6 (Nat.le_of_eq g7.symm)
      have sz7 : h0.size ≤ b7 := Nat.le_trans K6.1 (Nat.le_of_eq g7.symm)
      have f7_0 := f6_0.ext E7
      have f7_1 := f6_1.ext E7
      have f7_2 := f6_2.ext E7
      have f7_3 := f6_3.ext E7
      have f7_4 := f6_4.ext E7
      have f7_5 := V6.ext E7
      have K7 := K6.ext E7
      have Z7 : n0 ≤ h7.size := Nat.le_trans Z6 E7.1
      have V7 : Arv Z h7 b7 k7 .int (1 : Int32) [(.int (0 : Int32))] (.int (0 : Int32)) := (Arv.new A7 (by decide)).pad (pad_rep [] (.int (0 : Int32)) 1)
      obtain ⟨cl8, Ar8, qk8, S8, N8', Hh8, G8⟩ := own_same V7
      have hin8 : ¬ ((0 : Int32) < 0 ∨ cl8.slots.size ≤ ((0 : Int32)).toNatClampNeg) := inb_of S8 ⟨by decide, by decide⟩
      obtain ⟨T9, h9, X9, e9, W9, st9⟩ := stI X7 hx hZ e7 Ar8 (j := (0 : Int32)) hin8 (g := (mkF m 135 #[.val (.int p0), .val (.int p1), .val (.int p2), .val (.int p3), .val (.long q4), .second, .val (.int (m0_0 p0 p1 p2 p3 q4)), .val (.int (m0_1 p0 p1 p2 p3 q4)), .val (.int (m0_2 p0 p1 p2 p3 q4)), .val (.int (m0_3 p0 p1 p2 p3 q4)), .val (.int (p3 &&& (3 : Int32))), .val (.long (q4 &&& (9223372036854775807 : Int64))), .second, .unset, .unset] [(.int (1 : Int32)), (.int (0 : Int32)), (.ref b7), (.ref b7), (.ref b4), (.ref b3), (.ref b3)])) rfl rfl (hb hby at_135)
      have V9 : Arv Z h9 b7 k7 .int (1 : Int32) [(.int (1 : Int32))] (.int (0 : Int32)) := Arv.set Ar8 qk8 S8 N8' Hh8 G8 rfl W9 0 rfl (Nat.le_of_ble_eq_true rfl)
      have f9_0 := f7_0.wr W9
      have f9_1 := f7_1.other W9 (Or.inl ne7_b3)
      have f9_2 := f7_2.other W9 (Or.inl ne7_b3)
      have f9_3 := f7_3.other W9 (Or.inl ne7_b3)
      have f9_4 := f7_4.wr W9
      have f9_5 := f7_5.other W9 ne7_b4
      have f9_6 := B7.wr W9
      have K9 : Keep h0 h9 [] := K7.wr W9 (Or.inr sz7)
      have Z9 : n0 ≤ h9.size := Nat.le_trans Z7 (Keep.of_wr W9).1
      have N9 := Fr.snoc X9 N6 lo7
      obtain ⟨_, _, ⟨T10, L10, k10, n10⟩, -, X10, hS10, hg10, ⟨Lc10, hQ10, l10, y10, z10⟩, st10⟩ := X9.specialBackS hx (y := (⟨"com/example/byteloom/byteloom/SectionLayout", "<init>", "([I[I)V"⟩ : MethodName)) rfl hown (mvT hZ (hw _ (List.mem_of_getElem? (i := 8) rfl))) (mvT hZ (hw _ (List.mem_of_getElem? (i := 9) rfl))) (mvT hZ (hw _ (List.mem_of_getElem? (i := 10) rfl))) (by decide) (backOfS (W := 1) (rm1a l Z aw hw [] b3 b4 b7 k4 k7 (m0_0 p0 p1 p2 p3 q4) h9 n0 Z9 f9_1 f9_2 f9_3 f9_0 lo3 f9_5 V9 f9_4 f9_6 (Ne.symm ne4_b3) (Ne.symm ne7_b3) (own_g0 p0 p1 p2 p3 q4)) hZ (hw _ (List.mem_of_getElem? (i := 10) rfl)) (hw _ (List.mem_of_getElem? (i := 6) rfl)) (by decide) (by decide)) (g := (mkF m 136 #[.val (.int p0), .val (.int p1), .val (.int p2), .val (.int p3), .val (.long q4), .second, .val (.int (m0_0 p0 p1 p2 p3 q4)), .val (.int (m0_1 p0 p1 p2 p3 q4)), .val (.int (m0_2 p0 p1 p2 p3 q4)), .val (.int (m0_3 p0 p1 p2 p3 q4)), .val (.int (p3 &&& (3 : Int32))), .val (.long (q4 &&& (9223372036854775807 : Int64))), .second, .unset, .unset] [(.ref b7), (.ref b4), (.ref b3), (.ref b3)])) rfl (by rw [hml]; rfl) (Steps.refl _) (a := b3) (argsL := [(.ref b4), (.ref b7)]) (rest := [(.ref b3)]) (lenOf pd_0_0 rfl) rfl (by show 2 * 0 + _ ≤ _; exact Nat.le_of_eq rfl) (hb hby at_136) (fun _ _ => ⟨rfl, e9, (by decide : 3 + 6 ≤ _), (by decide : 5 + 94 ≤ _)⟩)
      dsimp only [Pt.U, Pt.locs, Pt.cells, Pt.slots] at X10 l10 y10 z10 st10 hQ10
      rw [l10, y10, z10] at X10
      dsimp only [Pt.U, Pt.locs, Pt.cells, Pt.slots] at hS10 hg10
      have hZ : Z.Warmed39 (s.setVm T10.vm).vm := State.Warmed39.trans hZ hS10.1
      have hown : (s.setVm T10.vm).vm.findClass "com/example/byteloom/byteloom/SectionLayoutSectionForPinLaw" = some m.cls := by rw [show (s.setVm T10.vm).vm = T10.vm from rfl, hS10.1.alike.findClass]; exact hown
      obtain ⟨bb10, hQ10⟩ := hQ10
      obtain ⟨rfl, Nq10, Kq10, P10_0, P10_1, P10_2⟩ := hQ10
      have N10 := Fr.app N9 Nq10
      have f10_0 := f9_4.keep Kq10
      have f10_1 := f9_5.keep Kq10 (ninS (Ne.symm ne4_b3) nin0)
      have f10_2 := f9_6.keep Kq10
      have f10_3 := V9.keep Kq10 (ninS (Ne.symm ne7_b3) nin0)
      have K10 : Keep h0 T10.heap [] := K9.trans Kq10 (allS (Or.inr sz3) all0)
      have Z10 : n0 ≤ T10.heap.size := Nat.le_trans Z9 Kq10.1
      refine own_back (b := T10.setTop (mkF m 234 #[.val (.int p0), .val (.int p1), .val (.int p2), .val (.int p3), .val (.long q4), .second, .val (.int (m0_0 p0 p1 p2 p3 q4)), .val (.int (m0_1 p0 p1 p2 p3 q4)), .val (.int (m0_2 p0 p1 p2 p3 q4)), .val (.int (m0_3 p0 p1 p2 p3 q4)), .val (.int (p3 &&& (3 : Int32))), .val (.long (q4 &&& (9223372036854775807 : Int64))), .second, .val (.ref b3), .unset] [(.int (lcmpW (q4 &&& (9223372036854775807 : Int64)) ((m0_0 p0 p1 p2 p3 q4).toInt64)))])) (fun t kt => ?_) ?_
      · show Steps p.tables e below (s₁.setTop (mkF m 114 #[.val (.int p0), .val (.int p1), .val (.int p2), .val (.int p3), .val (.long q4), .second, .val (.int (m0_0 p0 p1 p2 p3 q4)), .val (.int (m0_1 p0 p1 p2 p3 q4)), .val (.int (m0_2 p0 p1 p2 p3 q4)), .val (.int (m0_3 p0 p1 p2 p3 q4)), .val (.int (p3 &&& (3 : Int32))), .val (.long (q4 &&& (9223372036854775807 : Int64))), .second, .unset, .unset] [(.int (1 : Int32)), (.int (m0_3 p0 p1 p2 p3 q4))])) _
        refine XS.icmpNo X0.here hx rfl (hb hby at_114) rfl (teq hc114_2).2 ?_
        show Steps p.tables e below (s₁.setTop (mkF m 117 #[.val (.int p0), .val (.int p1), .val (.int p2), .val (.int p3), .val (.long q4), .second, .val (.int (m0_0 p0 p1 p2 p3 q4)), .val (.int (m0_1 p0 p1 p2 p3 q4)), .val (.int (m0_2 p0 p1 p2 p3 q4)), .val (.int (m0_3 p0 p1 p2 p3 q4)), .val (.int (p3 &&& (3 : Int32))), .val (.long (q4 &&& (9223372036854775807 : Int64))), .second, .unset, .unset] [])) _
        refine st3 _ ?_
        show Steps p.tables e below (T3.setTop (mkF m 120 #[.val (.int p0), .val (.int p1), .val (.int p2), .val (.int p3), .val (.long q4), .second, .val (.int (m0_0 p0 p1 p2 p3 q4)), .val (.int (m0_1 p0 p1 p2 p3 q4)), .val (.int (m0_2 p0 p1 p2 p3 q4)), .val (.int (m0_3 p0 p1 p2 p3 q4)), .val (.int (p3 &&& (3 : Int32))), .val (.long (q4 &&& (9223372036854775807 : Int64))), .second, .unset, .unset] [(.ref b3)])) _
        refine XS.dup X3.here hx rfl (hb hby at_120) rfl rfl ?_
        show Steps p.tables e below (T3.setTop (mkF m 121 #[.val (.int p0), .val (.int p1), .val (.int p2), .val (.int p3), .val (.long q4), .second, .val (.int (m0_0 p0 p1 p2 p3 q4)), .val (.int (m0_1 p0 p1 p2 p3 q4)), .val (.int (m0_2 p0 p1 p2 p3 q4)), .val (.int (m0_3 p0 p1 p2 p3 q4)), .val (.int (p3 &&& (3 : Int32))), .val (.long (q4 &&& (9223372036854775807 : Int64))), .second, .unset, .unset] [(.ref b3), (.ref b3)])) _
        refine XS.iconst X3.here hx rfl (hb hby at_121) ?_
        show Steps p.tables e below (T3.setTop (mkF m 122 #[.val (.int p0), .val (.int p1), .val (.int p2), .val (.int p3), .val (.long q4), .second, .val (.int (m0_0 p0 p1 p2 p3 q4)), .val (.int (m0_1 p0 p1 p2 p3 q4)), .val (.int (m0_2 p0 p1 p2 p3 q4)), .val (.int (m0_3 p0 p1 p2 p3 q4)), .val (.int (p3 &&& (3 : Int32))), .val (.long (q4 &&& (9223372036854775807 : Int64))), .second, .unset, .unset] [(.int (1 : Int32)), (.ref b3), (.ref b3)])) _
        refine st4 _ ?_
        show Steps p.tables e below (T4.setTop (mkF m 124 #[.val (.int p0), .val (.int p1), .val (.int p2), .val (.int p3), .val (.long q4), .second, .val (.int (m0_0 p0 p1 p2 p3 q4)), .val (.int (m0_1 p0 p1 p2 p3 q4)), .val (.int (m0_2 p0 p1 p2 p3 q4)), .val (.int (m0_3 p0 p1 p2 p3 q4)), .val (.int (p3 &&& (3 : Int32))), .val (.long (q4 &&& (9223372036854775807 : Int64))), .second, .unset, .unset] [(.ref b4), (.ref b3), (.ref b3)])) _
        refine XS.dup X4.here hx rfl (hb hby at_124) rfl rfl ?_
        show Steps p.tables e below (T4.setTop (mkF m 125 #[.val (.int p0), .val (.int p1), .val (.int p2), .val (.int p3), .val (.long q4), .second, .val (.int (m0_0 p0 p1 p2 p3 q4)), .val (.int (m0_1 p0 p1 p2 p3 q4)), .val (.int (m0_2 p0 p1 p2 p3 q4)), .val (.int (m0_3 p0 p1 p2 p3 q4)), .val (.int (p3 &&& (3 : Int32))), .val (.long (q4 &&& (9223372036854775807 : Int64))), .second, .unset, .unset] [(.ref b4), (.ref b4), (.ref b3), (.ref b3)])) _
        refine XS.iconst X4.here hx rfl (hb hby at_125) ?_
        show Steps p.tables e below (T4.setTop (mkF m 126 #[.val (.int p0), .val (.int p1), .val (.int p2), .val (.int p3), .val (.long q4), .second, .val (.int (m0_0 p0 p1 p2 p3 q4)), .val (.int (m0_1 p0 p1 p2 p3 q4)), .val (.int (m0_2 p0 p1 p2 p3 q4)), .val (.int (m0_3 p0 p1 p2 p3 q4)), .val (.int (p3 &&& (3 : Int32))), .val (.long (q4 &&& (9223372036854775807 : Int64))), .second, .unset, .unset] [(.int (0 : Int32)), (.ref b4), (.ref b4), (.ref b3), (.ref b3)])) _
        refine XS.iload X4.here hx rfl (hb hby at_126) rfl ?_
        show Steps p.tables e below (T4.setTop (mkF m 128 #[.val (.int p0), .val (.int p1), .val (.int p2), .val (.int p3), .val (.long q4), .second, .val (.int (m0_0 p0 p1 p2 p3 q4)), .val (.int (m0_1 p0 p1 p2 p3 q4)), .val (.int (m0_2 p0 p1 p2 p3 q4)), .val (.int (m0_3 p0 p1 p2 p3 q4)), .val (.int (p3 &&& (3 : Int32))), .val (.long (q4 &&& (9223372036854775807 : Int64))), .second, .unset, .unset] [(.int (m0_0 p0 p1 p2 p3 q4)), (.int (0 : Int32)), (.ref b4), (.ref b4), (.ref b3), (.ref b3)])) _
        refine st6 _ ?_
        show Steps p.tables e below (T6.setTop (mkF m 129 #[.val (.int p0), .val (.int p1), .val (.int p2), .val (.int p3), .val (.long q4), .second, .val (.int (m0_0 p0 p1 p2 p3 q4)), .val (.int (m0_1 p0 p1 p2 p3 q4)), .val (.int (m0_2 p0 p1 p2 p3 q4)), .val (.int (m0_3 p0 p1 p2 p3 q4)), .val (.int (p3 &&& (3 : Int32))), .val (.long (q4 &&& (9223372036854775807 : Int64))), .second, .unset, .unset] [(.ref b4), (.ref b3), (.ref b3)])) _
        refine XS.iconst X6.here hx rfl (hb hby at_129) ?_
        show Steps p.tables e below (T6.setTop (mkF m 130 #[.val (.int p0), .val (.int p1), .val (.int p2), .val (.int p3), .val (.long q4), .second, .val (.int (m0_0 p0 p1 p2 p3 q4)), .val (.int (m0_1 p0 p1 p2 p3 q4)), .val (.int (m0_2 p0 p1 p2 p3 q4)), .val (.int (m0_3 p0 p1 p2 p3 q4)), .val (.int (p3 &&& (3 : Int32))), .val (.long (q4 &&& (9223372036854775807 : Int64))), .second, .unset, .unset] [(.int (1 : Int32)), (.ref b4), (.ref b3), (.ref b3)])) _
        refine st7 _ ?_
        show Steps p.tables e below (T7.setTop (mkF m 132 #[.val (.int p0), .val (.int p1), .val (.int p2), .val (.int p3), .val (.long q4), .second, .val (.int (m0_0 p0 p1 p2 p3 q4)), .val (.int (m0_1 p0 p1 p2 p3 q4)), .val (.int (m0_2 p0 p1 p2 p3 q4)), .val (.int (m0_3 p0 p1 p2 p3 q4)), .val (.int (p3 &&& (3 : Int32))), .val (.long (q4 &&& (9223372036854775807 : Int64))), .second, .unset, .unset] [(.ref b7), (.ref b4), (.ref b3), (.ref b3)])) _
        refine XS.dup X7.here hx rfl (hb hby at_132) rfl rfl ?_
        show Steps p.tables e below (T7.setTop (mkF m 133 #[.val (.int p0), .val (.int p1), .val (.int p2), .val (.int p3), .val (.long q4), .second, .val (.int (m0_0 p0 p1 p2 p3 q4)), .val (.int (m0_1 p0 p1 p2 p3 q4)), .val (.int (m0_2 p0 p1 p2 p3 q4)), .val (.int (m0_3 p0 p1 p2 p3 q4)), .val (.int (p3 &&& (3 : Int32))), .val (.long (q4 &&& (9223372036854775807 : Int64))), .second, .unset, .unset] [(.ref b7), (.ref b7), (.ref b4), (.ref b3), (.ref b3)])) _
        refine XS.iconst X7.here hx rfl (hb hby at_133) ?_
        show Steps p.tables e below (T7.setTop (mkF m 134 #[.val (.int p0), .val (.int p1), .val (.int p2), .val (.int p3), .val (.long q4), .second, .val (.int (m0_0 p0 p1 p2 p3 q4)), .val (.int (m0_1 p0 p1 p2 p3 q4)), .val (.int (m0_2 p0 p1 p2 p3 q4)), .val (.int (m0_3 p0 p1 p2 p3 q4)), .val (.int (p3 &&& (3 : Int32))), .val (.long (q4 &&& (9223372036854775807 : Int64))), .second, .unset, .unset] [(.int (0 : Int32)), (.ref b7), (.ref b7), (.ref b4), (.ref b3), (.ref b3)])) _
        refine XS.iconst X7.here hx rfl (hb hby at_134) ?_
        show Steps p.tables e below (T7.setTop (mkF m 135 #[.val (.int p0), .val (.int p1), .val (.int p2), .val (.int p3), .val (.long q4), .second, .val (.int (m0_0 p0 p1 p2 p3 q4)), .val (.int (m0_1 p0 p1 p2 p3 q4)), .val (.int (m0_2 p0 p1 p2 p3 q4)), .val (.int (m0_3 p0 p1 p2 p3 q4)), .val (.int (p3 &&& (3 : Int32))), .val (.long (q4 &&& (9223372036854775807 : Int64))), .second, .unset, .unset] [(.int (1 : Int32)), (.int (0 : Int32)), (.ref b7), (.ref b7), (.ref b4), (.ref b3), (.ref b3)])) _
        refine st9 _ ?_
        show Steps p.tables e below (T9.setTop (mkF m 136 #[.val (.int p0), .val (.int p1), .val (.int p2), .val (.int p3), .val (.long q4), .second, .val (.int (m0_0 p0 p1 p2 p3 q4)), .val (.int (m0_1 p0 p1 p2 p3 q4)), .val (.int (m0_2 p0 p1 p2 p3 q4)), .val (.int (m0_3 p0 p1 p2 p3 q4)), .val (.int (p3 &&& (3 : Int32))), .val (.long (q4 &&& (9223372036854775807 : Int64))), .second, .unset, .unset] [(.ref b7), (.ref b4), (.ref b3), (.ref b3)])) _
        refine st10.trans ?_
        show Steps p.tables e below (T10.setTop (mkF m 139 #[.val (.int p0), .val (.int p1), .val (.int p2), .val (.int p3), .val (.long q4), .second, .val (.int (m0_0 p0 p1 p2 p3 q4)), .val (.int (m0_1 p0 p1 p2 p3 q4)), .val (.int (m0_2 p0 p1 p2 p3 q4)), .val (.int (m0_3 p0 p1 p2 p3 q4)), .val (.int (p3 &&& (3 : Int32))), .val (.long (q4 &&& (9223372036854775807 : Int64))), .second, .unset, .unset] [(.ref b3)])) _
        refine XS.astore X10.here hx rfl (hb hby at_139) rfl rfl (l' := #[.val (.int p0), .val (.int p1), .val (.int p2), .val (.int p3), .val (.long q4), .second, .val (.int (m0_0 p0 p1 p2 p3 q4)), .val (.int (m0_1 p0 p1 p2 p3 q4)), .val (.int (m0_2 p0 p1 p2 p3 q4)), .val (.int (m0_3 p0 p1 p2 p3 q4)), .val (.int (p3 &&& (3 : Int32))), .val (.long (q4 &&& (9223372036854775807 : Int64))), .second, .val (.ref b3), .unset]) rfl ?_
        show Steps p.tables e below (T10.setTop (mkF m 141 #[.val (.int p0), .val (.int p1), .val (.int p2), .val (.int p3), .val (.long q4), .second, .val (.int (m0_0 p0 p1 p2 p3 q4)), .val (.int (m0_1 p0 p1 p2 p3 q4)), .val (.int (m0_2 p0 p1 p2 p3 q4)), .val (.int (m0_3 p0 p1 p2 p3 q4)), .val (.int (p3 &&& (3 : Int32))), .val (.long (q4 &&& (9223372036854775807 : Int64))), .second, .val (.ref b3), .unset] [])) _
        refine XS.goto X10.here hx rfl (pc0 := 141) (pc' := 228) rfl (hb hby at_141) (by decide) (by decide) ?_
        show Steps p.tables e below (T10.setTop (mkF m 228 #[.val (.int p0), .val (.int p1), .val (.int p2), .val (.int p3), .val (.long q4), .second, .val (.int (m0_0 p0 p1 p2 p3 q4)), .val (.int (m0_1 p0 p1 p2 p3 q4)), .val (.int (m0_2 p0 p1 p2 p3 q4)), .val (.int (m0_3 p0 p1 p2 p3 q4)), .val (.int (p3 &&& (3 : Int32))), .val (.long (q4 &&& (9223372036854775807 : Int64))), .second, .val (.ref b3), .unset] [])) _
        refine XS.lload X10.here hx rfl (hb hby at_228) rfl ?_
        show Steps p.tables e below (T10.setTop (mkF m 230 #[.val (.int p0), .val (.int p1), .val (.int p2), .val (.int p3), .val (.long q4), .second, .val (.int (m0_0 p0 p1 p2 p3 q4)), .val (.int (m0_1 p0 p1 p2 p3 q4)), .val (.int (m0_2 p0 p1 p2 p3 q4)), .val (.int (m0_3 p0 p1 p2 p3 q4)), .val (.int (p3 &&& (3 : Int32))), .val (.long (q4 &&& (9223372036854775807 : Int64))), .second, .val (.ref b3), .unset] [(.long (q4 &&& (9223372036854775807 : Int64)))])) _
        refine XS.iload X10.here hx rfl (hb hby at_230) rfl ?_
        show Steps p.tables e below (T10.setTop (mkF m 232 #[.val (.int p0), .val (.int p1), .val (.int p2), .val (.int p3), .val (.long q4), .second, .val (.int (m0_0 p0 p1 p2 p3 q4)), .val (.int (m0_1 p0 p1 p2 p3 q4)), .val (.int (m0_2 p0 p1 p2 p3 q4)), .val (.int (m0_3 p0 p1 p2 p3 q4)), .val (.int (p3 &&& (3 : Int32))), .val (.long (q4 &&& (9223372036854775807 : Int64))), .second, .val (.ref b3), .unset] [(.int (m0_0 p0 p1 p2 p3 q4)), (.long (q4 &&& (9223372036854775807 : Int64)))])) _
        refine XS.i2l X10.here hx rfl (hb hby at_232) rfl ?_
        show Steps p.tables e below (T10.setTop (mkF m 233 #[.val (.int p0), .val (.int p1), .val (.int p2), .val (.int p3), .val (.long q4), .second, .val (.int (m0_0 p0 p1 p2 p3 q4)), .val (.int (m0_1 p0 p1 p2 p3 q4)), .val (.int (m0_2 p0 p1 p2 p3 q4)), .val (.int (m0_3 p0 p1 p2 p3 q4)), .val (.int (p3 &&& (3 : Int32))), .val (.long (q4 &&& (9223372036854775807 : Int64))), .second, .val (.ref b3), .unset] [(.long ((m0_0 p0 p1 p2 p3 q4).toInt64)), (.long (q4 &&& (9223372036854775807 : Int64)))])) _
        refine XS.lcmp X10.here hx rfl (hb hby at_233) rfl ?_
        exact kt
      refine own_back (b := T10.setTop (mkF m 288 #[.val (.int p0), .val (.int p1), .val (.int p2), .val (.int p3), .val (.long q4), .second, .val (.int (m0_0 p0 p1 p2 p3 q4)), .val (.int (m0_1 p0 p1 p2 p3 q4)), .val (.int (m0_2 p0 p1 p2 p3 q4)), .val (.int (m0_3 p0 p1 p2 p3 q4)), .val (.int (p3 &&& (3 : Int32))), .val (.long (q4 &&& (9223372036854775807 : Int64))), .second, .val (.ref b3), .val (.int (m0_4 p0 p1 p2 p3 q4))] [])) (fun t kt => ?_) ?_
      · by_cases hm234_11 : ((m0_0 p0 p1 p2 p3 q4).toInt64) < (q4 &&& (9223372036854775807 : Int64))
        · rw [show (m0_4 p0 p1 p2 p3 q4) = (-1 : Int32) from by unfold m0_4; rw [if_pos hm234_11]] at kt
          show Steps p.tables e below (T10.setTop (mkF m 234 #[.val (.int p0), .val (.int p1), .val (.int p2), .val (.int p3), .val (.long q4), .second, .val (.int (m0_0 p0 p1 p2 p3 q4)), .val (.int (m0_1 p0 p1 p2 p3 q4)), .val (.int (m0_2 p0 p1 p2 p3 q4)), .val (.int (m0_3 p0 p1 p2 p3 q4)), .val (.int (p3 &&& (3 : Int32))), .val (.long (q4 &&& (9223372036854775807 : Int64))), .second, .val (.ref b3), .unset] [(.int (lcmpW (q4 &&& (9223372036854775807 : Int64)) ((m0_0 p0 p1 p2 p3 q4).toInt64)))])) _
          refine XS.ifYes X10.here hx rfl (pc0 := 234) (pc' := 243) rfl (hb hby at_234) rfl ((if0 _ _).trans (tlt ((lw_gt _ _).mpr hm234_11)).2.2.1) (by decide) (by decide) ?_
          show Steps p.tables e below (T10.setTop (mkF m 243 #[.val (.int p0), .val (.int p1), .val (.int p2), .val (.int p3), .val (.long q4), .second, .val (.int (m0_0 p0 p1 p2 p3 q4)), .val (.int (m0_1 p0 p1 p2 p3 q4)), .val (.int (m0_2 p0 p1 p2 p3 q4)), .val (.int (m0_3 p0 p1 p2 p3 q4)), .val (.int (p3 &&& (3 : Int32))), .val (.long (q4 &&& (9223372036854775807 : Int64))), .second, .val (.ref b3), .unset] [])) _
          refine XS.iload X10.here hx rfl (hb hby at_243) rfl ?_
          show Steps p.tables e below (T10.setTop (mkF m 245 #[.val (.int p0), .val (.int p1), .val (.int p2), .val (.int p3), .val (.long q4), .second, .val (.int (m0_0 p0 p1 p2 p3 q4)), .val (.int (m0_1 p0 p1 p2 p3 q4)), .val (.int (m0_2 p0 p1 p2 p3 q4)), .val (.int (m0_3 p0 p1 p2 p3 q4)), .val (.int (p3 &&& (3 : Int32))), .val (.long (q4 &&& (9223372036854775807 : Int64))), .second, .val (.ref b3), .unset] [(.int (m0_3 p0 p1 p2 p3 q4))])) _
          refine XS.iconst X10.here hx rfl (hb hby at_245) ?_
          show Steps p.tables e below (T10.setTop (mkF m 246 #[.val (.int p0), .val (.int p1), .val (.int p2), .val (.int p3), .val (.long q4), .second, .val (.int (m0_0 p0 p1 p2 p3 q4)), .val (.int (m0_1 p0 p1 p2 p3 q4)), .val (.int (m0_2 p0 p1 p2 p3 q4)), .val (.int (m0_3 p0 p1 p2 p3 q4)), .val (.int (p3 &&& (3 : Int32))), .val (.long (q4 &&& (9223372036854775807 : Int64))), .second, .val (.ref b3), .unset] [(.int (2 : Int32)), (.int (m0_3 p0 p1 p2 p3 q4))])) _
          refine XS.icmpYes X10.here hx rfl (pc0 := 246) (pc' := 264) rfl (hb hby at_246) rfl (tlt (by rw [hc114_2]; decide)).1 (by decide) (by decide) ?_
          show Steps p.tables e below (T10.setTop (mkF m 264 #[.val (.int p0), .val (.int p1), .val (.int p2), .val (.int p3), .val (.long q4), .second, .val (.int (m0_0 p0 p1 p2 p3 q4)), .val (.int (m0_1 p0 p1 p2 p3 q4)), .val (.int (m0_2 p0 p1 p2 p3 q4)), .val (.int (m0_3 p0 p1 p2 p3 q4)), .val (.int (p3 &&& (3 : Int32))), .val (.long (q4 &&& (9223372036854775807 : Int64))), .second, .val (.ref b3), .unset] [])) _
          refine XS.iload X10.here hx rfl (hb hby at_264) rfl ?_
          show Steps p.tables e below (T10.setTop (mkF m 266 #[.val (.int p0), .val (.int p1), .val (.int p2), .val (.int p3), .val (.long q4), .second, .val (.int (m0_0 p0 p1 p2 p3 q4)), .val (.int (m0_1 p0 p1 p2 p3 q4)), .val (.int (m0_2 p0 p1 p2 p3 q4)), .val (.int (m0_3 p0 p1 p2 p3 q4)), .val (.int (p3 &&& (3 : Int32))), .val (.long (q4 &&& (9223372036854775807 : Int64))), .second, .val (.ref b3), .unset] [(.int (m0_3 p0 p1 p2 p3 q4))])) _
          refine XS.iconst X10.here hx rfl (hb hby at_266) ?_
          show Steps p.tables e below (T10.setTop (mkF m 267 #[.val (.int p0), .val (.int p1), .val (.int p2), .val (.int p3), .val (.long q4), .second, .val (.int (m0_0 p0 p1 p2 p3 q4)), .val (.int (m0_1 p0 p1 p2 p3 q4)), .val (.int (m0_2 p0 p1 p2 p3 q4)), .val (.int (m0_3 p0 p1 p2 p3 q4)), .val (.int (p3 &&& (3 : Int32))), .val (.long (q4 &&& (9223372036854775807 : Int64))), .second, .val (.ref b3), .unset] [(.int (3 : Int32)), (.int (m0_3 p0 p1 p2 p3 q4))])) _
          refine XS.icmpYes X10.here hx rfl (pc0 := 267) (pc' := 285) rfl (hb hby at_267) rfl (tlt (by rw [hc114_2]; decide)).1 (by decide) (by decide) ?_
          show Steps p.tables e below (T10.setTop (mkF m 285 #[.val (.int p0), .val (.int p1), .val (.int p2), .val (.int p3), .val (.long q4), .second, .val (.int (m0_0 p0 p1 p2 p3 q4)), .val (.int (m0_1 p0 p1 p2 p3 q4)), .val (.int (m0_2 p0 p1 p2 p3 q4)), .val (.int (m0_3 p0 p1 p2 p3 q4)), .val (.int (p3 &&& (3 : Int32))), .val (.long (q4 &&& (9223372036854775807 : Int64))), .second, .val (.ref b3), .unset] [])) _
          refine XS.iconst X10.here hx rfl (hb hby at_285) ?_
          show Steps p.tables e below (T10.setTop (mkF m 286 #[.val (.int p0), .val (.int p1), .val (.int p2), .val (.int p3), .val (.long q4), .second, .val (.int (m0_0 p0 p1 p2 p3 q4)), .val (.int (m0_1 p0 p1 p2 p3 q4)), .val (.int (m0_2 p0 p1 p2 p3 q4)), .val (.int (m0_3 p0 p1 p2 p3 q4)), .val (.int (p3 &&& (3 : Int32))), .val (.long (q4 &&& (9223372036854775807 : Int64))), .second, .val (.ref b3), .unset] [(.int (-1 : Int32))])) _
          refine XS.istore X10.here hx rfl (hb hby at_286) rfl (l' := #[.val (.int p0), .val (.int p1), .val (.int p2), .val (.int p3), .val (.long q4), .second, .val (.int (m0_0 p0 p1 p2 p3 q4)), .val (.int (m0_1 p0 p1 p2 p3 q4)), .val (.int (m0_2 p0 p1 p2 p3 q4)), .val (.int (m0_3 p0 p1 p2 p3 q4)), .val (.int (p3 &&& (3 : Int32))), .val (.long (q4 &&& (9223372036854775807 : Int64))), .second, .val (.ref b3), .val (.int (-1 : Int32))]) rfl ?_
          exact kt
        · rw [show (m0_4 p0 p1 p2 p3 q4) = (0 : Int32) from by unfold m0_4; rw [if_neg hm234_11]] at kt
          show Steps p.tables e below (T10.setTop (mkF m 234 #[.val (.int p0), .val (.int p1), .val (.int p2), .val (.int p3), .val (.long q4), .second, .val (.int (m0_0 p0 p1 p2 p3 q4)), .val (.int (m0_1 p0 p1 p2 p3 q4)), .val (.int (m0_2 p0 p1 p2 p3 q4)), .val (.int (m0_3 p0 p1 p2 p3 q4)), .val (.int (p3 &&& (3 : Int32))), .val (.long (q4 &&& (9223372036854775807 : Int64))), .second, .val (.ref b3), .unset] [(.int (lcmpW (q4 &&& (9223372036854775807 : Int64)) ((m0_0 p0 p1 p2 p3 q4).toInt64)))])) _
          refine XS.ifNo X10.here hx rfl (hb hby at_234) rfl ((if0 _ _).trans (flt (fun q => hm234_11 ((lw_gt _ _).mp q))).2.2.1) ?_
          show Steps p.tables e below (T10.setTop (mkF m 237 #[.val (.int p0), .val (.int p1), .val (.int p2), .val (.int p3), .val (.long q4), .second, .val (.int (m0_0 p0 p1 p2 p3 q4)), .val (.int (m0_1 p0 p1 p2 p3 q4)), .val (.int (m0_2 p0 p1 p2 p3 q4)), .val (.int (m0_3 p0 p1 p2 p3 q4)), .val (.int (p3 &&& (3 : Int32))), .val (.long (q4 &&& (9223372036854775807 : Int64))), .second, .val (.ref b3), .unset] [])) _
          refine XS.iconst X10.here hx rfl (hb hby at_237) ?_
          show Steps p.tables e below (T10.setTop (mkF m 238 #[.val (.int p0), .val (.int p1), .val (.int p2), .val (.int p3), .val (.long q4), .second, .val (.int (m0_0 p0 p1 p2 p3 q4)), .val (.int (m0_1 p0 p1 p2 p3 q4)), .val (.int (m0_2 p0 p1 p2 p3 q4)), .val (.int (m0_3 p0 p1 p2 p3 q4)), .val (.int (p3 &&& (3 : Int32))), .val (.long (q4 &&& (9223372036854775807 : Int64))), .second, .val (.ref b3), .unset] [(.int (0 : Int32))])) _
          refine XS.istore X10.here hx rfl (hb hby at_238) rfl (l' := #[.val (.int p0), .val (.int p1), .val (.int p2), .val (.int p3), .val (.long q4), .second, .val (.int (m0_0 p0 p1 p2 p3 q4)), .val (.int (m0_1 p0 p1 p2 p3 q4)), .val (.int (m0_2 p0 p1 p2 p3 q4)), .val (.int (m0_3 p0 p1 p2 p3 q4)), .val (.int (p3 &&& (3 : Int32))), .val (.long (q4 &&& (9223372036854775807 : Int64))), .second, .val (.ref b3), .val (.int (0 : Int32))]) rfl ?_
          show Steps p.tables e below (T10.setTop (mkF m 240 #[.val (.int p0), .val (.int p1), .val (.int p2), .val (.int p3), .val (.long q4), .second, .val (.int (m0_0 p0 p1 p2 p3 q4)), .val (.int (m0_1 p0 p1 p2 p3 q4)), .val (.int (m0_2 p0 p1 p2 p3 q4)), .val (.int (m0_3 p0 p1 p2 p3 q4)), .val (.int (p3 &&& (3 : Int32))), .val (.long (q4 &&& (9223372036854775807 : Int64))), .second, .val (.ref b3), .val (.int (0 : Int32))] [])) _
          refine XS.goto X10.here hx rfl (pc0 := 240) (pc' := 288) rfl (hb hby at_240) (by decide) (by decide) ?_
          exact kt
      obtain ⟨cq12, kq12, q12a, q12b, q12c⟩ := isOf hZ rfl P10_0
      obtain ⟨_, _, ⟨T12, L12, k12, n12⟩, -, X12, ⟨Lc12, hQ12, l12, y12, z12⟩, st12⟩ := X10.virtualBack hx (y := (⟨"com/example/byteloom/byteloom/SectionLayout", "sectionFor", "(J)I"⟩ : MethodName)) (z := (⟨"com/example/byteloom/byteloom/SectionLayout", "sectionFor", "(J)I"⟩ : MethodName)) hown (mvT hZ (hw _ (List.mem_of_getElem? (i := 42) rfl))) (mvT hZ (hw _ (List.mem_of_getElem? (i := 43) rfl))) (notFace_of_selects (args := #[]) (mvT hZ (hw _ (List.mem_of_getElem? (i := 45) rfl)))) (mvT hZ (hw _ (List.mem_of_getElem? (i := 45) rfl))) (mvT hZ (hw _ (List.mem_of_getElem? (i := 44) rfl))) (by decide) (backOf (W := 0) (rm4a l Z aw hw [] b3 (q4 &&& (9223372036854775807 : Int64)) bb10 k4 (m0_0 p0 p1 p2 p3 q4) T10.heap n0 Z10 P10_1 P10_2 (own_mx q4)) hZ (hw _ (List.mem_of_getElem? (i := 46) rfl)) (hw _ (List.mem_of_getElem? (i := 6) rfl)) (by decide) (by decide)) q12a q12c (g := (mkF m 292 #[.val (.int p0), .val (.int p1), .val (.int p2), .val (.int p3), .val (.long q4), .second, .val (.int (m0_0 p0 p1 p2 p3 q4)), .val (.int (m0_1 p0 p1 p2 p3 q4)), .val (.int (m0_2 p0 p1 p2 p3 q4)), .val (.int (m0_3 p0 p1 p2 p3 q4)), .val (.int (p3 &&& (3 : Int32))), .val (.long (q4 &&& (9223372036854775807 : Int64))), .second, .val (.ref b3), .val (.int (m0_4 p0 p1 p2 p3 q4))] [(.long (q4 &&& (9223372036854775807 : Int64))), (.ref b3)])) rfl (by rw [hml]; rfl) (Steps.refl _) (argsL := [(.long (q4 &&& (9223372036854775807 : Int64)))]) (rest := []) (lenOf pd_0_1 rfl) rfl (by show 2 * 0 + _ ≤ _; exact Nat.le_of_eq rfl) (hb hby at_292) (fun _ _ => ⟨rfl, rfl, (by decide : 9 + 0 ≤ _), (by decide : 99 + 0 ≤ _)⟩)
      dsimp only [Pt.U, Pt.locs, Pt.cells, Pt.slots] at X12 l12 y12 z12 st12 hQ12
      rw [l12, y12, z12] at X12
      obtain ⟨rfl, Nq12, e12⟩ := hQ12
      have N12 := Fr.app N10 Nq12
      refine own_back (b := T12.setTop (mkF m 297 #[.val (.int p0), .val (.int p1), .val (.int p2), .val (.int p3), .val (.long q4), .second, .val (.int (m0_0 p0 p1 p2 p3 q4)), .val (.int (m0_1 p0 p1 p2 p3 q4)), .val (.int (m0_2 p0 p1 p2 p3 q4)), .val (.int (m0_3 p0 p1 p2 p3 q4)), .val (.int (p3 &&& (3 : Int32))), .val (.long (q4 &&& (9223372036854775807 : Int64))), .second, .val (.ref b3), .val (.int (m0_4 p0 p1 p2 p3 q4))] [(.int (m0_4 p0 p1 p2 p3 q4)), (.int (f4a (q4 &&& (9223372036854775807 : Int64)) (m0_0 p0 p1 p2 p3 q4)))])) (fun t kt => ?_) ?_
      · show Steps p.tables e below (T10.setTop (mkF m 288 #[.val (.int p0), .val (.int p1), .val (.int p2), .val (.int p3), .val (.long q4), .second, .val (.int (m0_0 p0 p1 p2 p3 q4)), .val (.int (m0_1 p0 p1 p2 p3 q4)), .val (.int (m0_2 p0 p1 p2 p3 q4)), .val (.int (m0_3 p0 p1 p2 p3 q4)), .val (.int (p3 &&& (3 : Int32))), .val (.long (q4 &&& (9223372036854775807 : Int64))), .second, .val (.ref b3), .val (.int (m0_4 p0 p1 p2 p3 q4))] [])) _
        refine XS.aload X10.here hx rfl (hb hby at_288) rfl rfl ?_
        show Steps p.tables e below (T10.setTop (mkF m 290 #[.val (.int p0), .val (.int p1), .val (.int p2), .val (.int p3), .val (.long q4), .second, .val (.int (m0_0 p0 p1 p2 p3 q4)), .val (.int (m0_1 p0 p1 p2 p3 q4)), .val (.int (m0_2 p0 p1 p2 p3 q4)), .val (.int (m0_3 p0 p1 p2 p3 q4)), .val (.int (p3 &&& (3 : Int32))), .val (.long (q4 &&& (9223372036854775807 : Int64))), .second, .val (.ref b3), .val (.int (m0_4 p0 p1 p2 p3 q4))] [(.ref b3)])) _
        refine XS.lload X10.here hx rfl (hb hby at_290) rfl ?_
        show Steps p.tables e below (T10.setTop (mkF m 292 #[.val (.int p0), .val (.int p1), .val (.int p2), .val (.int p3), .val (.long q4), .second, .val (.int (m0_0 p0 p1 p2 p3 q4)), .val (.int (m0_1 p0 p1 p2 p3 q4)), .val (.int (m0_2 p0 p1 p2 p3 q4)), .val (.int (m0_3 p0 p1 p2 p3 q4)), .val (.int (p3 &&& (3 : Int32))), .val (.long (q4 &&& (9223372036854775807 : Int64))), .second, .val (.ref b3), .val (.int (m0_4 p0 p1 p2 p3 q4))] [(.long (q4 &&& (9223372036854775807 : Int64))), (.ref b3)])) _
        refine st12.trans ?_
        show Steps p.tables e below (T12.setTop (mkF m 295 #[.val (.int p0), .val (.int p1), .val (.int p2), .val (.int p3), .val (.long q4), .second, .val (.int (m0_0 p0 p1 p2 p3 q4)), .val (.int (m0_1 p0 p1 p2 p3 q4)), .val (.int (m0_2 p0 p1 p2 p3 q4)), .val (.int (m0_3 p0 p1 p2 p3 q4)), .val (.int (p3 &&& (3 : Int32))), .val (.long (q4 &&& (9223372036854775807 : Int64))), .second, .val (.ref b3), .val (.int (m0_4 p0 p1 p2 p3 q4))] [(.int (f4a (q4 &&& (9223372036854775807 : Int64)) (m0_0 p0 p1 p2 p3 q4)))])) _
        refine XS.iload X12.here hx rfl (hb hby at_295) rfl ?_
        exact kt
      by_cases hc297_13 : (f4a (q4 &&& (9223372036854775807 : Int64)) (m0_0 p0 p1 p2 p3 q4)) = (m0_4 p0 p1 p2 p3 q4)
      · refine own_back (b := T12.setTop (mkF m 305 #[.val (.int p0), .val (.int p1), .val (.int p2), .val (.int p3), .val (.long q4), .second, .val (.int (m0_0 p0 p1 p2 p3 q4)), .val (.int (m0_1 p0 p1 p2 p3 q4)), .val (.int (m0_2 p0 p1 p2 p3 q4)), .val (.int (m0_3 p0 p1 p2 p3 q4)), .val (.int (p3 &&& (3 : Int32))), .val (.long (q4 &&& (9223372036854775807 : Int64))), .second, .val (.ref b3), .val (.int (m0_4 p0 p1 p2 p3 q4))] [(.int (1 : Int32))])) (fun t kt => ?_) ?_
        · show Steps p.tables e below (T12.setTop (mkF m 297 #[.val (.int p0), .val (.int p1), .val (.int p2), .val (.int p3), .val (.long q4), .second, .val (.int (m0_0 p0 p1 p2 p3 q4)), .val (.int (m0_1 p0 p1 p2 p3 q4)), .val (.int (m0_2 p0 p1 p2 p3 q4)), .val (.int (m0_3 p0 p1 p2 p3 q4)), .val (.int (p3 &&& (3 : Int32))), .val (.long (q4 &&& (9223372036854775807 : Int64))), .second, .val (.ref b3), .val (.int (m0_4 p0 p1 p2 p3 q4))] [(.int (m0_4 p0 p1 p2 p3 q4)), (.int (f4a (q4 &&& (9223372036854775807 : Int64)) (m0_0 p0 p1 p2 p3 q4)))])) _
          refine XS.icmpNo X12.here hx rfl (hb hby at_297) rfl (teq hc297_13).2 ?_
          show Steps p.tables e below (T12.setTop (mkF m 300 #[.val (.int p0), .val (.int p1), .val (.int p2), .val (.int p3), .val (.long q4), .second, .val (.int (m0_0 p0 p1 p2 p3 q4)), .val (.int (m0_1 p0 p1 p2 p3 q4)), .val (.int (m0_2 p0 p1 p2 p3 q4)), .val (.int (m0_3 p0 p1 p2 p3 q4)), .val (.int (p3 &&& (3 : Int32))), .val (.long (q4 &&& (9223372036854775807 : Int64))), .second, .val (.ref b3), .val (.int (m0_4 p0 p1 p2 p3 q4))] [])) _
          refine XS.iconst X12.here hx rfl (hb hby at_300) ?_
          show Steps p.tables e below (T12.setTop (mkF m 301 #[.val (.int p0), .val (.int p1), .val (.int p2), .val (.int p3), .val (.long q4), .second, .val (.int (m0_0 p0 p1 p2 p3 q4)), .val (.int (m0_1 p0 p1 p2 p3 q4)), .val (.int (m0_2 p0 p1 p2 p3 q4)), .val (.int (m0_3 p0 p1 p2 p3 q4)), .val (.int (p3 &&& (3 : Int32))), .val (.long (q4 &&& (9223372036854775807 : Int64))), .second, .val (.ref b3), .val (.int (m0_4 p0 p1 p2 p3 q4))] [(.int (1 : Int32))])) _
          refine XS.goto X12.here hx rfl (pc0 := 301) (pc' := 305) rfl (hb hby at_301) (by decide) (by decide) ?_
          exact kt
        obtain ⟨fs, hr, hrun, hended, hEnd⟩ := Stand.leaveW (s := s) X12 hS10 (by rw [e12]; exact (Nat.le_refl _)) (v := some (.int (1 : Int32))) (fun h => by rw [Bd.returns] at h; cases h) (BodyLoose.notSynchronized Bd)
        refine ⟨_, _, ?_, hrun, hended, _, _, rfl, ?_, own_endW hEnd (by decide) (by decide)⟩
        · show Steps p.tables e below (T12.setTop (mkF m 305 #[.val (.int p0), .val (.int p1), .val (.int p2), .val (.int p3), .val (.long q4), .second, .val (.int (m0_0 p0 p1 p2 p3 q4)), .val (.int (m0_1 p0 p1 p2 p3 q4)), .val (.int (m0_2 p0 p1 p2 p3 q4)), .val (.int (m0_3 p0 p1 p2 p3 q4)), .val (.int (p3 &&& (3 : Int32))), .val (.long (q4 &&& (9223372036854775807 : Int64))), .second, .val (.ref b3), .val (.int (m0_4 p0 p1 p2 p3 q4))] [(.int (1 : Int32))])) _
          exact retN X12 hx (t := .boolean) Bd.returns (by simp) (hb hby at_305) hr
        · show Q0 Z p0 p1 p2 p3 q4 h0 n0 _ T12.heap _
          rw [e12]
          exact ⟨by rw [show f0 p0 p1 p2 p3 q4 = (1 : Int32) from by unfold f0; rw [if_pos hc51_1, if_pos hc114_2, if_pos hc297_13]], N12⟩
      · refine own_back (b := T12.setTop (mkF m 305 #[.val (.int p0), .val (.int p1), .val (.int p2), .val (.int p3), .val (.long q4), .second, .val (.int (m0_0 p0 p1 p2 p3 q4)), .val (.int (m0_1 p0 p1 p2 p3 q4)), .val (.int (m0_2 p0 p1 p2 p3 q4)), .val (.int (m0_3 p0 p1 p2 p3 q4)), .val (.int (p3 &&& (3 : Int32))), .val (.long (q4 &&& (9223372036854775807 : Int64))), .second, .val (.ref b3), .val (.int (m0_4 p0 p1 p2 p3 q4))] [(.int (0 : Int32))])) (fun t kt => ?_) ?_
        · show Steps p.tables e below (T12.setTop (mkF m 297 #[.val (.int p0), .val (.int p1), .val (.int p2), .val (.int p3), .val (.long q4), .second, .val (.int (m0_0 p0 p1 p2 p3 q4)), .val (.int (m0_1 p0 p1 p2 p3 q4)), .val (.int (m0_2 p0 p1 p2 p3 q4)), .val (.int (m0_3 p0 p1 p2 p3 q4)), .val (.int (p3 &&& (3 : Int32))), .val (.long (q4 &&& (9223372036854775807 : Int64))), .second, .val (.ref b3), .val (.int (m0_4 p0 p1 p2 p3 q4))] [(.int (m0_4 p0 p1 p2 p3 q4)), (.int (f4a (q4 &&& (9223372036854775807 : Int64)) (m0_0 p0 p1 p2 p3 q4)))])) _
          refine XS.icmpYes X12.here hx rfl (pc0 := 297) (pc' := 304) rfl (hb hby at_297) rfl (feq hc297_13).2 (by decide) (by decide) ?_
          show Steps p.tables e below (T12.setTop (mkF m 304 #[.val (.int p0), .val (.int p1), .val (.int p2), .val (.int p3), .val (.long q4), .second, .val (.int (m0_0 p0 p1 p2 p3 q4)), .val (.int (m0_1 p0 p1 p2 p3 q4)), .val (.int (m0_2 p0 p1 p2 p3 q4)), .val (.int (m0_3 p0 p1 p2 p3 q4)), .val (.int (p3 &&& (3 : Int32))), .val (.long (q4 &&& (9223372036854775807 : Int64))), .second, .val (.ref b3), .val (.int (m0_4 p0 p1 p2 p3 q4))] [])) _
          refine XS.iconst X12.here hx rfl (hb hby at_304) ?_
          exact kt
        obtain ⟨fs, hr, hrun, hended, hEnd⟩ := Stand.leaveW (s := s) X12 hS10 (by rw [e12]; exact (Nat.le_refl _)) (v := some (.int (0 : Int32))) (fun h => by rw [Bd.returns] at h; cases h) (BodyLoose.notSynchronized Bd)
        refine ⟨_, _, ?_, hrun, hended, _, _, rfl, ?_, own_endW hEnd (by decide) (by decide)⟩
        · show Steps p.tables e below (T12.setTop (mkF m 305 #[.val (.int p0), .val (.int p1), .val (.int p2), .val (.int p3), .val (.long q4), .second, .val (.int (m0_0 p0 p1 p2 p3 q4)), .val (.int (m0_1 p0 p1 p2 p3 q4)), .val (.int (m0_2 p0 p1 p2 p3 q4)), .val (.int (m0_3 p0 p1 p2 p3 q4)), .val (.int (p3 &&& (3 : Int32))), .val (.long (q4 &&& (9223372036854775807 : Int64))), .second, .val (.ref b3), .val (.int (m0_4 p0 p1 p2 p3 q4))] [(.int (0 : Int32))])) _
          exact retN X12 hx (t := .boolean) Bd.returns (by simp) (hb hby at_305) hr
        · show Q0 Z p0 p1 p2 p3 q4 h0 n0 _ T12.heap _
          rw [e12]
          exact ⟨by rw [show f0 p0 p1 p2 p3 q4 = (0 : Int32) from by unfold f0; rw [if_pos hc51_1, if_pos hc114_2, if_neg hc297_13]], N12⟩
    · refine own_back (b := s₁.setTop (mkF m 147 #[.val (.int p0), .val (.int p1), .val (.int p2), .val (.int p3), .val (.long q4), .second, .val (.int (m0_0 p0 p1 p2 p3 q4)), .val (.int (m0_1 p0 p1 p2 p3 q4)), .val (.int (m0_2 p0 p1 p2 p3 q4)), .val (.int (m0_3 p0 p1 p2 p3 q4)), .val (.int (p3 &&& (3 : Int32))), .val (.long (q4 &&& (9223372036854775807 : Int64))), .second, .unset, .unset] [(.int (2 : Int32)), (.int (m0_3 p0 p1 p2 p3 q4))])) (fun t kt => ?_) ?_
      · show Steps p.tables e below (s₁.setTop (mkF m 114 #[.val (.int p0), .val (.int p1), .val (.int p2), .val (.int p3), .val (.long q4), .second, .val (.int (m0_0 p0 p1 p2 p3 q4)), .val (.int (m0_1 p0 p1 p2 p3 q4)), .val (.int (m0_2 p0 p1 p2 p3 q4)), .val (.int (m0_3 p0 p1 p2 p3 q4)), .val (.int (p3 &&& (3 : Int32))), .val (.long (q4 &&& (9223372036854775807 : Int64))), .second, .unset, .unset] [(.int (1 : Int32)), (.int (m0_3 p0 p1 p2 p3 q4))])) _
        refine XS.icmpYes X0.here hx rfl (pc0 := 114) (pc' := 144) rfl (hb hby at_114) rfl (feq hc114_2).2 (by decide) (by decide) ?_
        show Steps p.tables e below (s₁.setTop (mkF m 144 #[.val (.int p0), .val (.int p1), .val (.int p2), .val (.int p3), .val (.long q4), .second, .val (.int (m0_0 p0 p1 p2 p3 q4)), .val (.int (m0_1 p0 p1 p2 p3 q4)), .val (.int (m0_2 p0 p1 p2 p3 q4)), .val (.int (m0_3 p0 p1 p2 p3 q4)), .val (.int (p3 &&& (3 : Int32))), .val (.long (q4 &&& (9223372036854775807 : Int64))), .second, .unset, .unset] [])) _
        refine XS.iload X0.here hx rfl (hb hby at_144) rfl ?_
        show Steps p.tables e below (s₁.setTop (mkF m 146 #[.val (.int p0), .val (.int p1), .val (.int p2), .val (.int p3), .val (.long q4), .second, .val (.int (m0_0 p0 p1 p2 p3 q4)), .val (.int (m0_1 p0 p1 p2 p3 q4)), .val (.int (m0_2 p0 p1 p2 p3 q4)), .val (.int (m0_3 p0 p1 p2 p3 q4)), .val (.int (p3 &&& (3 : Int32))), .val (.long (q4 &&& (9223372036854775807 : Int64))), .second, .unset, .unset] [(.int (m0_3 p0 p1 p2 p3 q4))])) _
        refine XS.iconst X0.here hx rfl (hb hby at_146) ?_
        exact kt
      by_cases hc147_14 : (m0_3 p0 p1 p2 p3 q4) = (2 : Int32)
      · obtain ⟨T15, h15, X15, e15, E15, A15, D15, -, st15⟩ := newO X0 hx hZ hown (hw _ (List.mem_of_getElem? (i := 4) rfl)) (hw _ (List.mem_of_getElem? (i := 5) rfl)) (hw _ (List.mem_of_getElem? (i := 6) rfl)) e0 (g := (mkF m 150 #[.val (.int p0), .val (.int p1), .val (.int p2), .val (.int p3), .val (.long q4), .second, .val (.int (m0_0 p0 p1 p2 p3 q4)), .val (.int (m0_1 p0 p1 p2 p3 q4)), .val (.int (m0_2 p0 p1 p2 p3 q4)), .val (.int (m0_3 p0 p1 p2 p3 q4)), .val (.int (p3 &&& (3 : Int32))), .val (.long (q4 &&& (9223372036854775807 : Int64))), .second, .unset, .unset] [])) rfl (hb hby at_150) (by decide) (by decide)
        obtain ⟨b15, g15⟩ : ∃ z, z = h0.size := ⟨_, rfl⟩
        rw [← g15] at A15 D15 st15
        have lo15 : n0 ≤ b15 := Nat.le_trans Z0 (Nat.le_of_eq g15.symm)
        have sz15 : h0.size ≤ b15 := Nat.le_trans (Nat.le_refl _) (Nat.le_of_eq g15.symm)
        have K15 : Keep h0 h15 [] := (Keep.refl h0 _).ext E15
        have Z15 : n0 ≤ h15.size := Nat.le_trans Z0 E15.1
        have F15_blockSizes : Fld Z h15 b15 "com/example/byteloom/byteloom/SectionLayout" "blockSizes" "[I" .null := D15 (Or.inr (hw _ (List.mem_of_getElem? (i := 37) rfl))) (ty := (.array .int)) (by decide)
        have F15_blockCounts : Fld Z h15 b15 "com/example/byteloom/byteloom/SectionLayout" "blockCounts" "[I" .null := D15 (Or.inr (hw _ (List.mem_of_getElem? (i := 39) rfl))) (ty := (.array .int)) (by decide)
        have F15_reservedBytes : Fld Z h15 b15 "com/example/byteloom/byteloom/SectionLayout" "reservedBytes" "J" (.long (0 : Int64)) := D15 (Or.inr (hw _ (List.mem_of_getElem? (i := 41) rfl))) (ty := .long) (by decide)
        obtain ⟨T16, h16, k16, X16, e16, E16, A16, B16, st16⟩ := newPE X15 hx hZ (hw _ (List.mem_of_getElem? (i := 7) rfl)) e15 (g := (mkF m 155 #[.val (.int p0), .val (.int p1), .val (.int p2), .val (.int p3), .val (.long q4), .second, .val (.int (m0_0 p0 p1 p2 p3 q4)), .val (.int (m0_1 p0 p1 p2 p3 q4)), .val (.int (m0_2 p0 p1 p2 p3 q4)), .val (.int (m0_3 p0 p1 p2 p3 q4)), .val (.int (p3 &&& (3 : Int32))), .val (.long (q4 &&& (9223372036854775807 : Int64))), .second, .unset, .unset] [(.int (2 : Int32)), (.ref b15), (.ref b15)])) rfl (hb hby at_155) rfl (by decide) (cap := 2) (by decide) (by decide) (by decide) (by decide) (ad := "[I") (by decide)
        obtain ⟨b16, g16⟩ : ∃ z, z = h15.size := ⟨_, rfl⟩
        rw [← g16] at A16 B16 st16
        have ne16_b15 : b15 ≠ b16 := Nat.ne_of_lt (Nat.lt_of_lt_of_le A15.lt (Nat.le_of_eq g16.symm))
        have lo16 : n0 ≤ b16 := Nat.le_trans Z15 (Nat.le_of_eq g16.symm)
        have sz16 : h0.size ≤ b16 := Nat.le_trans K15.1 (Nat.le_of_eq g16.symm)
        have f16_0 := A15.ext E16
        have f16_1 := F15_blockSizes.ext E16
        have f16_2 := F15_blockCounts.ext E16
        have f16_3 := F15_reservedBytes.ext E16
        have K16 := K15.ext E16
        have Z16 : n0 ≤ h16.size := Nat.le_trans Z15 E16.1
        have V16 : Arv Z h16 b16 k16 .int (2 : Int32) [(.int (0 : Int32)), (.int (0 : Int32))] (.int (0 : Int32)) := (Arv.new A16 (by decide)).pad (pad_rep [] (.int (0 : Int32)) 2)
        obtain ⟨cl17, Ar17, qk17, S17, N17', Hh17, G17⟩ := own_same V16
        have hin17 : ¬ ((0 : Int32) < 0 ∨ cl17.slots.size ≤ ((0 : Int32)).toNatClampNeg) := inb_of S17 ⟨by decide, by decide⟩
        obtain ⟨T18, h18, X18, e18, W18, st18⟩ := stI X16 hx hZ e16 Ar17 (j := (0 : Int32)) hin17 (g := (mkF m 161 #[.val (.int p0), .val (.int p1), .val (.int p2), .val (.int p3), .val (.long q4), .second, .val (.int (m0_0 p0 p1 p2 p3 q4)), .val (.int (m0_1 p0 p1 p2 p3 q4)), .val (.int (m0_2 p0 p1 p2 p3 q4)), .val (.int (m0_3 p0 p1 p2 p3 q4)), .val (.int (p3 &&& (3 : Int32))), .val (.long (q4 &&& (9223372036854775807 : Int64))), .second, .unset, .unset] [(.int (m0_0 p0 p1 p2 p3 q4)), (.int (0 : Int32)), (.ref b16), (.ref b16), (.ref b15), (.ref b15)])) rfl rfl (hb hby at_161)
        have V18 : Arv Z h18 b16 k16 .int (2 : Int32) [(.int (m0_0 p0 p1 p2 p3 q4)), (.int (0 : Int32))] (.int (0 : Int32)) := Arv.set Ar17 qk17 S17 N17' Hh17 G17 rfl W18 0 rfl (Nat.le_of_ble_eq_true rfl)
        have f18_0 := f16_0.wr W18
        have f18_1 := f16_1.other W18 (Or.inl ne16_b15)
        have f18_2 := f16_2.other W18 (Or.inl ne16_b15)
        have f18_3 := f16_3.other W18 (Or.inl ne16_b15)
        have f18_4 := B16.wr W18
        have K18 : Keep h0 h18 [] := K16.wr W18 (Or.inr sz16)
        have Z18 : n0 ≤ h18.size := Nat.le_trans Z16 (Keep.of_wr W18).1
        have N18 := Fr.snoc X18 N0 lo16
        obtain ⟨cl19, Ar19, qk19, S19, N19', Hh19, G19⟩ := own_same V18
        have hin19 : ¬ ((1 : Int32) < 0 ∨ cl19.slots.size ≤ ((1 : Int32)).toNatClampNeg) := inb_of S19 ⟨by decide, by decide⟩
        obtain ⟨T20, h20, X20, e20, W20, st20⟩ := stI X18 hx hZ e18 Ar19 (j := (1 : Int32)) hin19 (g := (mkF m 166 #[.val (.int p0), .val (.int p1), .val (.int p2), .val (.int p3), .val (.long q4), .second, .val (.int (m0_0 p0 p1 p2 p3 q4)), .val (.int (m0_1 p0 p1 p2 p3 q4)), .val (.int (m0_2 p0 p1 p2 p3 q4)), .val (.int (m0_3 p0 p1 p2 p3 q4)), .val (.int (p3 &&& (3 : Int32))), .val (.long (q4 &&& (9223372036854775807 : Int64))), .second, .unset, .unset] [(.int (m0_1 p0 p1 p2 p3 q4)), (.int (1 : Int32)), (.ref b16), (.ref b16), (.ref b15), (.ref b15)])) rfl rfl (hb hby at_166)
        have V20 : Arv Z h20 b16 k16 .int (2 : Int32) [(.int (m0_0 p0 p1 p2 p3 q4)), (.int (m0_1 p0 p1 p2 p3 q4))] (.int (0 : Int32)) := Arv.set Ar19 qk19 S19 N19' Hh19 G19 rfl W20 1 rfl (Nat.le_of_ble_eq_true rfl)
        have f20_0 := f18_0.wr W20
        have f20_1 := f18_1.other W20 (Or.inl ne16_b15)
        have f20_2 := f18_2.other W20 (Or.inl ne16_b15)
        have f20_3 := f18_3.other W20 (Or.inl ne16_b15)
        have f20_4 := f18_4.wr W20
        have K20 : Keep h0 h20 [] := K18.wr W20 (Or.inr sz16)
        have Z20 : n0 ≤ h20.size := Nat.le_trans Z18 (Keep.of_wr W20).1
        have N20 := Fr.snoc X20 N18 lo16
        obtain ⟨T21, h21, k21, X21, e21, E21, A21, B21, st21⟩ := newPE X20 hx hZ (hw _ (List.mem_of_getElem? (i := 7) rfl)) e20 (g := (mkF m 168 #[.val (.int p0), .val (.int p1), .val (.int p2), .val (.int p3), .val (.long q4), .second, .val (.int (m0_0 p0 p1 p2 p3 q4)), .val (.int (m0_1 p0 p1 p2 p3 q4)), .val (.int (m0_2 p0 p1 p2 p3 q4)), .val (.int (m0_3 p0 p1 p2 p3 q4)), .val (.int (p3 &&& (3 : Int32))), .val (.long (q4 &&& (9223372036854775807 : Int64))), .second, .unset, .unset] [(.int (2 : Int32)), (.ref b16), (.ref b15), (.ref b15)])) rfl (hb hby at_168) rfl (by decide) (cap := 2) (by decide) (by decide) (by decide) (by decide) (ad := "[I") (by decide)
        obtain ⟨b21, g21⟩ : ∃ z, z = h20.size := ⟨_, rfl⟩
        rw [← g21] at A21 B21 st21
        have ne21_b15 : b15 ≠ b21 := Nat.ne_of_lt (Nat.lt_of_lt_of_le f20_0.lt (Nat.le_of_eq g21.symm))
        have ne21_b16 : b16 ≠ b21 := Nat.ne_of_lt (Nat.lt_of_lt_of_le f20_4.lt (Nat.le_of_eq g21.symm))
        have lo21 : n0 ≤ b21 := Nat.le_trans Z20 (Nat.le_of_eq g21.symm)
        have sz21 : h0.size ≤ b21 := Nat.le_trans K20.1 (Nat.le_of_eq g21.symm)
        have f21_0 := f20_0.ext E21
        have f21_1 := f20_1.ext E21
        have f21_2 := f20_2.ext E21
        have f21_3 := f20_3.ext E21
        have f21_4 := f20_4.ext E21
        have f21_5 := V20.ext E21
        have K21 := K20.ext E21
        have Z21 : n0 ≤ h21.size := Nat.le_trans Z20 E21.1
        have V21 : Arv Z h21 b21 k21 .int (2 : Int32) [(.int (0 : Int32)), (.int (0 : Int32))] (.int (0 : Int32)) := (Arv.new A21 (by decide)).pad (pad_rep [] (.int (0 : Int32)) 2)
        obtain ⟨cl22, Ar22, qk22, S22, N22', Hh22, G22⟩ := own_same V21
        have hin22 : ¬ ((0 : Int32) < 0 ∨ cl22.slots.size ≤ ((0 : Int32)).toNatClampNeg) := inb_of S22 ⟨by decide, by decide⟩
        obtain ⟨T23, h23, X23, e23, W23, st23⟩ := stI X21 hx hZ e21 Ar22 (j := (0 : Int32)) hin22 (g := (mkF m 173 #[.val (.int p0), .val (.int p1), .val (.int p2), .val (.int p3), .val (.long q4), .second, .val (.int (m0_0 p0 p1 p2 p3 q4)), .val (.int (m0_1 p0 p1 p2 p3 q4)), .val (.int (m0_2 p0 p1 p2 p3 q4)), .val (.int (m0_3 p0 p1 p2 p3 q4)), .val (.int (p3 &&& (3 : Int32))), .val (.long (q4 &&& (9223372036854775807 : Int64))), .second, .unset, .unset] [(.int (1 : Int32)), (.int (0 : Int32)), (.ref b21), (.ref b21), (.ref b16), (.ref b15), (.ref b15)])) rfl rfl (hb hby at_173)
        have V23 : Arv Z h23 b21 k21 .int (2 : Int32) [(.int (1 : Int32)), (.int (0 : Int32))] (.int (0 : Int32)) := Arv.set Ar22 qk22 S22 N22' Hh22 G22 rfl W23 0 rfl (Nat.le_of_ble_eq_true rfl)
        have f23_0 := f21_0.wr W23
        have f23_1 := f21_1.other W23 (Or.inl ne21_b15)
        have f23_2 := f21_2.other W23 (Or.inl ne21_b15)
        have f23_3 := f21_3.other W23 (Or.inl ne21_b15)
        have f23_4 := f21_4.wr W23
        have f23_5 := f21_5.other W23 ne21_b16
        have f23_6 := B21.wr W23
        have K23 : Keep h0 h23 [] := K21.wr W23 (Or.inr sz21)
        have Z23 : n0 ≤ h23.size := Nat.le_trans Z21 (Keep.of_wr W23).1
        have N23 := Fr.snoc X23 N20 lo21
        obtain ⟨cl24, Ar24, qk24, S24, N24', Hh24, G24⟩ := own_same V23
        have hin24 : ¬ ((1 : Int32) < 0 ∨ cl24.slots.size ≤ ((1 : Int32)).toNatClampNeg) := inb_of S24 ⟨by decide, by decide⟩
        obtain ⟨T25, h25, X25, e25, W25, st25⟩ := stI X23 hx hZ e23 Ar24 (j := (1 : Int32)) hin24 (g := (mkF m 177 #[.val (.int p0), .val (.int p1), .val (.int p2), .val (.int p3), .val (.long q4), .second, .val (.int (m0_0 p0 p1 p2 p3 q4)), .val (.int (m0_1 p0 p1 p2 p3 q4)), .val (.int (m0_2 p0 p1 p2 p3 q4)), .val (.int (m0_3 p0 p1 p2 p3 q4)), .val (.int (p3 &&& (3 : Int32))), .val (.long (q4 &&& (9223372036854775807 : Int64))), .second, .unset, .unset] [(.int (1 : Int32)), (.int (1 : Int32)), (.ref b21), (.ref b21), (.ref b16), (.ref b15), (.ref b15)])) rfl rfl (hb hby at_177)
        have V25 : Arv Z h25 b21 k21 .int (2 : Int32) [(.int (1 : Int32)), (.int (1 : Int32))] (.int (0 : Int32)) := Arv.set Ar24 qk24 S24 N24' Hh24 G24 rfl W25 1 rfl (Nat.le_of_ble_eq_true rfl)
        have f25_0 := f23_0.wr W25
        have f25_1 := f23_1.other W25 (Or.inl ne21_b15)
        have f25_2 := f23_2.other W25 (Or.inl ne21_b15)
        have f25_3 := f23_3.other W25 (Or.inl ne21_b15)
        have f25_4 := f23_4.wr W25
        have f25_5 := f23_5.other W25 ne21_b16
        have f25_6 := f23_6.wr W25
        have K25 : Keep h0 h25 [] := K23.wr W25 (Or.inr sz21)
        have Z25 : n0 ≤ h25.size := Nat.le_trans Z23 (Keep.of_wr W25).1
        have N25 := Fr.snoc X25 N23 lo21
        obtain ⟨_, _, ⟨T26, L26, k26, n26⟩, -, X26, hS26, hg26, ⟨Lc26, hQ26, l26, y26, z26⟩, st26⟩ := X25.specialBackS hx (y := (⟨"com/example/byteloom/byteloom/SectionLayout", "<init>", "([I[I)V"⟩ : MethodName)) rfl hown (mvT hZ (hw _ (List.mem_of_getElem? (i := 8) rfl))) (mvT hZ (hw _ (List.mem_of_getElem? (i := 9) rfl))) (mvT hZ (hw _ (List.mem_of_getElem? (i := 10) rfl))) (by decide) (backOfS (W := 1) (rm1b l Z aw hw [] b15 b16 b21 k16 k21 (m0_0 p0 p1 p2 p3 q4) (m0_1 p0 p1 p2 p3 q4) h25 n0 Z25 f25_1 f25_2 f25_3 f25_0 lo15 f25_5 V25 f25_4 f25_6 (Ne.symm ne16_b15) (Ne.symm ne21_b15) (own_g0 p0 p1 p2 p3 q4) (own_g1 p0 p1 p2 p3 q4) (own_l01 p0 p1 p2 p3 q4)) hZ (hw _ (List.mem_of_getElem? (i := 10) rfl)) (hw _ (List.mem_of_getElem? (i := 6) rfl)) (by decide) (by decide)) (g := (mkF m 178 #[.val (.int p0), .val (.int p1), .val (.int p2), .val (.int p3), .val (.long q4), .second, .val (.int (m0_0 p0 p1 p2 p3 q4)), .val (.int (m0_1 p0 p1 p2 p3 q4)), .val (.int (m0_2 p0 p1 p2 p3 q4)), .val (.int (m0_3 p0 p1 p2 p3 q4)), .val (.int (p3 &&& (3 : Int32))), .val (.long (q4 &&& (9223372036854775807 : Int64))), .second, .unset, .unset] [(.ref b21), (.ref b16), (.ref b15), (.ref b15)])) rfl (by rw [hml]; rfl) (Steps.refl _) (a := b15) (argsL := [(.ref b16), (.ref b21)]) (rest := [(.ref b15)]) (lenOf pd_0_0 rfl) rfl (by show 2 * 0 + _ ≤ _; exact Nat.le_of_eq rfl) (hb hby at_178) (fun _ _ => ⟨rfl, e25, (by decide : 3 + 6 ≤ _), (by decide : 7 + 96 ≤ _)⟩)
        dsimp only [Pt.U, Pt.locs, Pt.cells, Pt.slots] at X26 l26 y26 z26 st26 hQ26
        rw [l26, y26, z26] at X26
        dsimp only [Pt.U, Pt.locs, Pt.cells, Pt.slots] at hS26 hg26
        have hZ : Z.Warmed39 (s.setVm T26.vm).vm := State.Warmed39.trans hZ hS26.1
        have hown : (s.setVm T26.vm).vm.findClass "com/example/byteloom/byteloom/SectionLayoutSectionForPinLaw" = some m.cls := by rw [show (s.setVm T26.vm).vm = T26.vm from rfl, hS26.1.alike.findClass]; exact hown
        obtain ⟨bb26, hQ26⟩ := hQ26
        obtain ⟨rfl, Nq26, Kq26, P26_0, P26_1, P26_2⟩ := hQ26
        have N26 := Fr.app N25 Nq26
        have f26_0 := f25_4.keep Kq26
        have f26_1 := f25_5.keep Kq26 (ninS (Ne.symm ne16_b15) nin0)
        have f26_2 := f25_6.keep Kq26
        have f26_3 := V25.keep Kq26 (ninS (Ne.symm ne21_b15) nin0)
        have K26 : Keep h0 T26.heap [] := K25.trans Kq26 (allS (Or.inr sz15) all0)
        have Z26 : n0 ≤ T26.heap.size := Nat.le_trans Z25 Kq26.1
        refine own_back (b := T26.setTop (mkF m 234 #[.val (.int p0), .val (.int p1), .val (.int p2), .val (.int p3), .val (.long q4), .second, .val (.int (m0_0 p0 p1 p2 p3 q4)), .val (.int (m0_1 p0 p1 p2 p3 q4)), .val (.int (m0_2 p0 p1 p2 p3 q4)), .val (.int (m0_3 p0 p1 p2 p3 q4)), .val (.int (p3 &&& (3 : Int32))), .val (.long (q4 &&& (9223372036854775807 : Int64))), .second, .val (.ref b15), .unset] [(.int (lcmpW (q4 &&& (9223372036854775807 : Int64)) ((m0_0 p0 p1 p2 p3 q4).toInt64)))])) (fun t kt => ?_) ?_
        · show Steps p.tables e below (s₁.setTop (mkF m 147 #[.val (.int p0), .val (.int p1), .val (.int p2), .val (.int p3), .val (.long q4), .second, .val (.int (m0_0 p0 p1 p2 p3 q4)), .val (.int (m0_1 p0 p1 p2 p3 q4)), .val (.int (m0_2 p0 p1 p2 p3 q4)), .val (.int (m0_3 p0 p1 p2 p3 q4)), .val (.int (p3 &&& (3 : Int32))), .val (.long (q4 &&& (9223372036854775807 : Int64))), .second, .unset, .unset] [(.int (2 : Int32)), (.int (m0_3 p0 p1 p2 p3 q4))])) _
          refine XS.icmpNo X0.here hx rfl (hb hby at_147) rfl (teq hc147_14).2 ?_
          show Steps p.tables e below (s₁.setTop (mkF m 150 #[.val (.int p0), .val (.int p1), .val (.int p2), .val (.int p3), .val (.long q4), .second, .val (.int (m0_0 p0 p1 p2 p3 q4)), .val (.int (m0_1 p0 p1 p2 p3 q4)), .val (.int (m0_2 p0 p1 p2 p3 q4)), .val (.int (m0_3 p0 p1 p2 p3 q4)), .val (.int (p3 &&& (3 : Int32))), .val (.long (q4 &&& (9223372036854775807 : Int64))), .second, .unset, .unset] [])) _
          refine st15 _ ?_
          show Steps p.tables e below (T15.setTop (mkF m 153 #[.val (.int p0), .val (.int p1), .val (.int p2), .val (.int p3), .val (.long q4), .second, .val (.int (m0_0 p0 p1 p2 p3 q4)), .val (.int (m0_1 p0 p1 p2 p3 q4)), .val (.int (m0_2 p0 p1 p2 p3 q4)), .val (.int (m0_3 p0 p1 p2 p3 q4)), .val (.int (p3 &&& (3 : Int32))), .val (.long (q4 &&& (9223372036854775807 : Int64))), .second, .unset, .unset] [(.ref b15)])) _
          refine XS.dup X15.here hx rfl (hb hby at_153) rfl rfl ?_
          show Steps p.tables e below (T15.setTop (mkF m 154 #[.val (.int p0), .val (.int p1), .val (.int p2), .val (.int p3), .val (.long q4), .second, .val (.int (m0_0 p0 p1 p2 p3 q4)), .val (.int (m0_1 p0 p1 p2 p3 q4)), .val (.int (m0_2 p0 p1 p2 p3 q4)), .val (.int (m0_3 p0 p1 p2 p3 q4)), .val (.int (p3 &&& (3 : Int32))), .val (.long (q4 &&& (9223372036854775807 : Int64))), .second, .unset, .unset] [(.ref b15), (.ref b15)])) _
          refine XS.iconst X15.here hx rfl (hb hby at_154) ?_
          show Steps p.tables e below (T15.setTop (mkF m 155 #[.val (.int p0), .val (.int p1), .val (.int p2), .val (.int p3), .val (.long q4), .second, .val (.int (m0_0 p0 p1 p2 p3 q4)), .val (.int (m0_1 p0 p1 p2 p3 q4)), .val (.int (m0_2 p0 p1 p2 p3 q4)), .val (.int (m0_3 p0 p1 p2 p3 q4)), .val (.int (p3 &&& (3 : Int32))), .val (.long (q4 &&& (9223372036854775807 : Int64))), .second, .unset, .unset] [(.int (2 : Int32)), (.ref b15), (.ref b15)])) _
          refine st16 _ ?_
          show Steps p.tables e below (T16.setTop (mkF m 157 #[.val (.int p0), .val (.int p1), .val (.int p2), .val (.int p3), .val (.long q4), .second, .val (.int (m0_0 p0 p1 p2 p3 q4)), .val (.int (m0_1 p0 p1 p2 p3 q4)), .val (.int (m0_2 p0 p1 p2 p3 q4)), .val (.int (m0_3 p0 p1 p2 p3 q4)), .val (.int (p3 &&& (3 : Int32))), .val (.long (q4 &&& (9223372036854775807 : Int64))), .second, .unset, .unset] [(.ref b16), (.ref b15), (.ref b15)])) _
          refine XS.dup X16.here hx rfl (hb hby at_157) rfl rfl ?_
          show Steps p.tables e below (T16.setTop (mkF m 158 #[.val (.int p0), .val (.int p1), .val (.int p2), .val (.int p3), .val (.long q4), .second, .val (.int (m0_0 p0 p1 p2 p3 q4)), .val (.int (m0_1 p0 p1 p2 p3 q4)), .val (.int (m0_2 p0 p1 p2 p3 q4)), .val (.int (m0_3 p0 p1 p2 p3 q4)), .val (.int (p3 &&& (3 : Int32))), .val (.long (q4 &&& (9223372036854775807 : Int64))), .second, .unset, .unset] [(.ref b16), (.ref b16), (.ref b15), (.ref b15)])) _
          refine XS.iconst X16.here hx rfl (hb hby at_158) ?_
          show Steps p.tables e below (T16.setTop (mkF m 159 #[.val (.int p0), .val (.int p1), .val (.int p2), .val (.int p3), .val (.long q4), .second, .val (.int (m0_0 p0 p1 p2 p3 q4)), .val (.int (m0_1 p0 p1 p2 p3 q4)), .val (.int (m0_2 p0 p1 p2 p3 q4)), .val (.int (m0_3 p0 p1 p2 p3 q4)), .val (.int (p3 &&& (3 : Int32))), .val (.long (q4 &&& (9223372036854775807 : Int64))), .second, .unset, .unset] [(.int (0 : Int32)), (.ref b16), (.ref b16), (.ref b15), (.ref b15)])) _
          refine XS.iload X16.here hx rfl (hb hby at_159) rfl ?_
          show Steps p.tables e below (T16.setTop (mkF m 161 #[.val (.int p0), .val (.int p1), .val (.int p2), .val (.int p3), .val (.long q4), .second, .val (.int (m0_0 p0 p1 p2 p3 q4)), .val (.int (m0_1 p0 p1 p2 p3 q4)), .val (.int (m0_2 p0 p1 p2 p3 q4)), .val (.int (m0_3 p0 p1 p2 p3 q4)), .val (.int (p3 &&& (3 : Int32))), .val (.long (q4 &&& (9223372036854775807 : Int64))), .second, .unset, .unset] [(.int (m0_0 p0 p1 p2 p3 q4)), (.int (0 : Int32)), (.ref b16), (.ref b16), (.ref b15), (.ref b15)])) _
          refine st18 _ ?_
          show Steps p.tables e below (T18.setTop (mkF m 162 #[.val (.int p0), .val (.int p1), .val (.int p2), .val (.int p3), .val (.long q4), .second, .val (.int (m0_0 p0 p1 p2 p3 q4)), .val (.int (m0_1 p0 p1 p2 p3 q4)), .val (.int (m0_2 p0 p1 p2 p3 q4)), .val (.int (m0_3 p0 p1 p2 p3 q4)), .val (.int (p3 &&& (3 : Int32))), .val (.long (q4 &&& (9223372036854775807 : Int64))), .second, .unset, .unset] [(.ref b16), (.ref b15), (.ref b15)])) _
          refine XS.dup X18.here hx rfl (hb hby at_162) rfl rfl ?_
          show Steps p.tables e below (T18.setTop (mkF m 163 #[.val (.int p0), .val (.int p1), .val (.int p2), .val (.int p3), .val (.long q4), .second, .val (.int (m0_0 p0 p1 p2 p3 q4)), .val (.int (m0_1 p0 p1 p2 p3 q4)), .val (.int (m0_2 p0 p1 p2 p3 q4)), .val (.int (m0_3 p0 p1 p2 p3 q4)), .val (.int (p3 &&& (3 : Int32))), .val (.long (q4 &&& (9223372036854775807 : Int64))), .second, .unset, .unset] [(.ref b16), (.ref b16), (.ref b15), (.ref b15)])) _
          refine XS.iconst X18.here hx rfl (hb hby at_163) ?_
          show Steps p.tables e below (T18.setTop (mkF m 164 #[.val (.int p0), .val (.int p1), .val (.int p2), .val (.int p3), .val (.long q4), .second, .val (.int (m0_0 p0 p1 p2 p3 q4)), .val (.int (m0_1 p0 p1 p2 p3 q4)), .val (.int (m0_2 p0 p1 p2 p3 q4)), .val (.int (m0_3 p0 p1 p2 p3 q4)), .val (.int (p3 &&& (3 : Int32))), .val (.long (q4 &&& (9223372036854775807 : Int64))), .second, .unset, .unset] [(.int (1 : Int32)), (.ref b16), (.ref b16), (.ref b15), (.ref b15)])) _
          refine XS.iload X18.here hx rfl (hb hby at_164) rfl ?_
          show Steps p.tables e below (T18.setTop (mkF m 166 #[.val (.int p0), .val (.int p1), .val (.int p2), .val (.int p3), .val (.long q4), .second, .val (.int (m0_0 p0 p1 p2 p3 q4)), .val (.int (m0_1 p0 p1 p2 p3 q4)), .val (.int (m0_2 p0 p1 p2 p3 q4)), .val (.int (m0_3 p0 p1 p2 p3 q4)), .val (.int (p3 &&& (3 : Int32))), .val (.long (q4 &&& (9223372036854775807 : Int64))), .second, .unset, .unset] [(.int (m0_1 p0 p1 p2 p3 q4)), (.int (1 : Int32)), (.ref b16), (.ref b16), (.ref b15), (.ref b15)])) _
          refine st20 _ ?_
          show Steps p.tables e below (T20.setTop (mkF m 167 #[.val (.int p0), .val (.int p1), .val (.int p2), .val (.int p3), .val (.long q4), .second, .val (.int (m0_0 p0 p1 p2 p3 q4)), .val (.int (m0_1 p0 p1 p2 p3 q4)), .val (.int (m0_2 p0 p1 p2 p3 q4)), .val (.int (m0_3 p0 p1 p2 p3 q4)), .val (.int (p3 &&& (3 : Int32))), .val (.long (q4 &&& (9223372036854775807 : Int64))), .second, .unset, .unset] [(.ref b16), (.ref b15), (.ref b15)])) _
          refine XS.iconst X20.here hx rfl (hb hby at_167) ?_
          show Steps p.tables e below (T20.setTop (mkF m 168 #[.val (.int p0), .val (.int p1), .val (.int p2), .val (.int p3), .val (.long q4), .second, .val (.int (m0_0 p0 p1 p2 p3 q4)), .val (.int (m0_1 p0 p1 p2 p3 q4)), .val (.int (m0_2 p0 p1 p2 p3 q4)), .val (.int (m0_3 p0 p1 p2 p3 q4)), .val (.int (p3 &&& (3 : Int32))), .val (.long (q4 &&& (9223372036854775807 : Int64))), .second, .unset, .unset] [(.int (2 : Int32)), (.ref b16), (.ref b15), (.ref b15)])) _
          refine st21 _ ?_
          show Steps p.tables e below (T21.setTop (mkF m 170 #[.val (.int p0), .val (.int p1), .val (.int p2), .val (.int p3), .val (.long q4), .second, .val (.int (m0_0 p0 p1 p2 p3 q4)), .val (.int (m0_1 p0 p1 p2 p3 q4)), .val (.int (m0_2 p0 p1 p2 p3 q4)), .val (.int (m0_3 p0 p1 p2 p3 q4)), .val (.int (p3 &&& (3 : Int32))), .val (.long (q4 &&& (9223372036854775807 : Int64))), .second, .unset, .unset] [(.ref b21), (.ref b16), (.ref b15), (.ref b15)])) _
          refine XS.dup X21.here hx rfl (hb hby at_170) rfl rfl ?_
          show Steps p.tables e below (T21.setTop (mkF m 171 #[.val (.int p0), .val (.int p1), .val (.int p2), .val (.int p3), .val (.long q4), .second, .val (.int (m0_0 p0 p1 p2 p3 q4)), .val (.int (m0_1 p0 p1 p2 p3 q4)), .val (.int (m0_2 p0 p1 p2 p3 q4)), .val (.int (m0_3 p0 p1 p2 p3 q4)), .val (.int (p3 &&& (3 : Int32))), .val (.long (q4 &&& (9223372036854775807 : Int64))), .second, .unset, .unset] [(.ref b21), (.ref b21), (.ref b16), (.ref b15), (.ref b15)])) _
          refine XS.iconst X21.here hx rfl (hb hby at_171) ?_
          show Steps p.tables e below (T21.setTop (mkF m 172 #[.val (.int p0), .val (.int p1), .val (.int p2), .val (.int p3), .val (.long q4), .second, .val (.int (m0_0 p0 p1 p2 p3 q4)), .val (.int (m0_1 p0 p1 p2 p3 q4)), .val (.int (m0_2 p0 p1 p2 p3 q4)), .val (.int (m0_3 p0 p1 p2 p3 q4)), .val (.int (p3 &&& (3 : Int32))), .val (.long (q4 &&& (9223372036854775807 : Int64))), .second, .unset, .unset] [(.int (0 : Int32)), (.ref b21), (.ref b21), (.ref b16), (.ref b15), (.ref b15)])) _
          refine XS.iconst X21.here hx rfl (hb hby at_172) ?_
          show Steps p.tables e below (T21.setTop (mkF m 173 #[.val (.int p0), .val (.int p1), .val (.int p2), .val (.int p3), .val (.long q4), .second, .val (.int (m0_0 p0 p1 p2 p3 q4)), .val (.int (m0_1 p0 p1 p2 p3 q4)), .val (.int (m0_2 p0 p1 p2 p3 q4)), .val (.int (m0_3 p0 p1 p2 p3 q4)), .val (.int (p3 &&& (3 : Int32))), .val (.long (q4 &&& (9223372036854775807 : Int64))), .second, .unset, .unset] [(.int (1 : Int32)), (.int (0 : Int32)), (.ref b21), (.ref b21), (.ref b16), (.ref b15), (.ref b15)])) _
          refine st23 _ ?_
          show Steps p.tables e below (T23.setTop (mkF m 174 #[.val (.int p0), .val (.int p1), .val (.int p2), .val (.int p3), .val (.long q4), .second, .val (.int (m0_0 p0 p1 p2 p3 q4)), .val (.int (m0_1 p0 p1 p2 p3 q4)), .val (.int (m0_2 p0 p1 p2 p3 q4)), .val (.int (m0_3 p0 p1 p2 p3 q4)), .val (.int (p3 &&& (3 : Int32))), .val (.long (q4 &&& (9223372036854775807 : Int64))), .second, .unset, .unset] [(.ref b21), (.ref b16), (.ref b15), (.ref b15)])) _
          refine XS.dup X23.here hx rfl (hb hby at_174) rfl rfl ?_
          show Steps p.tables e below (T23.setTop (mkF m 175 #[.val (.int p0), .val (.int p1), .val (.int p2), .val (.int p3), .val (.long q4), .second, .val (.int (m0_0 p0 p1 p2 p3 q4)), .val (.int (m0_1 p0 p1 p2 p3 q4)), .val (.int (m0_2 p0 p1 p2 p3 q4)), .val (.int (m0_3 p0 p1 p2 p3 q4)), .val (.int (p3 &&& (3 : Int32))), .val (.long (q4 &&& (9223372036854775807 : Int64))), .second, .unset, .unset] [(.ref b21), (.ref b21), (.ref b16), (.ref b15), (.ref b15)])) _
          refine XS.iconst X23.here hx rfl (hb hby at_175) ?_
          show Steps p.tables e below (T23.setTop (mkF m 176 #[.val (.int p0), .val (.int p1), .val (.int p2), .val (.int p3), .val (.long q4), .second, .val (.int (m0_0 p0 p1 p2 p3 q4)), .val (.int (m0_1 p0 p1 p2 p3 q4)), .val (.int (m0_2 p0 p1 p2 p3 q4)), .val (.int (m0_3 p0 p1 p2 p3 q4)), .val (.int (p3 &&& (3 : Int32))), .val (.long (q4 &&& (9223372036854775807 : Int64))), .second, .unset, .unset] [(.int (1 : Int32)), (.ref b21), (.ref b21), (.ref b16), (.ref b15), (.ref b15)])) _
          refine XS.iconst X23.here hx rfl (hb hby at_176) ?_
          show Steps p.tables e below (T23.setTop (mkF m 177 #[.val (.int p0), .val (.int p1), .val (.int p2), .val (.int p3), .val (.long q4), .second, .val (.int (m0_0 p0 p1 p2 p3 q4)), .val (.int (m0_1 p0 p1 p2 p3 q4)), .val (.int (m0_2 p0 p1 p2 p3 q4)), .val (.int (m0_3 p0 p1 p2 p3 q4)), .val (.int (p3 &&& (3 : Int32))), .val (.long (q4 &&& (9223372036854775807 : Int64))), .second, .unset, .unset] [(.int (1 : Int32)), (.int (1 : Int32)), (.ref b21), (.ref b21), (.ref b16), (.ref b15), (.ref b15)])) _
          refine st25 _ ?_
          show Steps p.tables e below (T25.setTop (mkF m 178 #[.val (.int p0), .val (.int p1), .val (.int p2), .val (.int p3), .val (.long q4), .second, .val (.int (m0_0 p0 p1 p2 p3 q4)), .val (.int (m0_1 p0 p1 p2 p3 q4)), .val (.int (m0_2 p0 p1 p2 p3 q4)), .val (.int (m0_3 p0 p1 p2 p3 q4)), .val (.int (p3 &&& (3 : Int32))), .val (.long (q4 &&& (9223372036854775807 : Int64))), .second, .unset, .unset] [(.ref b21), (.ref b16), (.ref b15), (.ref b15)])) _
          refine st26.trans ?_
          show Steps p.tables e below (T26.setTop (mkF m 181 #[.val (.int p0), .val (.int p1), .val (.int p2), .val (.int p3), .val (.long q4), .second, .val (.int (m0_0 p0 p1 p2 p3 q4)), .val (.int (m0_1 p0 p1 p2 p3 q4)), .val (.int (m0_2 p0 p1 p2 p3 q4)), .val (.int (m0_3 p0 p1 p2 p3 q4)), .val (.int (p3 &&& (3 : Int32))), .val (.long (q4 &&& (9223372036854775807 : Int64))), .second, .unset, .unset] [(.ref b15)])) _
          refine XS.astore X26.here hx rfl (hb hby at_181) rfl rfl (l' := #[.val (.int p0), .val (.int p1), .val (.int p2), .val (.int p3), .val (.long q4), .second, .val (.int (m0_0 p0 p1 p2 p3 q4)), .val (.int (m0_1 p0 p1 p2 p3 q4)), .val (.int (m0_2 p0 p1 p2 p3 q4)), .val (.int (m0_3 p0 p1 p2 p3 q4)), .val (.int (p3 &&& (3 : Int32))), .val (.long (q4 &&& (9223372036854775807 : Int64))), .second, .val (.ref b15), .unset]) rfl ?_
          show Steps p.tables e below (T26.setTop (mkF m 183 #[.val (.int p0), .val (.int p1), .val (.int p2), .val (.int p3), .val (.long q4), .second, .val (.int (m0_0 p0 p1 p2 p3 q4)), .val (.int (m0_1 p0 p1 p2 p3 q4)), .val (.int (m0_2 p0 p1 p2 p3 q4)), .val (.int (m0_3 p0 p1 p2 p3 q4)), .val (.int (p3 &&& (3 : Int32))), .val (.long (q4 &&& (9223372036854775807 : Int64))), .second, .val (.ref b15), .unset] [])) _
          refine XS.goto X26.here hx rfl (pc0 := 183) (pc' := 228) rfl (hb hby at_183) (by decide) (by decide) ?_
          show Steps p.tables e below (T26.setTop (mkF m 228 #[.val (.int p0), .val (.int p1), .val (.int p2), .val (.int p3), .val (.long q4), .second, .val (.int (m0_0 p0 p1 p2 p3 q4)), .val (.int (m0_1 p0 p1 p2 p3 q4)), .val (.int (m0_2 p0 p1 p2 p3 q4)), .val (.int (m0_3 p0 p1 p2 p3 q4)), .val (.int (p3 &&& (3 : Int32))), .val (.long (q4 &&& (9223372036854775807 : Int64))), .second, .val (.ref b15), .unset] [])) _
          refine XS.lload X26.here hx rfl (hb hby at_228) rfl ?_
          show Steps p.tables e below (T26.setTop (mkF m 230 #[.val (.int p0), .val (.int p1), .val (.int p2), .val (.int p3), .val (.long q4), .second, .val (.int (m0_0 p0 p1 p2 p3 q4)), .val (.int (m0_1 p0 p1 p2 p3 q4)), .val (.int (m0_2 p0 p1 p2 p3 q4)), .val (.int (m0_3 p0 p1 p2 p3 q4)), .val (.int (p3 &&& (3 : Int32))), .val (.long (q4 &&& (9223372036854775807 : Int64))), .second, .val (.ref b15), .unset] [(.long (q4 &&& (9223372036854775807 : Int64)))])) _
          refine XS.iload X26.here hx rfl (hb hby at_230) rfl ?_
          show Steps p.tables e below (T26.setTop (mkF m 232 #[.val (.int p0), .val (.int p1), .val (.int p2), .val (.int p3), .val (.long q4), .second, .val (.int (m0_0 p0 p1 p2 p3 q4)), .val (.int (m0_1 p0 p1 p2 p3 q4)), .val (.int (m0_2 p0 p1 p2 p3 q4)), .val (.int (m0_3 p0 p1 p2 p3 q4)), .val (.int (p3 &&& (3 : Int32))), .val (.long (q4 &&& (9223372036854775807 : Int64))), .second, .val (.ref b15), .unset] [(.int (m0_0 p0 p1 p2 p3 q4)), (.long (q4 &&& (9223372036854775807 : Int64)))])) _
          refine XS.i2l X26.here hx rfl (hb hby at_232) rfl ?_
          show Steps p.tables e below (T26.setTop (mkF m 233 #[.val (.int p0), .val (.int p1), .val (.int p2), .val (.int p3), .val (.long q4), .second, .val (.int (m0_0 p0 p1 p2 p3 q4)), .val (.int (m0_1 p0 p1 p2 p3 q4)), .val (.int (m0_2 p0 p1 p2 p3 q4)), .val (.int (m0_3 p0 p1 p2 p3 q4)), .val (.int (p3 &&& (3 : Int32))), .val (.long (q4 &&& (9223372036854775807 : Int64))), .second, .val (.ref b15), .unset] [(.long ((m0_0 p0 p1 p2 p3 q4).toInt64)), (.long (q4 &&& (9223372036854775807 : Int64)))])) _
          refine XS.lcmp X26.here hx rfl (hb hby at_233) rfl ?_
          exact kt
        refine own_back (b := T26.setTop (mkF m 288 #[.val (.int p0), .val (.int p1), .val (.int p2), .val (.int p3), .val (.long q4), .second, .val (.int (m0_0 p0 p1 p2 p3 q4)), .val (.int (m0_1 p0 p1 p2 p3 q4)), .val (.int (m0_2 p0 p1 p2 p3 q4)), .val (.int (m0_3 p0 p1 p2 p3 q4)), .val (.int (p3 &&& (3 : Int32))), .val (.long (q4 &&& (9223372036854775807 : Int64))), .second, .val (.ref b15), .val (.int (m0_5 p0 p1 p2 p3 q4))] [])) (fun t kt => ?_) ?_
        · by_cases hm234_27 : ((m0_0 p0 p1 p2 p3 q4).toInt64) < (q4 &&& (9223372036854775807 : Int64))
          · by_cases hm255_28 : ((m0_1 p0 p1 p2 p3 q4).toInt64) < (q4 &&& (9223372036854775807 : Int64))
            · rw [show (m0_5 p0 p1 p2 p3 q4) = (-1 : Int32) from by unfold m0_5; rw [if_pos hm234_27, if_pos hm255_28]] at kt
              show Steps p.tables e below (T26.setTop (mkF m 234 #[.val (.int p0), .val (.int p1), .val (.int p2), .val (.int p3), .val (.long q4), .second, .val (.int (m0_0 p0 p1 p2 p3 q4)), .val (.int (m0_1 p0 p1 p2 p3 q4)), .val (.int (m0_2 p0 p1 p2 p3 q4)), .val (.int (m0_3 p0 p1 p2 p3 q4)), .val (.int (p3 &&& (3 : Int32))), .val (.long (q4 &&& (9223372036854775807 : Int64))), .second, .val (.ref b15), .unset] [(.int (lcmpW (q4 &&& (9223372036854775807 : Int64)) ((m0_0 p0 p1 p2 p3 q4).toInt64)))])) _
              refine XS.ifYes X26.here hx rfl (pc0 := 234) (pc' := 243) rfl (hb hby at_234) rfl ((if0 _ _).trans (tlt ((lw_gt _ _).mpr hm234_27)).2.2.1) (by decide) (by decide) ?_
              show Steps p.tables e below (T26.setTop (mkF m 243 #[.val (.int p0), .val (.int p1), .val (.int p2), .val (.int p3), .val (.long q4), .second, .val (.int (m0_0 p0 p1 p2 p3 q4)), .val (.int (m0_1 p0 p1 p2 p3 q4)), .val (.int (m0_2 p0 p1 p2 p3 q4)), .val (.int (m0_3 p0 p1 p2 p3 q4)), .val (.int (p3 &&& (3 : Int32))), .val (.long (q4 &&& (9223372036854775807 : Int64))), .second, .val (.ref b15), .unset] [])) _
              refine XS.iload X26.here hx rfl (hb hby at_243) rfl ?_
              show Steps p.tables e below (T26.setTop (mkF m 245 #[.val (.int p0), .val (.int p1), .val (.int p2), .val (.int p3), .val (.long q4), .second, .val (.int (m0_0 p0 p1 p2 p3 q4)), .val (.int (m0_1 p0 p1 p2 p3 q4)), .val (.int (m0_2 p0 p1 p2 p3 q4)), .val (.int (m0_3 p0 p1 p2 p3 q4)), .val (.int (p3 &&& (3 : Int32))), .val (.long (q4 &&& (9223372036854775807 : Int64))), .second, .val (.ref b15), .unset] [(.int (m0_3 p0 p1 p2 p3 q4))])) _
              refine XS.iconst X26.here hx rfl (hb hby at_245) ?_
              show Steps p.tables e below (T26.setTop (mkF m 246 #[.val (.int p0), .val (.int p1), .val (.int p2), .val (.int p3), .val (.long q4), .second, .val (.int (m0_0 p0 p1 p2 p3 q4)), .val (.int (m0_1 p0 p1 p2 p3 q4)), .val (.int (m0_2 p0 p1 p2 p3 q4)), .val (.int (m0_3 p0 p1 p2 p3 q4)), .val (.int (p3 &&& (3 : Int32))), .val (.long (q4 &&& (9223372036854775807 : Int64))), .second, .val (.ref b15), .unset] [(.int (2 : Int32)), (.int (m0_3 p0 p1 p2 p3 q4))])) _
              refine XS.icmpNo X26.here hx rfl (hb hby at_246) rfl (flt (by rw [hc147_14]; decide)).1 ?_
              show Steps p.tables e below (T26.setTop (mkF m 249 #[.val (.int p0), .val (.int p1), .val (.int p2), .val (.int p3), .val (.long q4), .second, .val (.int (m0_0 p0 p1 p2 p3 q4)), .val (.int (m0_1 p0 p1 p2 p3 q4)), .val (.int (m0_2 p0 p1 p2 p3 q4)), .val (.int (m0_3 p0 p1 p2 p3 q4)), .val (.int (p3 &&& (3 : Int32))), .val (.long (q4 &&& (9223372036854775807 : Int64))), .second, .val (.ref b15), .unset] [])) _
              refine XS.lload X26.here hx rfl (hb hby at_249) rfl ?_
              show Steps p.tables e below (T26.setTop (mkF m 251 #[.val (.int p0), .val (.int p1), .val (.int p2), .val (.int p3), .val (.long q4), .second, .val (.int (m0_0 p0 p1 p2 p3 q4)), .val (.int (m0_1 p0 p1 p2 p3 q4)), .val (.int (m0_2 p0 p1 p2 p3 q4)), .val (.int (m0_3 p0 p1 p2 p3 q4)), .val (.int (p3 &&& (3 : Int32))), .val (.long (q4 &&& (9223372036854775807 : Int64))), .second, .val (.ref b15), .unset] [(.long (q4 &&& (9223372036854775807 : Int64)))])) _
              refine XS.iload X26.here hx rfl (hb hby at_251) rfl ?_
              show Steps p.tables e below (T26.setTop (mkF m 253 #[.val (.int p0), .val (.int p1), .val (.int p2), .val (.int p3), .val (.long q4), .second, .val (.int (m0_0 p0 p1 p2 p3 q4)), .val (.int (m0_1 p0 p1 p2 p3 q4)), .val (.int (m0_2 p0 p1 p2 p3 q4)), .val (.int (m0_3 p0 p1 p2 p3 q4)), .val (.int (p3 &&& (3 : Int32))), .val (.long (q4 &&& (9223372036854775807 : Int64))), .second, .val (.ref b15), .unset] [(.int (m0_1 p0 p1 p2 p3 q4)), (.long (q4 &&& (9223372036854775807 : Int64)))])) _
              refine XS.i2l X26.here hx rfl (hb hby at_253) rfl ?_
              show Steps p.tables e below (T26.setTop (mkF m 254 #[.val (.int p0), .val (.int p1), .val (.int p2), .val (.int p3), .val (.long q4), .second, .val (.int (m0_0 p0 p1 p2 p3 q4)), .val (.int (m0_1 p0 p1 p2 p3 q4)), .val (.int (m0_2 p0 p1 p2 p3 q4)), .val (.int (m0_3 p0 p1 p2 p3 q4)), .val (.int (p3 &&& (3 : Int32))), .val (.long (q4 &&& (9223372036854775807 : Int64))), .second, .val (.ref b15), .unset] [(.long ((m0_1 p0 p1 p2 p3 q4).toInt64)), (.long (q4 &&& (9223372036854775807 : Int64)))])) _
              refine XS.lcmp X26.here hx rfl (hb hby at_254) rfl ?_
              show Steps p.tables e below (T26.setTop (mkF m 255 #[.val (.int p0), .val (.int p1), .val (.int p2), .val (.int p3), .val (.long q4), .second, .val (.int (m0_0 p0 p1 p2 p3 q4)), .val (.int (m0_1 p0 p1 p2 p3 q4)), .val (.int (m0_2 p0 p1 p2 p3 q4)), .val (.int (m0_3 p0 p1 p2 p3 q4)), .val (.int (p3 &&& (3 : Int32))), .val (.long (q4 &&& (9223372036854775807 : Int64))), .second, .val (.ref b15), .unset] [(.int (lcmpW (q4 &&& (9223372036854775807 : Int64)) ((m0_1 p0 p1 p2 p3 q4).toInt64)))])) _
              refine XS.ifYes X26.here hx rfl (pc0 := 255) (pc' := 264) rfl (hb hby at_255) rfl ((if0 _ _).trans (tlt ((lw_gt _ _).mpr hm255_28)).2.2.1) (by decide) (by decide) ?_
              show Steps p.tables e below (T26.setTop (mkF m 264 #[.val (.int p0), .val (.int p1), .val (.int p2), .val (.int p3), .val (.long q4), .second, .val (.int (m0_0 p0 p1 p2 p3 q4)), .val (.int (m0_1 p0 p1 p2 p3 q4)), .val (.int (m0_2 p0 p1 p2 p3 q4)), .val (.int (m0_3 p0 p1 p2 p3 q4)), .val (.int (p3 &&& (3 : Int32))), .val (.long (q4 &&& (9223372036854775807 : Int64))), .second, .val (.ref b15), .unset] [])) _
              refine XS.iload X26.here hx rfl (hb hby at_264) rfl ?_
              show Steps p.tables e below (T26.setTop (mkF m 266 #[.val (.int p0), .val (.int p1), .val (.int p2), .val (.int p3), .val (.long q4), .second, .val (.int (m0_0 p0 p1 p2 p3 q4)), .val (.int (m0_1 p0 p1 p2 p3 q4)), .val (.int (m0_2 p0 p1 p2 p3 q4)), .val (.int (m0_3 p0 p1 p2 p3 q4)), .val (.int (p3 &&& (3 : Int32))), .val (.long (q4 &&& (9223372036854775807 : Int64))), .second, .val (.ref b15), .unset] [(.int (m0_3 p0 p1 p2 p3 q4))])) _
              refine XS.iconst X26.here hx rfl (hb hby at_266) ?_
              show Steps p.tables e below (T26.setTop (mkF m 267 #[.val (.int p0), .val (.int p1), .val (.int p2), .val (.int p3), .val (.long q4), .second, .val (.int (m0_0 p0 p1 p2 p3 q4)), .val (.int (m0_1 p0 p1 p2 p3 q4)), .val (.int (m0_2 p0 p1 p2 p3 q4)), .val (.int (m0_3 p0 p1 p2 p3 q4)), .val (.int (p3 &&& (3 : Int32))), .val (.long (q4 &&& (9223372036854775807 : Int64))), .second, .val (.ref b15), .unset] [(.int (3 : Int32)), (.int (m0_3 p0 p1 p2 p3 q4))])) _
              refine XS.icmpYes X26.here hx rfl (pc0 := 267) (pc' := 285) rfl (hb hby at_267) rfl (tlt (by rw [hc147_14]; decide)).1 (by decide) (by decide) ?_
              show Steps p.tables e below (T26.setTop (mkF m 285 #[.val (.int p0), .val (.int p1), .val (.int p2), .val (.int p3), .val (.long q4), .second, .val (.int (m0_0 p0 p1 p2 p3 q4)), .val (.int (m0_1 p0 p1 p2 p3 q4)), .val (.int (m0_2 p0 p1 p2 p3 q4)), .val (.int (m0_3 p0 p1 p2 p3 q4)), .val (.int (p3 &&& (3 : Int32))), .val (.long (q4 &&& (9223372036854775807 : Int64))), .second, .val (.ref b15), .unset] [])) _
              refine XS.iconst X26.here hx rfl (hb hby at_285) ?_
              show Steps p.tables e below (T26.setTop (mkF m 286 #[.val (.int p0), .val (.int p1), .val (.int p2), .val (.int p3), .val (.long q4), .second, .val (.int (m0_0 p0 p1 p2 p3 q4)), .val (.int (m0_1 p0 p1 p2 p3 q4)), .val (.int (m0_2 p0 p1 p2 p3 q4)), .val (.int (m0_3 p0 p1 p2 p3 q4)), .val (.int (p3 &&& (3 : Int32))), .val (.long (q4 &&& (9223372036854775807 : Int64))), .second, .val (.ref b15), .unset] [(.int (-1 : Int32))])) _
              refine XS.istore X26.here hx rfl (hb hby at_286) rfl (l' := #[.val (.int p0), .val (.int p1), .val (.int p2), .val (.int p3), .val (.long q4), .second, .val (.int (m0_0 p0 p1 p2 p3 q4)), .val (.int (m0_1 p0 p1 p2 p3 q4)), .val (.int (m0_2 p0 p1 p2 p3 q4)), .val (.int (m0_3 p0 p1 p2 p3 q4)), .val (.int (p3 &&& (3 : Int32))), .val (.long (q4 &&& (9223372036854775807 : Int64))), .second, .val (.ref b15), .val (.int (-1 : Int32))]) rfl ?_
              exact kt
            · rw [show (m0_5 p0 p1 p2 p3 q4) = (1 : Int32) from by unfold m0_5; rw [if_pos hm234_27, if_neg hm255_28]] at kt
              show Steps p.tables e below (T26.setTop (mkF m 234 #[.val (.int p0), .val (.int p1), .val (.int p2), .val (.int p3), .val (.long q4), .second, .val (.int (m0_0 p0 p1 p2 p3 q4)), .val (.int (m0_1 p0 p1 p2 p3 q4)), .val (.int (m0_2 p0 p1 p2 p3 q4)), .val (.int (m0_3 p0 p1 p2 p3 q4)), .val (.int (p3 &&& (3 : Int32))), .val (.long (q4 &&& (9223372036854775807 : Int64))), .second, .val (.ref b15), .unset] [(.int (lcmpW (q4 &&& (9223372036854775807 : Int64)) ((m0_0 p0 p1 p2 p3 q4).toInt64)))])) _
              refine XS.ifYes X26.here hx rfl (pc0 := 234) (pc' := 243) rfl (hb hby at_234) rfl ((if0 _ _).trans (tlt ((lw_gt _ _).mpr hm234_27)).2.2.1) (by decide) (by decide) ?_
              show Steps p.tables e below (T26.setTop (mkF m 243 #[.val (.int p0), .val (.int p1), .val (.int p2), .val (.int p3), .val (.long q4), .second, .val (.int (m0_0 p0 p1 p2 p3 q4)), .val (.int (m0_1 p0 p1 p2 p3 q4)), .val (.int (m0_2 p0 p1 p2 p3 q4)), .val (.int (m0_3 p0 p1 p2 p3 q4)), .val (.int (p3 &&& (3 : Int32))), .val (.long (q4 &&& (9223372036854775807 : Int64))), .second, .val (.ref b15), .unset] [])) _
              refine XS.iload X26.here hx rfl (hb hby at_243) rfl ?_
              show Steps p.tables e below (T26.setTop (mkF m 245 #[.val (.int p0), .val (.int p1), .val (.int p2), .val (.int p3), .val (.long q4), .second, .val (.int (m0_0 p0 p1 p2 p3 q4)), .val (.int (m0_1 p0 p1 p2 p3 q4)), .val (.int (m0_2 p0 p1 p2 p3 q4)), .val (.int (m0_3 p0 p1 p2 p3 q4)), .val (.int (p3 &&& (3 : Int32))), .val (.long (q4 &&& (9223372036854775807 : Int64))), .second, .val (.ref b15), .unset] [(.int (m0_3 p0 p1 p2 p3 q4))])) _
              refine XS.iconst X26.here hx rfl (hb hby at_245) ?_
              show Steps p.tables e below (T26.setTop (mkF m 246 #[.val (.int p0), .val (.int p1), .val (.int p2), .val (.int p3), .val (.long q4), .second, .val (.int (m0_0 p0 p1 p2 p3 q4)), .val (.int (m0_1 p0 p1 p2 p3 q4)), .val (.int (m0_2 p0 p1 p2 p3 q4)), .val (.int (m0_3 p0 p1 p2 p3 q4)), .val (.int (p3 &&& (3 : Int32))), .val (.long (q4 &&& (9223372036854775807 : Int64))), .second, .val (.ref b15), .unset] [(.int (2 : Int32)), (.int (m0_3 p0 p1 p2 p3 q4))])) _
              refine XS.icmpNo X26.here hx rfl (hb hby at_246) rfl (flt (by rw [hc147_14]; decide)).1 ?_
              show Steps p.tables e below (T26.setTop (mkF m 249 #[.val (.int p0), .val (.int p1), .val (.int p2), .val (.int p3), .val (.long q4), .second, .val (.int (m0_0 p0 p1 p2 p3 q4)), .val (.int (m0_1 p0 p1 p2 p3 q4)), .val (.int (m0_2 p0 p1 p2 p3 q4)), .val (.int (m0_3 p0 p1 p2 p3 q4)), .val (.int (p3 &&& (3 : Int32))), .val (.long (q4 &&& (9223372036854775807 : Int64))), .second, .val (.ref b15), .unset] [])) _
              refine XS.lload X26.here hx rfl (hb hby at_249) rfl ?_
              show Steps p.tables e below (T26.setTop (mkF m 251 #[.val (.int p0), .val (.int p1), .val (.int p2), .val (.int p3), .val (.long q4), .second, .val (.int (m0_0 p0 p1 p2 p3 q4)), .val (.int (m0_1 p0 p1 p2 p3 q4)), .val (.int (m0_2 p0 p1 p2 p3 q4)), .val (.int (m0_3 p0 p1 p2 p3 q4)), .val (.int (p3 &&& (3 : Int32))), .val (.long (q4 &&& (9223372036854775807 : Int64))), .second, .val (.ref b15), .unset] [(.long (q4 &&& (9223372036854775807 : Int64)))])) _
              refine XS.iload X26.here hx rfl (hb hby at_251) rfl ?_
              show Steps p.tables e below (T26.setTop (mkF m 253 #[.val (.int p0), .val (.int p1), .val (.int p2), .val (.int p3), .val (.long q4), .second, .val (.int (m0_0 p0 p1 p2 p3 q4)), .val (.int (m0_1 p0 p1 p2 p3 q4)), .val (.int (m0_2 p0 p1 p2 p3 q4)), .val (.int (m0_3 p0 p1 p2 p3 q4)), .val (.int (p3 &&& (3 : Int32))), .val (.long (q4 &&& (9223372036854775807 : Int64))), .second, .val (.ref b15), .unset] [(.int (m0_1 p0 p1 p2 p3 q4)), (.long (q4 &&& (9223372036854775807 : Int64)))])) _
              refine XS.i2l X26.here hx rfl (hb hby at_253) rfl ?_
              show Steps p.tables e below (T26.setTop (mkF m 254 #[.val (.int p0), .val (.int p1), .val (.int p2), .val (.int p3), .val (.long q4), .second, .val (.int (m0_0 p0 p1 p2 p3 q4)), .val (.int (m0_1 p0 p1 p2 p3 q4)), .val (.int (m0_2 p0 p1 p2 p3 q4)), .val (.int (m0_3 p0 p1 p2 p3 q4)), .val (.int (p3 &&& (3 : Int32))), .val (.long (q4 &&& (9223372036854775807 : Int64))), .second, .val (.ref b15), .unset] [(.long ((m0_1 p0 p1 p2 p3 q4).toInt64)), (.long (q4 &&& (9223372036854775807 : Int64)))])) _
              refine XS.lcmp X26.here hx rfl (hb hby at_254) rfl ?_
              show Steps p.tables e below (T26.setTop (mkF m 255 #[.val (.int p0), .val (.int p1), .val (.int p2), .val (.int p3), .val (.long q4), .second, .val (.int (m0_0 p0 p1 p2 p3 q4)), .val (.int (m0_1 p0 p1 p2 p3 q4)), .val (.int (m0_2 p0 p1 p2 p3 q4)), .val (.int (m0_3 p0 p1 p2 p3 q4)), .val (.int (p3 &&& (3 : Int32))), .val (.long (q4 &&& (9223372036854775807 : Int64))), .second, .val (.ref b15), .unset] [(.int (lcmpW (q4 &&& (9223372036854775807 : Int64)) ((m0_1 p0 p1 p2 p3 q4).toInt64)))])) _
              refine XS.ifNo X26.here hx rfl (hb hby at_255) rfl ((if0 _ _).trans (flt (fun q => hm255_28 ((lw_gt _ _).mp q))).2.2.1) ?_
              show Steps p.tables e below (T26.setTop (mkF m 258 #[.val (.int p0), .val (.int p1), .val (.int p2), .val (.int p3), .val (.long q4), .second, .val (.int (m0_0 p0 p1 p2 p3 q4)), .val (.int (m0_1 p0 p1 p2 p3 q4)), .val (.int (m0_2 p0 p1 p2 p3 q4)), .val (.int (m0_3 p0 p1 p2 p3 q4)), .val (.int (p3 &&& (3 : Int32))), .val (.long (q4 &&& (9223372036854775807 : Int64))), .second, .val (.ref b15), .unset] [])) _
              refine XS.iconst X26.here hx rfl (hb hby at_258) ?_
              show Steps p.tables e below (T26.setTop (mkF m 259 #[.val (.int p0), .val (.int p1), .val (.int p2), .val (.int p3), .val (.long q4), .second, .val (.int (m0_0 p0 p1 p2 p3 q4)), .val (.int (m0_1 p0 p1 p2 p3 q4)), .val (.int (m0_2 p0 p1 p2 p3 q4)), .val (.int (m0_3 p0 p1 p2 p3 q4)), .val (.int (p3 &&& (3 : Int32))), .val (.long (q4 &&& (9223372036854775807 : Int64))), .second, .val (.ref b15), .unset] [(.int (1 : Int32))])) _
              refine XS.istore X26.here hx rfl (hb hby at_259) rfl (l' := #[.val (.int p0), .val (.int p1), .val (.int p2), .val (.int p3), .val (.long q4), .second, .val (.int (m0_0 p0 p1 p2 p3 q4)), .val (.int (m0_1 p0 p1 p2 p3 q4)), .val (.int (m0_2 p0 p1 p2 p3 q4)), .val (.int (m0_3 p0 p1 p2 p3 q4)), .val (.int (p3 &&& (3 : Int32))), .val (.long (q4 &&& (9223372036854775807 : Int64))), .second, .val (.ref b15), .val (.int (1 : Int32))]) rfl ?_
              show Steps p.tables e below (T26.setTop (mkF m 261 #[.val (.int p0), .val (.int p1), .val (.int p2), .val (.int p3), .val (.long q4), .second, .val (.int (m0_0 p0 p1 p2 p3 q4)), .val (.int (m0_1 p0 p1 p2 p3 q4)), .val (.int (m0_2 p0 p1 p2 p3 q4)), .val (.int (m0_3 p0 p1 p2 p3 q4)), .val (.int (p3 &&& (3 : Int32))), .val (.long (q4 &&& (9223372036854775807 : Int64))), .second, .val (.ref b15), .val (.int (1 : Int32))] [])) _
              refine XS.goto X26.here hx rfl (pc0 := 261) (pc' := 288) rfl (hb hby at_261) (by decide) (by decide) ?_
              exact kt
          · rw [show (m0_5 p0 p1 p2 p3 q4) = (0 : Int32) from by unfold m0_5; rw [if_neg hm234_27]] at kt
            show Steps p.tables e below (T26.setTop (mkF m 234 #[.val (.int p0), .val (.int p1), .val (.int p2), .val (.int p3), .val (.long q4), .second, .val (.int (m0_0 p0 p1 p2 p3 q4)), .val (.int (m0_1 p0 p1 p2 p3 q4)), .val (.int (m0_2 p0 p1 p2 p3 q4)), .val (.int (m0_3 p0 p1 p2 p3 q4)), .val (.int (p3 &&& (3 : Int32))), .val (.long (q4 &&& (9223372036854775807 : Int64))), .second, .val (.ref b15), .unset] [(.int (lcmpW (q4 &&& (9223372036854775807 : Int64)) ((m0_0 p0 p1 p2 p3 q4).toInt64)))])) _
            refine XS.ifNo X26.here hx rfl (hb hby at_234) rfl ((if0 _ _).trans (flt (fun q => hm234_27 ((lw_gt _ _).mp q))).2.2.1) ?_
            show Steps p.tables e below (T26.setTop (mkF m 237 #[.val (.int p0), .val (.int p1), .val (.int p2), .val (.int p3), .val (.long q4), .second, .val (.int (m0_0 p0 p1 p2 p3 q4)), .val (.int (m0_1 p0 p1 p2 p3 q4)), .val (.int (m0_2 p0 p1 p2 p3 q4)), .val (.int (m0_3 p0 p1 p2 p3 q4)), .val (.int (p3 &&& (3 : Int32))), .val (.long (q4 &&& (9223372036854775807 : Int64))), .second, .val (.ref b15), .unset] [])) _
            refine XS.iconst X26.here hx rfl (hb hby at_237) ?_
            show Steps p.tables e below (T26.setTop (mkF m 238 #[.val (.int p0), .val (.int p1), .val (.int p2), .val (.int p3), .val (.long q4), .second, .val (.int (m0_0 p0 p1 p2 p3 q4)), .val (.int (m0_1 p0 p1 p2 p3 q4)), .val (.int (m0_2 p0 p1 p2 p3 q4)), .val (.int (m0_3 p0 p1 p2 p3 q4)), .val (.int (p3 &&& (3 : Int32))), .val (.long (q4 &&& (9223372036854775807 : Int64))), .second, .val (.ref b15), .unset] [(.int (0 : Int32))])) _
            refine XS.istore X26.here hx rfl (hb hby at_238) rfl (l' := #[.val (.int p0), .val (.int p1), .val (.int p2), .val (.int p3), .val (.long q4), .second, .val (.int (m0_0 p0 p1 p2 p3 q4)), .val (.int (m0_1 p0 p1 p2 p3 q4)), .val (.int (m0_2 p0 p1 p2 p3 q4)), .val (.int (m0_3 p0 p1 p2 p3 q4)), .val (.int (p3 &&& (3 : Int32))), .val (.long (q4 &&& (9223372036854775807 : Int64))), .second, .val (.ref b15), .val (.int (0 : Int32))]) rfl ?_
            show Steps p.tables e below (T26.setTop (mkF m 240 #[.val (.int p0), .val (.int p1), .val (.int p2), .val (.int p3), .val (.long q4), .second, .val (.int (m0_0 p0 p1 p2 p3 q4)), .val (.int (m0_1 p0 p1 p2 p3 q4)), .val (.int (m0_2 p0 p1 p2 p3 q4)), .val (.int (m0_3 p0 p1 p2 p3 q4)), .val (.int (p3 &&& (3 : Int32))), .val (.long (q4 &&& (9223372036854775807 : Int64))), .second, .val (.ref b15), .val (.int (0 : Int32))] [])) _
            refine XS.goto X26.here hx rfl (pc0 := 240) (pc' := 288) rfl (hb hby at_240) (by decide) (by decide) ?_
            exact kt
        obtain ⟨cq29, kq29, q29a, q29b, q29c⟩ := isOf hZ rfl P26_0
        obtain ⟨_, _, ⟨T29, L29, k29, n29⟩, -, X29, ⟨Lc29, hQ29, l29, y29, z29⟩, st29⟩ := X26.virtualBack hx (y := (⟨"com/example/byteloom/byteloom/SectionLayout", "sectionFor", "(J)I"⟩ : MethodName)) (z := (⟨"com/example/byteloom/byteloom/SectionLayout", "sectionFor", "(J)I"⟩ : MethodName)) hown (mvT hZ (hw _ (List.mem_of_getElem? (i := 42) rfl))) (mvT hZ (hw _ (List.mem_of_getElem? (i := 43) rfl))) (notFace_of_selects (args := #[]) (mvT hZ (hw _ (List.mem_of_getElem? (i := 45) rfl)))) (mvT hZ (hw _ (List.mem_of_getElem? (i := 45) rfl))) (mvT hZ (hw _ (List.mem_of_getElem? (i := 44) rfl))) (by decide) (backOf (W := 0) (rm4b l Z aw hw [] b15 (q4 &&& (9223372036854775807 : Int64)) bb26 k16 (m0_0 p0 p1 p2 p3 q4) (m0_1 p0 p1 p2 p3 q4) T26.heap n0 Z26 P26_1 P26_2 (own_mx q4)) hZ (hw _ (List.mem_of_getElem? (i := 46) rfl)) (hw _ (List.mem_of_getElem? (i := 6) rfl)) (by decide) (by decide)) q29a q29c (g := (mkF m 292 #[.val (.int p0), .val (.int p1), .val (.int p2), .val (.int p3), .val (.long q4), .second, .val (.int (m0_0 p0 p1 p2 p3 q4)), .val (.int (m0_1 p0 p1 p2 p3 q4)), .val (.int (m0_2 p0 p1 p2 p3 q4)), .val (.int (m0_3 p0 p1 p2 p3 q4)), .val (.int (p3 &&& (3 : Int32))), .val (.long (q4 &&& (9223372036854775807 : Int64))), .second, .val (.ref b15), .val (.int (m0_5 p0 p1 p2 p3 q4))] [(.long (q4 &&& (9223372036854775807 : Int64))), (.ref b15)])) rfl (by rw [hml]; rfl) (Steps.refl _) (argsL := [(.long (q4 &&& (9223372036854775807 : Int64)))]) (rest := []) (lenOf pd_0_1 rfl) rfl (by show 2 * 0 + _ ≤ _; exact Nat.le_of_eq rfl) (hb hby at_292) (fun _ _ => ⟨rfl, rfl, (by decide : 9 + 0 ≤ _), (by decide : 103 + 0 ≤ _)⟩)
        dsimp only [Pt.U, Pt.locs, Pt.cells, Pt.slots] at X29 l29 y29 z29 st29 hQ29
        rw [l29, y29, z29] at X29
        obtain ⟨rfl, Nq29, e29⟩ := hQ29
        have N29 := Fr.app N26 Nq29
        refine own_back (b := T29.setTop (mkF m 297 #[.val (.int p0), .val (.int p1), .val (.int p2), .val (.int p3), .val (.long q4), .second, .val (.int (m0_0 p0 p1 p2 p3 q4)), .val (.int (m0_1 p0 p1 p2 p3 q4)), .val (.int (m0_2 p0 p1 p2 p3 q4)), .val (.int (m0_3 p0 p1 p2 p3 q4)), .val (.int (p3 &&& (3 : Int32))), .val (.long (q4 &&& (9223372036854775807 : Int64))), .second, .val (.ref b15), .val (.int (m0_5 p0 p1 p2 p3 q4))] [(.int (m0_5 p0 p1 p2 p3 q4)), (.int (f4b (q4 &&& (9223372036854775807 : Int64)) (m0_0 p0 p1 p2 p3 q4) (m0_1 p0 p1 p2 p3 q4)))])) (fun t kt => ?_) ?_
        · show Steps p.tables e below (T26.setTop (mkF m 288 #[.val (.int p0), .val (.int p1), .val (.int p2), .val (.int p3), .val (.long q4), .second, .val (.int (m0_0 p0 p1 p2 p3 q4)), .val (.int (m0_1 p0 p1 p2 p3 q4)), .val (.int (m0_2 p0 p1 p2 p3 q4)), .val (.int (m0_3 p0 p1 p2 p3 q4)), .val (.int (p3 &&& (3 : Int32))), .val (.long (q4 &&& (9223372036854775807 : Int64))), .second, .val (.ref b15), .val (.int (m0_5 p0 p1 p2 p3 q4))] [])) _
          refine XS.aload X26.here hx rfl (hb hby at_288) rfl rfl ?_
          show Steps p.tables e below (T26.setTop (mkF m 290 #[.val (.int p0), .val (.int p1), .val (.int p2), .val (.int p3), .val (.long q4), .second, .val (.int (m0_0 p0 p1 p2 p3 q4)), .val (.int (m0_1 p0 p1 p2 p3 q4)), .val (.int (m0_2 p0 p1 p2 p3 q4)), .val (.int (m0_3 p0 p1 p2 p3 q4)), .val (.int (p3 &&& (3 : Int32))), .val (.long (q4 &&& (9223372036854775807 : Int64))), .second, .val (.ref b15), .val (.int (m0_5 p0 p1 p2 p3 q4))] [(.ref b15)])) _
          refine XS.lload X26.here hx rfl (hb hby at_290) rfl ?_
          show Steps p.tables e below (T26.setTop (mkF m 292 #[.val (.int p0), .val (.int p1), .val (.int p2), .val (.int p3), .val (.long q4), .second, .val (.int (m0_0 p0 p1 p2 p3 q4)), .val (.int (m0_1 p0 p1 p2 p3 q4)), .val (.int (m0_2 p0 p1 p2 p3 q4)), .val (.int (m0_3 p0 p1 p2 p3 q4)), .val (.int (p3 &&& (3 : Int32))), .val (.long (q4 &&& (9223372036854775807 : Int64))), .second, .val (.ref b15), .val (.int (m0_5 p0 p1 p2 p3 q4))] [(.long (q4 &&& (9223372036854775807 : Int64))), (.ref b15)])) _
          refine st29.trans ?_
          show Steps p.tables e below (T29.setTop (mkF m 295 #[.val (.int p0), .val (.int p1), .val (.int p2), .val (.int p3), .val (.long q4), .second, .val (.int (m0_0 p0 p1 p2 p3 q4)), .val (.int (m0_1 p0 p1 p2 p3 q4)), .val (.int (m0_2 p0 p1 p2 p3 q4)), .val (.int (m0_3 p0 p1 p2 p3 q4)), .val (.int (p3 &&& (3 : Int32))), .val (.long (q4 &&& (9223372036854775807 : Int64))), .second, .val (.ref b15), .val (.int (m0_5 p0 p1 p2 p3 q4))] [(.int (f4b (q4 &&& (9223372036854775807 : Int64)) (m0_0 p0 p1 p2 p3 q4) (m0_1 p0 p1 p2 p3 q4)))])) _
          refine XS.iload X29.here hx rfl (hb hby at_295) rfl ?_
          exact kt
        by_cases hc297_30 : (f4b (q4 &&& (9223372036854775807 : Int64)) (m0_0 p0 p1 p2 p3 q4) (m0_1 p0 p1 p2 p3 q4)) = (m0_5 p0 p1 p2 p3 q4)
        · refine own_back (b := T29.setTop (mkF m 305 #[.val (.int p0), .val (.int p1), .val (.int p2), .val (.int p3), .val (.long q4), .second, .val (.int (m0_0 p0 p1 p2 p3 q4)), .val (.int (m0_1 p0 p1 p2 p3 q4)), .val (.int (m0_2 p0 p1 p2 p3 q4)), .val (.int (m0_3 p0 p1 p2 p3 q4)), .val (.int (p3 &&& (3 : Int32))), .val (.long (q4 &&& (9223372036854775807 : Int64))), .second, .val (.ref b15), .val (.int (m0_5 p0 p1 p2 p3 q4))] [(.int (1 : Int32))])) (fun t kt => ?_) ?_
          · show Steps p.tables e below (T29.setTop (mkF m 297 #[.val (.int p0), .val (.int p1), .val (.int p2), .val (.int p3), .val (.long q4), .second, .val (.int (m0_0 p0 p1 p2 p3 q4)), .val (.int (m0_1 p0 p1 p2 p3 q4)), .val (.int (m0_2 p0 p1 p2 p3 q4)), .val (.int (m0_3 p0 p1 p2 p3 q4)), .val (.int (p3 &&& (3 : Int32))), .val (.long (q4 &&& (9223372036854775807 : Int64))), .second, .val (.ref b15), .val (.int (m0_5 p0 p1 p2 p3 q4))] [(.int (m0_5 p0 p1 p2 p3 q4)), (.int (f4b (q4 &&& (9223372036854775807 : Int64)) (m0_0 p0 p1 p2 p3 q4) (m0_1 p0 p1 p2 p3 q4)))])) _
            refine XS.icmpNo X29.here hx rfl (hb hby at_297) rfl (teq hc297_30).2 ?_
            show Steps p.tables e below (T29.setTop (mkF m 300 #[.val (.int p0), .val (.int p1), .val (.int p2), .val (.int p3), .val (.long q4), .second, .val (.int (m0_0 p0 p1 p2 p3 q4)), .val (.int (m0_1 p0 p1 p2 p3 q4)), .val (.int (m0_2 p0 p1 p2 p3 q4)), .val (.int (m0_3 p0 p1 p2 p3 q4)), .val (.int (p3 &&& (3 : Int32))), .val (.long (q4 &&& (9223372036854775807 : Int64))), .second, .val (.ref b15), .val (.int (m0_5 p0 p1 p2 p3 q4))] [])) _
            refine XS.iconst X29.here hx rfl (hb hby at_300) ?_
            show Steps p.tables e below (T29.setTop (mkF m 301 #[.val (.int p0), .val (.int p1), .val (.int p2), .val (.int p3), .val (.long q4), .second, .val (.int (m0_0 p0 p1 p2 p3 q4)), .val (.int (m0_1 p0 p1 p2 p3 q4)), .val (.int (m0_2 p0 p1 p2 p3 q4)), .val (.int (m0_3 p0 p1 p2 p3 q4)), .val (.int (p3 &&& (3 : Int32))), .val (.long (q4 &&& (9223372036854775807 : Int64))), .second, .val (.ref b15), .val (.int (m0_5 p0 p1 p2 p3 q4))] [(.int (1 : Int32))])) _
            refine XS.goto X29.here hx rfl (pc0 := 301) (pc' := 305) rfl (hb hby at_301) (by decide) (by decide) ?_
            exact kt
          obtain ⟨fs, hr, hrun, hended, hEnd⟩ := Stand.leaveW (s := s) X29 hS26 (by rw [e29]; exact (Nat.le_refl _)) (v := some (.int (1 : Int32))) (fun h => by rw [Bd.returns] at h; cases h) (BodyLoose.notSynchronized Bd)
          refine ⟨_, _, ?_, hrun, hended, _, _, rfl, ?_, own_endW hEnd (by decide) (by decide)⟩
          · show Steps p.tables e below (T29.setTop (mkF m 305 #[.val (.int p0), .val (.int p1), .val (.int p2), .val (.int p3), .val (.long q4), .second, .val (.int (m0_0 p0 p1 p2 p3 q4)), .val (.int (m0_1 p0 p1 p2 p3 q4)), .val (.int (m0_2 p0 p1 p2 p3 q4)), .val (.int (m0_3 p0 p1 p2 p3 q4)), .val (.int (p3 &&& (3 : Int32))), .val (.long (q4 &&& (9223372036854775807 : Int64))), .second, .val (.ref b15), .val (.int (m0_5 p0 p1 p2 p3 q4))] [(.int (1 : Int32))])) _
            exact retN X29 hx (t := .boolean) Bd.returns (by simp) (hb hby at_305) hr
          · show Q0 Z p0 p1 p2 p3 q4 h0 n0 _ T29.heap _
            rw [e29]
            exact ⟨by rw [show f0 p0 p1 p2 p3 q4 = (1 : Int32) from by unfold f0; rw [if_pos hc51_1, if_neg hc114_2, if_pos hc147_14, if_pos hc297_30]], N29⟩
        · refine own_back (b := T29.setTop (mkF m 305 #[.val (.int p0), .val (.int p1), .val (.int p2), .val (.int p3), .val (.long q4), .second, .val (.int (m0_0 p0 p1 p2 p3 q4)), .val (.int (m0_1 p0 p1 p2 p3 q4)), .val (.int (m0_2 p0 p1 p2 p3 q4)), .val (.int (m0_3 p0 p1 p2 p3 q4)), .val (.int (p3 &&& (3 : Int32))), .val (.long (q4 &&& (9223372036854775807 : Int64))), .second, .val (.ref b15), .val (.int (m0_5 p0 p1 p2 p3 q4))] [(.int (0 : Int32))])) (fun t kt => ?_) ?_
          · show Steps p.tables e below (T29.setTop (mkF m 297 #[.val (.int p0), .val (.int p1), .val (.int p2), .val (.int p3), .val (.long q4), .second, .val (.int (m0_0 p0 p1 p2 p3 q4)), .val (.int (m0_1 p0 p1 p2 p3 q4)), .val (.int (m0_2 p0 p1 p2 p3 q4)), .val (.int (m0_3 p0 p1 p2 p3 q4)), .val (.int (p3 &&& (3 : Int32))), .val (.long (q4 &&& (9223372036854775807 : Int64))), .second, .val (.ref b15), .val (.int (m0_5 p0 p1 p2 p3 q4))] [(.int (m0_5 p0 p1 p2 p3 q4)), (.int (f4b (q4 &&& (9223372036854775807 : Int64)) (m0_0 p0 p1 p2 p3 q4) (m0_1 p0 p1 p2 p3 q4)))])) _
            refine XS.icmpYes X29.here hx rfl (pc0 := 297) (pc' := 304) rfl (hb hby at_297) rfl (feq hc297_30).2 (by decide) (by decide) ?_
            show Steps p.tables e below (T29.setTop (mkF m 304 #[.val (.int p0), .val (.int p1), .val (.int p2), .val (.int p3), .val (.long q4), .second, .val (.int (m0_0 p0 p1 p2 p3 q4)), .val (.int (m0_1 p0 p1 p2 p3 q4)), .val (.int (m0_2 p0 p1 p2 p3 q4)), .val (.int (m0_3 p0 p1 p2 p3 q4)), .val (.int (p3 &&& (3 : Int32))), .val (.long (q4 &&& (9223372036854775807 : Int64))), .second, .val (.ref b15), .val (.int (m0_5 p0 p1 p2 p3 q4))] [])) _
            refine XS.iconst X29.here hx rfl (hb hby at_304) ?_
            exact kt
          obtain ⟨fs, hr, hrun, hended, hEnd⟩ := Stand.leaveW (s := s) X29 hS26 (by rw [e29]; exact (Nat.le_refl _)) (v := some (.int (0 : Int32))) (fun h => by rw [Bd.returns] at h; cases h) (BodyLoose.notSynchronized Bd)
          refine ⟨_, _, ?_, hrun, hended, _, _, rfl, ?_, own_endW hEnd (by decide) (by decide)⟩
          · show Steps p.tables e below (T29.setTop (mkF m 305 #[.val (.int p0), .val (.int p1), .val (.int p2), .val (.int p3), .val (.long q4), .second, .val (.int (m0_0 p0 p1 p2 p3 q4)), .val (.int (m0_1 p0 p1 p2 p3 q4)), .val (.int (m0_2 p0 p1 p2 p3 q4)), .val (.int (m0_3 p0 p1 p2 p3 q4)), .val (.int (p3 &&& (3 : Int32))), .val (.long (q4 &&& (9223372036854775807 : Int64))), .second, .val (.ref b15), .val (.int (m0_5 p0 p1 p2 p3 q4))] [(.int (0 : Int32))])) _
            exact retN X29 hx (t := .boolean) Bd.returns (by simp) (hb hby at_305) hr
          · show Q0 Z p0 p1 p2 p3 q4 h0 n0 _ T29.heap _
            rw [e29]
            exact ⟨by rw [show f0 p0 p1 p2 p3 q4 = (0 : Int32) from by unfold f0; rw [if_pos hc51_1, if_neg hc114_2, if_pos hc147_14, if_neg hc297_30]], N29⟩
      · obtain ⟨T31, h31, X31, e31, E31, A31, D31, -, st31⟩ := newO X0 hx hZ hown (hw _ (List.mem_of_getElem? (i := 4) rfl)) (hw _ (List.mem_of_getElem? (i := 5) rfl)) (hw _ (List.mem_of_getElem? (i := 6) rfl)) e0 (g := (mkF m 186 #[.val (.int p0), .val (.int p1), .val (.int p2), .val (.int p3), .val (.long q4), .second, .val (.int (m0_0 p0 p1 p2 p3 q4)), .val (.int (m0_1 p0 p1 p2 p3 q4)), .val (.int (m0_2 p0 p1 p2 p3 q4)), .val (.int (m0_3 p0 p1 p2 p3 q4)), .val (.int (p3 &&& (3 : Int32))), .val (.long (q4 &&& (9223372036854775807 : Int64))), .second, .unset, .unset] [])) rfl (hb hby at_186) (by decide) (by decide)
        obtain ⟨b31, g31⟩ : ∃ z, z = h0.size := ⟨_, rfl⟩
        rw [← g31] at A31 D31 st31
        have lo31 : n0 ≤ b31 := Nat.le_trans Z0 (Nat.le_of_eq g31.symm)
        have sz31 : h0.size ≤ b31 := Nat.le_trans (Nat.le_refl _) (Nat.le_of_eq g31.symm)
        have K31 : Keep h0 h31 [] := (Keep.refl h0 _).ext E31
        have Z31 : n0 ≤ h31.size := Nat.le_trans Z0 E31.1
        have F31_blockSizes : Fld Z h31 b31 "com/example/byteloom/byteloom/SectionLayout" "blockSizes" "[I" .null := D31 (Or.inr (hw _ (List.mem_of_getElem? (i := 37) rfl))) (ty := (.array .int)) (by decide)
        have F31_blockCounts : Fld Z h31 b31 "com/example/byteloom/byteloom/SectionLayout" "blockCounts" "[I" .null := D31 (Or.inr (hw _ (List.mem_of_getElem? (i := 39) rfl))) (ty := (.array .int)) (by decide)
        have F31_reservedBytes : Fld Z h31 b31 "com/example/byteloom/byteloom/SectionLayout" "reservedBytes" "J" (.long (0 : Int64)) := D31 (Or.inr (hw _ (List.mem_of_getElem? (i := 41) rfl))) (ty := .long) (by decide)
        obtain ⟨T32, h32, k32, X32, e32, E32, A32, B32, st32⟩ := newPE X31 hx hZ (hw _ (List.mem_of_getElem? (i := 7) rfl)) e31 (g := (mkF m 191 #[.val (.int p0), .val (.int p1), .val (.int p2), .val (.int p3), .val (.long q4), .second, .val (.int (m0_0 p0 p1 p2 p3 q4)), .val (.int (m0_1 p0 p1 p2 p3 q4)), .val (.int (m0_2 p0 p1 p2 p3 q4)), .val (.int (m0_3 p0 p1 p2 p3 q4)), .val (.int (p3 &&& (3 : Int32))), .val (.long (q4 &&& (9223372036854775807 : Int64))), .second, .unset, .unset] [(.int (3 : Int32)), (.ref b31), (.ref b31)])) rfl (hb hby at_191) rfl (by decide) (cap := 3) (by decide) (by decide) (by decide) (by decide) (ad := "[I") (by decide)
        obtain ⟨b32, g32⟩ : ∃ z, z = h31.size := ⟨_, rfl⟩
        rw [← g32] at A32 B32 st32
        have ne32_b31 : b31 ≠ b32 := Nat.ne_of_lt (Nat.lt_of_lt_of_le A31.lt (Nat.le_of_eq g32.symm))
        have lo32 : n0 ≤ b32 := Nat.le_trans Z31 (Nat.le_of_eq g32.symm)
        have sz32 : h0.size ≤ b32 := Nat.le_trans K31.1 (Nat.le_of_eq g32.symm)
        have f32_0 := A31.ext E32
        have f32_1 := F31_blockSizes.ext E32
        have f32_2 := F31_blockCounts.ext E32
        have f32_3 := F31_reservedBytes.ext E32
        have K32 := K31.ext E32
        have Z32 : n0 ≤ h32.size := Nat.le_trans Z31 E32.1
        have V32 : Arv Z h32 b32 k32 .int (3 : Int32) [(.int (0 : Int32)), (.int (0 : Int32)), (.int (0 : Int32))] (.int (0 : Int32)) := (Arv.new A32 (by decide)).pad (pad_rep [] (.int (0 : Int32)) 3)
        obtain ⟨cl33, Ar33, qk33, S33, N33', Hh33, G33⟩ := own_same V32
        have hin33 : ¬ ((0 : Int32) < 0 ∨ cl33.slots.size ≤ ((0 : Int32)).toNatClampNeg) := inb_of S33 ⟨by decide, by decide⟩
        obtain ⟨T34, h34, X34, e34, W34, st34⟩ := stI X32 hx hZ e32 Ar33 (j := (0 : Int32)) hin33 (g := (mkF m 197 #[.val (.int p0), .val (.int p1), .val (.int p2), .val (.int p3), .val (.long q4), .second, .val (.int (m0_0 p0 p1 p2 p3 q4)), .val (.int (m0_1 p0 p1 p2 p3 q4)), .val (.int (m0_2 p0 p1 p2 p3 q4)), .val (.int (m0_3 p0 p1 p2 p3 q4)), .val (.int (p3 &&& (3 : Int32))), .val (.long (q4 &&& (9223372036854775807 : Int64))), .second, .unset, .unset] [(.int (m0_0 p0 p1 p2 p3 q4)), (.int (0 : Int32)), (.ref b32), (.ref b32), (.ref b31), (.ref b31)])) rfl rfl (hb hby at_197)
        have V34 : Arv Z h34 b32 k32 .int (3 : Int32) [(.int (m0_0 p0 p1 p2 p3 q4)), (.int (0 : Int32)), (.int (0 : Int32))] (.int (0 : Int32)) := Arv.set Ar33 qk33 S33 N33' Hh33 G33 rfl W34 0 rfl (Nat.le_of_ble_eq_true rfl)
        have f34_0 := f32_0.wr W34
        have f34_1 := f32_1.other W34 (Or.inl ne32_b31)
        have f34_2 := f32_2.other W34 (Or.inl ne32_b31)
        have f34_3 := f32_3.other W34 (Or.inl ne32_b31)
        have f34_4 := B32.wr W34
        have K34 : Keep h0 h34 [] := K32.wr W34 (Or.inr sz32)
        have Z34 : n0 ≤ h34.size := Nat.le_trans Z32 (Keep.of_wr W34).1
        have N34 := Fr.snoc X34 N0 lo32
        obtain ⟨cl35, Ar35, qk35, S35, N35', Hh35, G35⟩ := own_same V34
        have hin35 : ¬ ((1 : Int32) < 0 ∨ cl35.slots.size ≤ ((1 : Int32)).toNatClampNeg) := inb_of S35 ⟨by decide, by decide⟩
        obtain ⟨T36, h36, X36, e36, W36, st36⟩ := stI X34 hx hZ e34 Ar35 (j := (1 : Int32)) hin35 (g := (mkF m 202 #[.val (.int p0), .val (.int p1), .val (.int p2), .val (.int p3), .val (.long q4), .second, .val (.int (m0_0 p0 p1 p2 p3 q4)), .val (.int (m0_1 p0 p1 p2 p3 q4)), .val (.int (m0_2 p0 p1 p2 p3 q4)), .val (.int (m0_3 p0 p1 p2 p3 q4)), .val (.int (p3 &&& (3 : Int32))), .val (.long (q4 &&& (9223372036854775807 : Int64))), .second, .unset, .unset] [(.int (m0_1 p0 p1 p2 p3 q4)), (.int (1 : Int32)), (.ref b32), (.ref b32), (.ref b31), (.ref b31)])) rfl rfl (hb hby at_202)
        have V36 : Arv Z h36 b32 k32 .int (3 : Int32) [(.int (m0_0 p0 p1 p2 p3 q4)), (.int (m0_1 p0 p1 p2 p3 q4)), (.int (0 : Int32))] (.int (0 : Int32)) := Arv.set Ar35 qk35 S35 N35' Hh35 G35 rfl W36 1 rfl (Nat.le_of_ble_eq_true rfl)
        have f36_0 := f34_0.wr W36
        have f36_1 := f34_1.other W36 (Or.inl ne32_b31)
        have f36_2 := f34_2.other W36 (Or.inl ne32_b31)
        have f36_3 := f34_3.other W36 (Or.inl ne32_b31)
        have f36_4 := f34_4.wr W36
        have K36 : Keep h0 h36 [] := K34.wr W36 (Or.inr sz32)
        have Z36 : n0 ≤ h36.size := Nat.le_trans Z34 (Keep.of_wr W36).1
        have N36 := Fr.snoc X36 N34 lo32
        obtain ⟨cl37, Ar37, qk37, S37, N37', Hh37, G37⟩ := own_same V36
        have hin37 : ¬ ((2 : Int32) < 0 ∨ cl37.slots.size ≤ ((2 : Int32)).toNatClampNeg) := inb_of S37 ⟨by decide, by decide⟩
        obtain ⟨T38, h38, X38, e38, W38, st38⟩ := stI X36 hx hZ e36 Ar37 (j := (2 : Int32)) hin37 (g := (mkF m 207 #[.val (.int p0), .val (.int p1), .val (.int p2), .val (.int p3), .val (.long q4), .second, .val (.int (m0_0 p0 p1 p2 p3 q4)), .val (.int (m0_1 p0 p1 p2 p3 q4)), .val (.int (m0_2 p0 p1 p2 p3 q4)), .val (.int (m0_3 p0 p1 p2 p3 q4)), .val (.int (p3 &&& (3 : Int32))), .val (.long (q4 &&& (9223372036854775807 : Int64))), .second, .unset, .unset] [(.int (m0_2 p0 p1 p2 p3 q4)), (.int (2 : Int32)), (.ref b32), (.ref b32), (.ref b31), (.ref b31)])) rfl rfl (hb hby at_207)
        have V38 : Arv Z h38 b32 k32 .int (3 : Int32) [(.int (m0_0 p0 p1 p2 p3 q4)), (.int (m0_1 p0 p1 p2 p3 q4)), (.int (m0_2 p0 p1 p2 p3 q4))] (.int (0 : Int32)) := Arv.set Ar37 qk37 S37 N37' Hh37 G37 rfl W38 2 rfl (Nat.le_of_ble_eq_true rfl)
        have f38_0 := f36_0.wr W38
        have f38_1 := f36_1.other W38 (Or.inl ne32_b31)
        have f38_2 := f36_2.other W38 (Or.inl ne32_b31)
        have f38_3 := f36_3.other W38 (Or.inl ne32_b31)
        have f38_4 := f36_4.wr W38
        have K38 : Keep h0 h38 [] := K36.wr W38 (Or.inr sz32)
        have Z38 : n0 ≤ h38.size := Nat.le_trans Z36 (Keep.of_wr W38).1
        have N38 := Fr.snoc X38 N36 lo32
        obtain ⟨T39, h39, k39, X39, e39, E39, A39, B39, st39⟩ := newPE X38 hx hZ (hw _ (List.mem_of_getElem? (i := 7) rfl)) e38 (g := (mkF m 209 #[.val (.int p0), .val (.int p1), .val (.int p2), .val (.int p3), .val (.long q4), .second, .val (.int (m0_0 p0 p1 p2 p3 q4)), .val (.int (m0_1 p0 p1 p2 p3 q4)), .val (.int (m0_2 p0 p1 p2 p3 q4)), .val (.int (m0_3 p0 p1 p2 p3 q4)), .val (.int (p3 &&& (3 : Int32))), .val (.long (q4 &&& (9223372036854775807 : Int64))), .second, .unset, .unset] [(.int (3 : Int32)), (.ref b32), (.ref b31), (.ref b31)])) rfl (hb hby at_209) rfl (by decide) (cap := 3) (by decide) (by decide) (by decide) (by decide) (ad := "[I") (by decide)
        obtain ⟨b39, g39⟩ : ∃ z, z = h38.size := ⟨_, rfl⟩
        rw [← g39] at A39 B39 st39
        have ne39_b31 : b31 ≠ b39 := Nat.ne_of_lt (Nat.lt_of_lt_of_le f38_0.lt (Nat.le_of_eq g39.symm))
        have ne39_b32 : b32 ≠ b39 := Nat.ne_of_lt (Nat.lt_of_lt_of_le f38_4.lt (Nat.le_of_eq g39.symm))
        have lo39 : n0 ≤ b39 := Nat.le_trans Z38 (Nat.le_of_eq g39.symm)
        have sz39 : h0.size ≤ b39 := Nat.le_trans K38.1 (Nat.le_of_eq g39.symm)
        have f39_0 := f38_0.ext E39
        have f39_1 := f38_1.ext E39
        have f39_2 := f38_2.ext E39
        have f39_3 := f38_3.ext E39
        have f39_4 := f38_4.ext E39
        have f39_5 := V38.ext E39
        have K39 := K38.ext E39
        have Z39 : n0 ≤ h39.size := Nat.le_trans Z38 E39.1
        have V39 : Arv Z h39 b39 k39 .int (3 : Int32) [(.int (0 : Int32)), (.int (0 : Int32)), (.int (0 : Int32))] (.int (0 : Int32)) := (Arv.new A39 (by decide)).pad (pad_rep [] (.int (0 : Int32)) 3)
        obtain ⟨cl40, Ar40, qk40, S40, N40', Hh40, G40⟩ := own_same V39
        have hin40 : ¬ ((0 : Int32) < 0 ∨ cl40.slots.size ≤ ((0 : Int32)).toNatClampNeg) := inb_of S40 ⟨by decide, by decide⟩
        obtain ⟨T41, h41, X41, e41, W41, st41⟩ := stI X39 hx hZ e39 Ar40 (j := (0 : Int32)) hin40 (g := (mkF m 214 #[.val (.int p0), .val (.int p1), .val (.int p2), .val (.int p3), .val (.long q4), .second, .val (.int (m0_0 p0 p1 p2 p3 q4)), .val (.int (m0_1 p0 p1 p2 p3 q4)), .val (.int (m0_2 p0 p1 p2 p3 q4)), .val (.int (m0_3 p0 p1 p2 p3 q4)), .val (.int (p3 &&& (3 : Int32))), .val (.long (q4 &&& (9223372036854775807 : Int64))), .second, .unset, .unset] [(.int (1 : Int32)), (.int (0 : Int32)), (.ref b39), (.ref b39), (.ref b32), (.ref b31), (.ref b31)])) rfl rfl (hb hby at_214)
        have V41 : Arv Z h41 b39 k39 .int (3 : Int32) [(.int (1 : Int32)), (.int (0 : Int32)), (.int (0 : Int32))] (.int (0 : Int32)) := Arv.set Ar40 qk40 S40 N40' Hh40 G40 rfl W41 0 rfl (Nat.le_of_ble_eq_true rfl)
        have f41_0 := f39_0.wr W41
        have f41_1 := f39_1.other W41 (Or.inl ne39_b31)
        have f41_2 := f39_2.other W41 (Or.inl ne39_b31)
        have f41_3 := f39_3.other W41 (Or.inl ne39_b31)
        have f41_4 := f39_4.wr W41
        have f41_5 := f39_5.other W41 ne39_b32
        have f41_6 := B39.wr W41
        have K41 : Keep h0 h41 [] := K39.wr W41 (Or.inr sz39)
        have Z41 : n0 ≤ h41.size := Nat.le_trans Z39 (Keep.of_wr W41).1
        have N41 := Fr.snoc X41 N38 lo39
        obtain ⟨cl42, Ar42, qk42, S42, N42', Hh42, G42⟩ := own_same V41
        have hin42 : ¬ ((1 : Int32) < 0 ∨ cl42.slots.size ≤ ((1 : Int32)).toNatClampNeg) := inb_of S42 ⟨by decide, by decide⟩
        obtain ⟨T43, h43, X43, e43, W43, st43⟩ := stI X41 hx hZ e41 Ar42 (j := (1 : Int32)) hin42 (g := (mkF m 218 #[.val (.int p0), .val (.int p1), .val (.int p2), .val (.int p3), .val (.long q4), .second, .val (.int (m0_0 p0 p1 p2 p3 q4)), .val (.int (m0_1 p0 p1 p2 p3 q4)), .val (.int (m0_2 p0 p1 p2 p3 q4)), .val (.int (m0_3 p0 p1 p2 p3 q4)), .val (.int (p3 &&& (3 : Int32))), .val (.long (q4 &&& (9223372036854775807 : Int64))), .second, .unset, .unset] [(.int (1 : Int32)), (.int (1 : Int32)), (.ref b39), (.ref b39), (.ref b32), (.ref b31), (.ref b31)])) rfl rfl (hb hby at_218)
        have V43 : Arv Z h43 b39 k39 .int (3 : Int32) [(.int (1 : Int32)), (.int (1 : Int32)), (.int (0 : Int32))] (.int (0 : Int32)) := Arv.set Ar42 qk42 S42 N42' Hh42 G42 rfl W43 1 rfl (Nat.le_of_ble_eq_true rfl)
        have f43_0 := f41_0.wr W43
        have f43_1 := f41_1.other W43 (Or.inl ne39_b31)
        have f43_2 := f41_2.other W43 (Or.inl ne39_b31)
        have f43_3 := f41_3.other W43 (Or.inl ne39_b31)
        have f43_4 := f41_4.wr W43
        have f43_5 := f41_5.other W43 ne39_b32
        have f43_6 := f41_6.wr W43
        have K43 : Keep h0 h43 [] := K41.wr W43 (Or.inr sz39)
        have Z43 : n0 ≤ h43.size := Nat.le_trans Z41 (Keep.of_wr W43).1
        have N43 := Fr.snoc X43 N41 lo39
        obtain ⟨cl44, Ar44, qk44, S44, N44', Hh44, G44⟩ := own_same V43
        have hin44 : ¬ ((2 : Int32) < 0 ∨ cl44.slots.size ≤ ((2 : Int32)).toNatClampNeg) := inb_of S44 ⟨by decide, by decide⟩
        obtain ⟨T45, h45, X45, e45, W45, st45⟩ := stI X43 hx hZ e43 Ar44 (j := (2 : Int32)) hin44 (g := (mkF m 222 #[.val (.int p0), .val (.int p1), .val (.int p2), .val (.int p3), .val (.long q4), .second, .val (.int (m0_0 p0 p1 p2 p3 q4)), .val (.int (m0_1 p0 p1 p2 p3 q4)), .val (.int (m0_2 p0 p1 p2 p3 q4)), .val (.int (m0_3 p0 p1 p2 p3 q4)), .val (.int (p3 &&& (3 : Int32))), .val (.long (q4 &&& (9223372036854775807 : Int64))), .second, .unset, .unset] [(.int (1 : Int32)), (.int (2 : Int32)), (.ref b39), (.ref b39), (.ref b32), (.ref b31), (.ref b31)])) rfl rfl (hb hby at_222)
        have V45 : Arv Z h45 b39 k39 .int (3 : Int32) [(.int (1 : Int32)), (.int (1 : Int32)), (.int (1 : Int32))] (.int (0 : Int32)) := Arv.set Ar44 qk44 S44 N44' Hh44 G44 rfl W45 2 rfl (Nat.le_of_ble_eq_true rfl)
        have f45_0 := f43_0.wr W45
        have f45_1 := f43_1.other W45 (Or.inl ne39_b31)
        have f45_2 := f43_2.other W45 (Or.inl ne39_b31)
        have f45_3 := f43_3.other W45 (Or.inl ne39_b31)
        have f45_4 := f43_4.wr W45
        have f45_5 := f43_5.other W45 ne39_b32
        have f45_6 := f43_6.wr W45
        have K45 : Keep h0 h45 [] := K43.wr W45 (Or.inr sz39)
        have Z45 : n0 ≤ h45.size := Nat.le_trans Z43 (Keep.of_wr W45).1
        have N45 := Fr.snoc X45 N43 lo39
        obtain ⟨_, _, ⟨T46, L46, k46, n46⟩, -, X46, hS46, hg46, ⟨Lc46, hQ46, l46, y46, z46⟩, st46⟩ := X45.specialBackS hx (y := (⟨"com/example/byteloom/byteloom/SectionLayout", "<init>", "([I[I)V"⟩ : MethodName)) rfl hown (mvT hZ (hw _ (List.mem_of_getElem? (i := 8) rfl))) (mvT hZ (hw _ (List.mem_of_getElem? (i := 9) rfl))) (mvT hZ (hw _ (List.mem_of_getElem? (i := 10) rfl))) (by decide) (backOfS (W := 1) (rm1c l Z aw hw [] b31 b32 b39 k32 k39 (m0_0 p0 p1 p2 p3 q4) (m0_1 p0 p1 p2 p3 q4) (m0_2 p0 p1 p2 p3 q4) h45 n0 Z45 f45_1 f45_2 f45_3 f45_0 lo31 f45_5 V45 f45_4 f45_6 (Ne.symm ne32_b31) (Ne.symm ne39_b31) (own_g0 p0 p1 p2 p3 q4) (own_g1 p0 p1 p2 p3 q4) (own_g2 p0 p1 p2 p3 q4) (own_l01 p0 p1 p2 p3 q4) (own_l12 p0 p1 p2 p3 q4)) hZ (hw _ (List.mem_of_getElem? (i := 10) rfl)) (hw _ (List.mem_of_getElem? (i := 6) rfl)) (by decide) (by decide)) (g := (mkF m 223 #[.val (.int p0), .val (.int p1), .val (.int p2), .val (.int p3), .val (.long q4), .second, .val (.int (m0_0 p0 p1 p2 p3 q4)), .val (.int (m0_1 p0 p1 p2 p3 q4)), .val (.int (m0_2 p0 p1 p2 p3 q4)), .val (.int (m0_3 p0 p1 p2 p3 q4)), .val (.int (p3 &&& (3 : Int32))), .val (.long (q4 &&& (9223372036854775807 : Int64))), .second, .unset, .unset] [(.ref b39), (.ref b32), (.ref b31), (.ref b31)])) rfl (by rw [hml]; rfl) (Steps.refl _) (a := b31) (argsL := [(.ref b32), (.ref b39)]) (rest := [(.ref b31)]) (lenOf pd_0_0 rfl) rfl (by show 2 * 0 + _ ≤ _; exact Nat.le_of_eq rfl) (hb hby at_223) (fun _ _ => ⟨rfl, e45, (by decide : 3 + 6 ≤ _), (by decide : 9 + 98 ≤ _)⟩)
        dsimp only [Pt.U, Pt.locs, Pt.cells, Pt.slots] at X46 l46 y46 z46 st46 hQ46
        rw [l46, y46, z46] at X46
        dsimp only [Pt.U, Pt.locs, Pt.cells, Pt.slots] at hS46 hg46
        have hZ : Z.Warmed39 (s.setVm T46.vm).vm := State.Warmed39.trans hZ hS46.1
        have hown : (s.setVm T46.vm).vm.findClass "com/example/byteloom/byteloom/SectionLayoutSectionForPinLaw" = some m.cls := by rw [show (s.setVm T46.vm).vm = T46.vm from rfl, hS46.1.alike.findClass]; exact hown
        obtain ⟨bb46, hQ46⟩ := hQ46
        obtain ⟨rfl, Nq46, Kq46, P46_0, P46_1, P46_2⟩ := hQ46
        have N46 := Fr.app N45 Nq46
        have f46_0 := f45_4.keep Kq46
        have f46_1 := f45_5.keep Kq46 (ninS (Ne.symm ne32_b31) nin0)
        have f46_2 := f45_6.keep Kq46
        have f46_3 := V45.keep Kq46 (ninS (Ne.symm ne39_b31) nin0)
        have K46 : Keep h0 T46.heap [] := K45.trans Kq46 (allS (Or.inr sz31) all0)
        have Z46 : n0 ≤ T46.heap.size := Nat.le_trans Z45 Kq46.1
        refine own_back (b := T46.setTop (mkF m 234 #[.val (.int p0), .val (.int p1), .val (.int p2), .val (.int p3), .val (.long q4), .second, .val (.int (m0_0 p0 p1 p2 p3 q4)), .val (.int (m0_1 p0 p1 p2 p3 q4)), .val (.int (m0_2 p0 p1 p2 p3 q4)), .val (.int (m0_3 p0 p1 p2 p3 q4)), .val (.int (p3 &&& (3 : Int32))), .val (.long (q4 &&& (9223372036854775807 : Int64))), .second, .val (.ref b31), .unset] [(.int (lcmpW (q4 &&& (9223372036854775807 : Int64)) ((m0_0 p0 p1 p2 p3 q4).toInt64)))])) (fun t kt => ?_) ?_
        · show Steps p.tables e below (s₁.setTop (mkF m 147 #[.val (.int p0), .val (.int p1), .val (.int p2), .val (.int p3), .val (.long q4), .second, .val (.int (m0_0 p0 p1 p2 p3 q4)), .val (.int (m0_1 p0 p1 p2 p3 q4)), .val (.int (m0_2 p0 p1 p2 p3 q4)), .val (.int (m0_3 p0 p1 p2 p3 q4)), .val (.int (p3 &&& (3 : Int32))), .val (.long (q4 &&& (9223372036854775807 : Int64))), .second, .unset, .unset] [(.int (2 : Int32)), (.int (m0_3 p0 p1 p2 p3 q4))])) _
          refine XS.icmpYes X0.here hx rfl (pc0 := 147) (pc' := 186) rfl (hb hby at_147) rfl (feq hc147_14).2 (by decide) (by decide) ?_
          show Steps p.tables e below (s₁.setTop (mkF m 186 #[.val (.int p0), .val (.int p1), .val (.int p2), .val (.int p3), .val (.long q4), .second, .val (.int (m0_0 p0 p1 p2 p3 q4)), .val (.int (m0_1 p0 p1 p2 p3 q4)), .val (.int (m0_2 p0 p1 p2 p3 q4)), .val (.int (m0_3 p0 p1 p2 p3 q4)), .val (.int (p3 &&& (3 : Int32))), .val (.long (q4 &&& (9223372036854775807 : Int64))), .second, .unset, .unset] [])) _
          refine st31 _ ?_
          show Steps p.tables e below (T31.setTop (mkF m 189 #[.val (.int p0), .val (.int p1), .val (.int p2), .val (.int p3), .val (.long q4), .second, .val (.int (m0_0 p0 p1 p2 p3 q4)), .val (.int (m0_1 p0 p1 p2 p3 q4)), .val (.int (m0_2 p0 p1 p2 p3 q4)), .val (.int (m0_3 p0 p1 p2 p3 q4)), .val (.int (p3 &&& (3 : Int32))), .val (.long (q4 &&& (9223372036854775807 : Int64))), .second, .unset, .unset] [(.ref b31)])) _
          refine XS.dup X31.here hx rfl (hb hby at_189) rfl rfl ?_
          show Steps p.tables e below (T31.setTop (mkF m 190 #[.val (.int p0), .val (.int p1), .val (.int p2), .val (.int p3), .val (.long q4), .second, .val (.int (m0_0 p0 p1 p2 p3 q4)), .val (.int (m0_1 p0 p1 p2 p3 q4)), .val (.int (m0_2 p0 p1 p2 p3 q4)), .val (.int (m0_3 p0 p1 p2 p3 q4)), .val (.int (p3 &&& (3 : Int32))), .val (.long (q4 &&& (9223372036854775807 : Int64))), .second, .unset, .unset] [(.ref b31), (.ref b31)])) _
          refine XS.iconst X31.here hx rfl (hb hby at_190) ?_
          show Steps p.tables e below (T31.setTop (mkF m 191 #[.val (.int p0), .val (.int p1), .val (.int p2), .val (.int p3), .val (.long q4), .second, .val (.int (m0_0 p0 p1 p2 p3 q4)), .val (.int (m0_1 p0 p1 p2 p3 q4)), .val (.int (m0_2 p0 p1 p2 p3 q4)), .val (.int (m0_3 p0 p1 p2 p3 q4)), .val (.int (p3 &&& (3 : Int32))), .val (.long (q4 &&& (9223372036854775807 : Int64))), .second, .unset, .unset] [(.int (3 : Int32)), (.ref b31), (.ref b31)])) _
          refine st32 _ ?_
          show Steps p.tables e below (T32.setTop (mkF m 193 #[.val (.int p0), .val (.int p1), .val (.int p2), .val (.int p3), .val (.long q4), .second, .val (.int (m0_0 p0 p1 p2 p3 q4)), .val (.int (m0_1 p0 p1 p2 p3 q4)), .val (.int (m0_2 p0 p1 p2 p3 q4)), .val (.int (m0_3 p0 p1 p2 p3 q4)), .val (.int (p3 &&& (3 : Int32))), .val (.long (q4 &&& (9223372036854775807 : Int64))), .second, .unset, .unset] [(.ref b32), (.ref b31), (.ref b31)])) _
          refine XS.dup X32.here hx rfl (hb hby at_193) rfl rfl ?_
          show Steps p.tables e below (T32.setTop (mkF m 194 #[.val (.int p0), .val (.int p1), .val (.int p2), .val (.int p3), .val (.long q4), .second, .val (.int (m0_0 p0 p1 p2 p3 q4)), .val (.int (m0_1 p0 p1 p2 p3 q4)), .val (.int (m0_2 p0 p1 p2 p3 q4)), .val (.int (m0_3 p0 p1 p2 p3 q4)), .val (.int (p3 &&& (3 : Int32))), .val (.long (q4 &&& (9223372036854775807 : Int64))), .second, .unset, .unset] [(.ref b32), (.ref b32), (.ref b31), (.ref b31)])) _
          refine XS.iconst X32.here hx rfl (hb hby at_194) ?_
          show Steps p.tables e below (T32.setTop (mkF m 195 #[.val (.int p0), .val (.int p1), .val (.int p2), .val (.int p3), .val (.long q4), .second, .val (.int (m0_0 p0 p1 p2 p3 q4)), .val (.int (m0_1 p0 p1 p2 p3 q4)), .val (.int (m0_2 p0 p1 p2 p3 q4)), .val (.int (m0_3 p0 p1 p2 p3 q4)), .val (.int (p3 &&& (3 : Int32))), .val (.long (q4 &&& (9223372036854775807 : Int64))), .second, .unset, .unset] [(.int (0 : Int32)), (.ref b32), (.ref b32), (.ref b31), (.ref b31)])) _
          refine XS.iload X32.here hx rfl (hb hby at_195) rfl ?_
          show Steps p.tables e below (T32.setTop (mkF m 197 #[.val (.int p0), .val (.int p1), .val (.int p2), .val (.int p3), .val (.long q4), .second, .val (.int (m0_0 p0 p1 p2 p3 q4)), .val (.int (m0_1 p0 p1 p2 p3 q4)), .val (.int (m0_2 p0 p1 p2 p3 q4)), .val (.int (m0_3 p0 p1 p2 p3 q4)), .val (.int (p3 &&& (3 : Int32))), .val (.long (q4 &&& (9223372036854775807 : Int64))), .second, .unset, .unset] [(.int (m0_0 p0 p1 p2 p3 q4)), (.int (0 : Int32)), (.ref b32), (.ref b32), (.ref b31), (.ref b31)])) _
          refine st34 _ ?_
          show Steps p.tables e below (T34.setTop (mkF m 198 #[.val (.int p0), .val (.int p1), .val (.int p2), .val (.int p3), .val (.long q4), .second, .val (.int (m0_0 p0 p1 p2 p3 q4)), .val (.int (m0_1 p0 p1 p2 p3 q4)), .val (.int (m0_2 p0 p1 p2 p3 q4)), .val (.int (m0_3 p0 p1 p2 p3 q4)), .val (.int (p3 &&& (3 : Int32))), .val (.long (q4 &&& (9223372036854775807 : Int64))), .second, .unset, .unset] [(.ref b32), (.ref b31), (.ref b31)])) _
          refine XS.dup X34.here hx rfl (hb hby at_198) rfl rfl ?_
          show Steps p.tables e below (T34.setTop (mkF m 199 #[.val (.int p0), .val (.int p1), .val (.int p2), .val (.int p3), .val (.long q4), .second, .val (.int (m0_0 p0 p1 p2 p3 q4)), .val (.int (m0_1 p0 p1 p2 p3 q4)), .val (.int (m0_2 p0 p1 p2 p3 q4)), .val (.int (m0_3 p0 p1 p2 p3 q4)), .val (.int (p3 &&& (3 : Int32))), .val (.long (q4 &&& (9223372036854775807 : Int64))), .second, .unset, .unset] [(.ref b32), (.ref b32), (.ref b31), (.ref b31)])) _
          refine XS.iconst X34.here hx rfl (hb hby at_199) ?_
          show Steps p.tables e below (T34.setTop (mkF m 200 #[.val (.int p0), .val (.int p1), .val (.int p2), .val (.int p3), .val (.long q4), .second, .val (.int (m0_0 p0 p1 p2 p3 q4)), .val (.int (m0_1 p0 p1 p2 p3 q4)), .val (.int (m0_2 p0 p1 p2 p3 q4)), .val (.int (m0_3 p0 p1 p2 p3 q4)), .val (.int (p3 &&& (3 : Int32))), .val (.long (q4 &&& (9223372036854775807 : Int64))), .second, .unset, .unset] [(.int (1 : Int32)), (.ref b32), (.ref b32), (.ref b31), (.ref b31)])) _
          refine XS.iload X34.here hx rfl (hb hby at_200) rfl ?_
          show Steps p.tables e below (T34.setTop (mkF m 202 #[.val (.int p0), .val (.int p1), .val (.int p2), .val (.int p3), .val (.long q4), .second, .val (.int (m0_0 p0 p1 p2 p3 q4)), .val (.int (m0_1 p0 p1 p2 p3 q4)), .val (.int (m0_2 p0 p1 p2 p3 q4)), .val (.int (m0_3 p0 p1 p2 p3 q4)), .val (.int (p3 &&& (3 : Int32))), .val (.long (q4 &&& (9223372036854775807 : Int64))), .second, .unset, .unset] [(.int (m0_1 p0 p1 p2 p3 q4)), (.int (1 : Int32)), (.ref b32), (.ref b32), (.ref b31), (.ref b31)])) _
          refine st36 _ ?_
          show Steps p.tables e below (T36.setTop (mkF m 203 #[.val (.int p0), .val (.int p1), .val (.int p2), .val (.int p3), .val (.long q4), .second, .val (.int (m0_0 p0 p1 p2 p3 q4)), .val (.int (m0_1 p0 p1 p2 p3 q4)), .val (.int (m0_2 p0 p1 p2 p3 q4)), .val (.int (m0_3 p0 p1 p2 p3 q4)), .val (.int (p3 &&& (3 : Int32))), .val (.long (q4 &&& (9223372036854775807 : Int64))), .second, .unset, .unset] [(.ref b32), (.ref b31), (.ref b31)])) _
          refine XS.dup X36.here hx rfl (hb hby at_203) rfl rfl ?_
          show Steps p.tables e below (T36.setTop (mkF m 204 #[.val (.int p0), .val (.int p1), .val (.int p2), .val (.int p3), .val (.long q4), .second, .val (.int (m0_0 p0 p1 p2 p3 q4)), .val (.int (m0_1 p0 p1 p2 p3 q4)), .val (.int (m0_2 p0 p1 p2 p3 q4)), .val (.int (m0_3 p0 p1 p2 p3 q4)), .val (.int (p3 &&& (3 : Int32))), .val (.long (q4 &&& (9223372036854775807 : Int64))), .second, .unset, .unset] [(.ref b32), (.ref b32), (.ref b31), (.ref b31)])) _
          refine XS.iconst X36.here hx rfl (hb hby at_204) ?_
          show Steps p.tables e below (T36.setTop (mkF m 205 #[.val (.int p0), .val (.int p1), .val (.int p2), .val (.int p3), .val (.long q4), .second, .val (.int (m0_0 p0 p1 p2 p3 q4)), .val (.int (m0_1 p0 p1 p2 p3 q4)), .val (.int (m0_2 p0 p1 p2 p3 q4)), .val (.int (m0_3 p0 p1 p2 p3 q4)), .val (.int (p3 &&& (3 : Int32))), .val (.long (q4 &&& (9223372036854775807 : Int64))), .second, .unset, .unset] [(.int (2 : Int32)), (.ref b32), (.ref b32), (.ref b31), (.ref b31)])) _
          refine XS.iload X36.here hx rfl (hb hby at_205) rfl ?_
          show Steps p.tables e below (T36.setTop (mkF m 207 #[.val (.int p0), .val (.int p1), .val (.int p2), .val (.int p3), .val (.long q4), .second, .val (.int (m0_0 p0 p1 p2 p3 q4)), .val (.int (m0_1 p0 p1 p2 p3 q4)), .val (.int (m0_2 p0 p1 p2 p3 q4)), .val (.int (m0_3 p0 p1 p2 p3 q4)), .val (.int (p3 &&& (3 : Int32))), .val (.long (q4 &&& (9223372036854775807 : Int64))), .second, .unset, .unset] [(.int (m0_2 p0 p1 p2 p3 q4)), (.int (2 : Int32)), (.ref b32), (.ref b32), (.ref b31), (.ref b31)])) _
          refine st38 _ ?_
          show Steps p.tables e below (T38.setTop (mkF m 208 #[.val (.int p0), .val (.int p1), .val (.int p2), .val (.int p3), .val (.long q4), .second, .val (.int (m0_0 p0 p1 p2 p3 q4)), .val (.int (m0_1 p0 p1 p2 p3 q4)), .val (.int (m0_2 p0 p1 p2 p3 q4)), .val (.int (m0_3 p0 p1 p2 p3 q4)), .val (.int (p3 &&& (3 : Int32))), .val (.long (q4 &&& (9223372036854775807 : Int64))), .second, .unset, .unset] [(.ref b32), (.ref b31), (.ref b31)])) _
          refine XS.iconst X38.here hx rfl (hb hby at_208) ?_
          show Steps p.tables e below (T38.setTop (mkF m 209 #[.val (.int p0), .val (.int p1), .val (.int p2), .val (.int p3), .val (.long q4), .second, .val (.int (m0_0 p0 p1 p2 p3 q4)), .val (.int (m0_1 p0 p1 p2 p3 q4)), .val (.int (m0_2 p0 p1 p2 p3 q4)), .val (.int (m0_3 p0 p1 p2 p3 q4)), .val (.int (p3 &&& (3 : Int32))), .val (.long (q4 &&& (9223372036854775807 : Int64))), .second, .unset, .unset] [(.int (3 : Int32)), (.ref b32), (.ref b31), (.ref b31)])) _
          refine st39 _ ?_
          show Steps p.tables e below (T39.setTop (mkF m 211 #[.val (.int p0), .val (.int p1), .val (.int p2), .val (.int p3), .val (.long q4), .second, .val (.int (m0_0 p0 p1 p2 p3 q4)), .val (.int (m0_1 p0 p1 p2 p3 q4)), .val (.int (m0_2 p0 p1 p2 p3 q4)), .val (.int (m0_3 p0 p1 p2 p3 q4)), .val (.int (p3 &&& (3 : Int32))), .val (.long (q4 &&& (9223372036854775807 : Int64))), .second, .unset, .unset] [(.ref b39), (.ref b32), (.ref b31), (.ref b31)])) _
          refine XS.dup X39.here hx rfl (hb hby at_211) rfl rfl ?_
          show Steps p.tables e below (T39.setTop (mkF m 212 #[.val (.int p0), .val (.int p1), .val (.int p2), .val (.int p3), .val (.long q4), .second, .val (.int (m0_0 p0 p1 p2 p3 q4)), .val (.int (m0_1 p0 p1 p2 p3 q4)), .val (.int (m0_2 p0 p1 p2 p3 q4)), .val (.int (m0_3 p0 p1 p2 p3 q4)), .val (.int (p3 &&& (3 : Int32))), .val (.long (q4 &&& (9223372036854775807 : Int64))), .second, .unset, .unset] [(.ref b39), (.ref b39), (.ref b32), (.ref b31), (.ref b31)])) _
          refine XS.iconst X39.here hx rfl (hb hby at_212) ?_
          show Steps p.tables e below (T39.setTop (mkF m 213 #[.val (.int p0), .val (.int p1), .val (.int p2), .val (.int p3), .val (.long q4), .second, .val (.int (m0_0 p0 p1 p2 p3 q4)), .val (.int (m0_1 p0 p1 p2 p3 q4)), .val (.int (m0_2 p0 p1 p2 p3 q4)), .val (.int (m0_3 p0 p1 p2 p3 q4)), .val (.int (p3 &&& (3 : Int32))), .val (.long (q4 &&& (9223372036854775807 : Int64))), .second, .unset, .unset] [(.int (0 : Int32)), (.ref b39), (.ref b39), (.ref b32), (.ref b31), (.ref b31)])) _
          refine XS.iconst X39.here hx rfl (hb hby at_213) ?_
          show Steps p.tables e below (T39.setTop (mkF m 214 #[.val (.int p0), .val (.int p1), .val (.int p2), .val (.int p3), .val (.long q4), .second, .val (.int (m0_0 p0 p1 p2 p3 q4)), .val (.int (m0_1 p0 p1 p2 p3 q4)), .val (.int (m0_2 p0 p1 p2 p3 q4)), .val (.int (m0_3 p0 p1 p2 p3 q4)), .val (.int (p3 &&& (3 : Int32))), .val (.long (q4 &&& (9223372036854775807 : Int64))), .second, .unset, .unset] [(.int (1 : Int32)), (.int (0 : Int32)), (.ref b39), (.ref b39), (.ref b32), (.ref b31), (.ref b31)])) _
          refine st41 _ ?_
          show Steps p.tables e below (T41.setTop (mkF m 215 #[.val (.int p0), .val (.int p1), .val (.int p2), .val (.int p3), .val (.long q4), .second, .val (.int (m0_0 p0 p1 p2 p3 q4)), .val (.int (m0_1 p0 p1 p2 p3 q4)), .val (.int (m0_2 p0 p1 p2 p3 q4)), .val (.int (m0_3 p0 p1 p2 p3 q4)), .val (.int (p3 &&& (3 : Int32))), .val (.long (q4 &&& (9223372036854775807 : Int64))), .second, .unset, .unset] [(.ref b39), (.ref b32), (.ref b31), (.ref b31)])) _
          refine XS.dup X41.here hx rfl (hb hby at_215) rfl rfl ?_
          show Steps p.tables e below (T41.setTop (mkF m 216 #[.val (.int p0), .val (.int p1), .val (.int p2), .val (.int p3), .val (.long q4), .second, .val (.int (m0_0 p0 p1 p2 p3 q4)), .val (.int (m0_1 p0 p1 p2 p3 q4)), .val (.int (m0_2 p0 p1 p2 p3 q4)), .val (.int (m0_3 p0 p1 p2 p3 q4)), .val (.int (p3 &&& (3 : Int32))), .val (.long (q4 &&& (9223372036854775807 : Int64))), .second, .unset, .unset] [(.ref b39), (.ref b39), (.ref b32), (.ref b31), (.ref b31)])) _
          refine XS.iconst X41.here hx rfl (hb hby at_216) ?_
          show Steps p.tables e below (T41.setTop (mkF m 217 #[.val (.int p0), .val (.int p1), .val (.int p2), .val (.int p3), .val (.long q4), .second, .val (.int (m0_0 p0 p1 p2 p3 q4)), .val (.int (m0_1 p0 p1 p2 p3 q4)), .val (.int (m0_2 p0 p1 p2 p3 q4)), .val (.int (m0_3 p0 p1 p2 p3 q4)), .val (.int (p3 &&& (3 : Int32))), .val (.long (q4 &&& (9223372036854775807 : Int64))), .second, .unset, .unset] [(.int (1 : Int32)), (.ref b39), (.ref b39), (.ref b32), (.ref b31), (.ref b31)])) _
          refine XS.iconst X41.here hx rfl (hb hby at_217) ?_
          show Steps p.tables e below (T41.setTop (mkF m 218 #[.val (.int p0), .val (.int p1), .val (.int p2), .val (.int p3), .val (.long q4), .second, .val (.int (m0_0 p0 p1 p2 p3 q4)), .val (.int (m0_1 p0 p1 p2 p3 q4)), .val (.int (m0_2 p0 p1 p2 p3 q4)), .val (.int (m0_3 p0 p1 p2 p3 q4)), .val (.int (p3 &&& (3 : Int32))), .val (.long (q4 &&& (9223372036854775807 : Int64))), .second, .unset, .unset] [(.int (1 : Int32)), (.int (1 : Int32)), (.ref b39), (.ref b39), (.ref b32), (.ref b31), (.ref b31)])) _
          refine st43 _ ?_
          show Steps p.tables e below (T43.setTop (mkF m 219 #[.val (.int p0), .val (.int p1), .val (.int p2), .val (.int p3), .val (.long q4), .second, .val (.int (m0_0 p0 p1 p2 p3 q4)), .val (.int (m0_1 p0 p1 p2 p3 q4)), .val (.int (m0_2 p0 p1 p2 p3 q4)), .val (.int (m0_3 p0 p1 p2 p3 q4)), .val (.int (p3 &&& (3 : Int32))), .val (.long (q4 &&& (9223372036854775807 : Int64))), .second, .unset, .unset] [(.ref b39), (.ref b32), (.ref b31), (.ref b31)])) _
          refine XS.dup X43.here hx rfl (hb hby at_219) rfl rfl ?_
          show Steps p.tables e below (T43.setTop (mkF m 220 #[.val (.int p0), .val (.int p1), .val (.int p2), .val (.int p3), .val (.long q4), .second, .val (.int (m0_0 p0 p1 p2 p3 q4)), .val (.int (m0_1 p0 p1 p2 p3 q4)), .val (.int (m0_2 p0 p1 p2 p3 q4)), .val (.int (m0_3 p0 p1 p2 p3 q4)), .val (.int (p3 &&& (3 : Int32))), .val (.long (q4 &&& (9223372036854775807 : Int64))), .second, .unset, .unset] [(.ref b39), (.ref b39), (.ref b32), (.ref b31), (.ref b31)])) _
          refine XS.iconst X43.here hx rfl (hb hby at_220) ?_
          show Steps p.tables e below (T43.setTop (mkF m 221 #[.val (.int p0), .val (.int p1), .val (.int p2), .val (.int p3), .val (.long q4), .second, .val (.int (m0_0 p0 p1 p2 p3 q4)), .val (.int (m0_1 p0 p1 p2 p3 q4)), .val (.int (m0_2 p0 p1 p2 p3 q4)), .val (.int (m0_3 p0 p1 p2 p3 q4)), .val (.int (p3 &&& (3 : Int32))), .val (.long (q4 &&& (9223372036854775807 : Int64))), .second, .unset, .unset] [(.int (2 : Int32)), (.ref b39), (.ref b39), (.ref b32), (.ref b31), (.ref b31)])) _
          refine XS.iconst X43.here hx rfl (hb hby at_221) ?_
          show Steps p.tables e below (T43.setTop (mkF m 222 #[.val (.int p0), .val (.int p1), .val (.int p2), .val (.int p3), .val (.long q4), .second, .val (.int (m0_0 p0 p1 p2 p3 q4)), .val (.int (m0_1 p0 p1 p2 p3 q4)), .val (.int (m0_2 p0 p1 p2 p3 q4)), .val (.int (m0_3 p0 p1 p2 p3 q4)), .val (.int (p3 &&& (3 : Int32))), .val (.long (q4 &&& (9223372036854775807 : Int64))), .second, .unset, .unset] [(.int (1 : Int32)), (.int (2 : Int32)), (.ref b39), (.ref b39), (.ref b32), (.ref b31), (.ref b31)])) _
          refine st45 _ ?_
          show Steps p.tables e below (T45.setTop (mkF m 223 #[.val (.int p0), .val (.int p1), .val (.int p2), .val (.int p3), .val (.long q4), .second, .val (.int (m0_0 p0 p1 p2 p3 q4)), .val (.int (m0_1 p0 p1 p2 p3 q4)), .val (.int (m0_2 p0 p1 p2 p3 q4)), .val (.int (m0_3 p0 p1 p2 p3 q4)), .val (.int (p3 &&& (3 : Int32))), .val (.long (q4 &&& (9223372036854775807 : Int64))), .second, .unset, .unset] [(.ref b39), (.ref b32), (.ref b31), (.ref b31)])) _
          refine st46.trans ?_
          show Steps p.tables e below (T46.setTop (mkF m 226 #[.val (.int p0), .val (.int p1), .val (.int p2), .val (.int p3), .val (.long q4), .second, .val (.int (m0_0 p0 p1 p2 p3 q4)), .val (.int (m0_1 p0 p1 p2 p3 q4)), .val (.int (m0_2 p0 p1 p2 p3 q4)), .val (.int (m0_3 p0 p1 p2 p3 q4)), .val (.int (p3 &&& (3 : Int32))), .val (.long (q4 &&& (9223372036854775807 : Int64))), .second, .unset, .unset] [(.ref b31)])) _
          refine XS.astore X46.here hx rfl (hb hby at_226) rfl rfl (l' := #[.val (.int p0), .val (.int p1), .val (.int p2), .val (.int p3), .val (.long q4), .second, .val (.int (m0_0 p0 p1 p2 p3 q4)), .val (.int (m0_1 p0 p1 p2 p3 q4)), .val (.int (m0_2 p0 p1 p2 p3 q4)), .val (.int (m0_3 p0 p1 p2 p3 q4)), .val (.int (p3 &&& (3 : Int32))), .val (.long (q4 &&& (9223372036854775807 : Int64))), .second, .val (.ref b31), .unset]) rfl ?_
          show Steps p.tables e below (T46.setTop (mkF m 228 #[.val (.int p0), .val (.int p1), .val (.int p2), .val (.int p3), .val (.long q4), .second, .val (.int (m0_0 p0 p1 p2 p3 q4)), .val (.int (m0_1 p0 p1 p2 p3 q4)), .val (.int (m0_2 p0 p1 p2 p3 q4)), .val (.int (m0_3 p0 p1 p2 p3 q4)), .val (.int (p3 &&& (3 : Int32))), .val (.long (q4 &&& (9223372036854775807 : Int64))), .second, .val (.ref b31), .unset] [])) _
          refine XS.lload X46.here hx rfl (hb hby at_228) rfl ?_
          show Steps p.tables e below (T46.setTop (mkF m 230 #[.val (.int p0), .val (.int p1), .val (.int p2), .val (.int p3), .val (.long q4), .second, .val (.int (m0_0 p0 p1 p2 p3 q4)), .val (.int (m0_1 p0 p1 p2 p3 q4)), .val (.int (m0_2 p0 p1 p2 p3 q4)), .val (.int (m0_3 p0 p1 p2 p3 q4)), .val (.int (p3 &&& (3 : Int32))), .val (.long (q4 &&& (9223372036854775807 : Int64))), .second, .val (.ref b31), .unset] [(.long (q4 &&& (9223372036854775807 : Int64)))])) _
          refine XS.iload X46.here hx rfl (hb hby at_230) rfl ?_
          show Steps p.tables e below (T46.setTop (mkF m 232 #[.val (.int p0), .val (.int p1), .val (.int p2), .val (.int p3), .val (.long q4), .second, .val (.int (m0_0 p0 p1 p2 p3 q4)), .val (.int (m0_1 p0 p1 p2 p3 q4)), .val (.int (m0_2 p0 p1 p2 p3 q4)), .val (.int (m0_3 p0 p1 p2 p3 q4)), .val (.int (p3 &&& (3 : Int32))), .val (.long (q4 &&& (9223372036854775807 : Int64))), .second, .val (.ref b31), .unset] [(.int (m0_0 p0 p1 p2 p3 q4)), (.long (q4 &&& (9223372036854775807 : Int64)))])) _
          refine XS.i2l X46.here hx rfl (hb hby at_232) rfl ?_
          show Steps p.tables e below (T46.setTop (mkF m 233 #[.val (.int p0), .val (.int p1), .val (.int p2), .val (.int p3), .val (.long q4), .second, .val (.int (m0_0 p0 p1 p2 p3 q4)), .val (.int (m0_1 p0 p1 p2 p3 q4)), .val (.int (m0_2 p0 p1 p2 p3 q4)), .val (.int (m0_3 p0 p1 p2 p3 q4)), .val (.int (p3 &&& (3 : Int32))), .val (.long (q4 &&& (9223372036854775807 : Int64))), .second, .val (.ref b31), .unset] [(.long ((m0_0 p0 p1 p2 p3 q4).toInt64)), (.long (q4 &&& (9223372036854775807 : Int64)))])) _
          refine XS.lcmp X46.here hx rfl (hb hby at_233) rfl ?_
          exact kt
        refine own_back (b := T46.setTop (mkF m 288 #[.val (.int p0), .val (.int p1), .val (.int p2), .val (.int p3), .val (.long q4), .second, .val (.int (m0_0 p0 p1 p2 p3 q4)), .val (.int (m0_1 p0 p1 p2 p3 q4)), .val (.int (m0_2 p0 p1 p2 p3 q4)), .val (.int (m0_3 p0 p1 p2 p3 q4)), .val (.int (p3 &&& (3 : Int32))), .val (.long (q4 &&& (9223372036854775807 : Int64))), .second, .val (.ref b31), .val (.int (m0_6 p0 p1 p2 p3 q4))] [])) (fun t kt => ?_) ?_
        · by_cases hm234_47 : ((m0_0 p0 p1 p2 p3 q4).toInt64) < (q4 &&& (9223372036854775807 : Int64))
          · by_cases hm255_48 : ((m0_1 p0 p1 p2 p3 q4).toInt64) < (q4 &&& (9223372036854775807 : Int64))
            · by_cases hm276_49 : ((m0_2 p0 p1 p2 p3 q4).toInt64) < (q4 &&& (9223372036854775807 : Int64))
              · rw [show (m0_6 p0 p1 p2 p3 q4) = (-1 : Int32) from by unfold m0_6; rw [if_pos hm234_47, if_pos hm255_48, if_pos hm276_49]] at kt
                show Steps p.tables e below (T46.setTop (mkF m 234 #[.val (.int p0), .val (.int p1), .val (.int p2), .val (.int p3), .val (.long q4), .second, .val (.int (m0_0 p0 p1 p2 p3 q4)), .val (.int (m0_1 p0 p1 p2 p3 q4)), .val (.int (m0_2 p0 p1 p2 p3 q4)), .val (.int (m0_3 p0 p1 p2 p3 q4)), .val (.int (p3 &&& (3 : Int32))), .val (.long (q4 &&& (9223372036854775807 : Int64))), .second, .val (.ref b31), .unset] [(.int (lcmpW (q4 &&& (9223372036854775807 : Int64)) ((m0_0 p0 p1 p2 p3 q4).toInt64)))])) _
                refine XS.ifYes X46.here hx rfl (pc0 := 234) (pc' := 243) rfl (hb hby at_234) rfl ((if0 _ _).trans (tlt ((lw_gt _ _).mpr hm234_47)).2.2.1) (by decide) (by decide) ?_
                show Steps p.tables e below (T46.setTop (mkF m 243 #[.val (.int p0), .val (.int p1), .val (.int p2), .val (.int p3), .val (.long q4), .second, .val (.int (m0_0 p0 p1 p2 p3 q4)), .val (.int (m0_1 p0 p1 p2 p3 q4)), .val (.int (m0_2 p0 p1 p2 p3 q4)), .val (.int (m0_3 p0 p1 p2 p3 q4)), .val (.int (p3 &&& (3 : Int32))), .val (.long (q4 &&& (9223372036854775807 : Int64))), .second, .val (.ref b31), .unset] [])) _
                refine XS.iload X46.here hx rfl (hb hby at_243) rfl ?_
                show Steps p.tables e below (T46.setTop (mkF m 245 #[.val (.int p0), .val (.int p1), .val (.int p2), .val (.int p3), .val (.long q4), .second, .val (.int (m0_0 p0 p1 p2 p3 q4)), .val (.int (m0_1 p0 p1 p2 p3 q4)), .val (.int (m0_2 p0 p1 p2 p3 q4)), .val (.int (m0_3 p0 p1 p2 p3 q4)), .val (.int (p3 &&& (3 : Int32))), .val (.long (q4 &&& (9223372036854775807 : Int64))), .second, .val (.ref b31), .unset] [(.int (m0_3 p0 p1 p2 p3 q4))])) _
                refine XS.iconst X46.here hx rfl (hb hby at_245) ?_
                show Steps p.tables e below (T46.setTop (mkF m 246 #[.val (.int p0), .val (.int p1), .val (.int p2), .val (.int p3), .val (.long q4), .second, .val (.int (m0_0 p0 p1 p2 p3 q4)), .val (.int (m0_1 p0 p1 p2 p3 q4)), .val (.int (m0_2 p0 p1 p2 p3 q4)), .val (.int (m0_3 p0 p1 p2 p3 q4)), .val (.int (p3 &&& (3 : Int32))), .val (.long (q4 &&& (9223372036854775807 : Int64))), .second, .val (.ref b31), .unset] [(.int (2 : Int32)), (.int (m0_3 p0 p1 p2 p3 q4))])) _
                refine XS.icmpNo X46.here hx rfl (hb hby at_246) rfl (flt (by rw [(own_n3 p0 p1 p2 p3 q4 hc114_2 hc147_14)]; decide)).1 ?_
                show Steps p.tables e below (T46.setTop (mkF m 249 #[.val (.int p0), .val (.int p1), .val (.int p2), .val (.int p3), .val (.long q4), .second, .val (.int (m0_0 p0 p1 p2 p3 q4)), .val (.int (m0_1 p0 p1 p2 p3 q4)), .val (.int (m0_2 p0 p1 p2 p3 q4)), .val (.int (m0_3 p0 p1 p2 p3 q4)), .val (.int (p3 &&& (3 : Int32))), .val (.long (q4 &&& (9223372036854775807 : Int64))), .second, .val (.ref b31), .unset] [])) _
                refine XS.lload X46.here hx rfl (hb hby at_249) rfl ?_
                show Steps p.tables e below (T46.setTop (mkF m 251 #[.val (.int p0), .val (.int p1), .val (.int p2), .val (.int p3), .val (.long q4), .second, .val (.int (m0_0 p0 p1 p2 p3 q4)), .val (.int (m0_1 p0 p1 p2 p3 q4)), .val (.int (m0_2 p0 p1 p2 p3 q4)), .val (.int (m0_3 p0 p1 p2 p3 q4)), .val (.int (p3 &&& (3 : Int32))), .val (.long (q4 &&& (9223372036854775807 : Int64))), .second, .val (.ref b31), .unset] [(.long (q4 &&& (9223372036854775807 : Int64)))])) _
                refine XS.iload X46.here hx rfl (hb hby at_251) rfl ?_
                show Steps p.tables e below (T46.setTop (mkF m 253 #[.val (.int p0), .val (.int p1), .val (.int p2), .val (.int p3), .val (.long q4), .second, .val (.int (m0_0 p0 p1 p2 p3 q4)), .val (.int (m0_1 p0 p1 p2 p3 q4)), .val (.int (m0_2 p0 p1 p2 p3 q4)), .val (.int (m0_3 p0 p1 p2 p3 q4)), .val (.int (p3 &&& (3 : Int32))), .val (.long (q4 &&& (9223372036854775807 : Int64))), .second, .val (.ref b31), .unset] [(.int (m0_1 p0 p1 p2 p3 q4)), (.long (q4 &&& (9223372036854775807 : Int64)))])) _
                refine XS.i2l X46.here hx rfl (hb hby at_253) rfl ?_
                show Steps p.tables e below (T46.setTop (mkF m 254 #[.val (.int p0), .val (.int p1), .val (.int p2), .val (.int p3), .val (.long q4), .second, .val (.int (m0_0 p0 p1 p2 p3 q4)), .val (.int (m0_1 p0 p1 p2 p3 q4)), .val (.int (m0_2 p0 p1 p2 p3 q4)), .val (.int (m0_3 p0 p1 p2 p3 q4)), .val (.int (p3 &&& (3 : Int32))), .val (.long (q4 &&& (9223372036854775807 : Int64))), .second, .val (.ref b31), .unset] [(.long ((m0_1 p0 p1 p2 p3 q4).toInt64)), (.long (q4 &&& (9223372036854775807 : Int64)))])) _
                refine XS.lcmp X46.here hx rfl (hb hby at_254) rfl ?_
                show Steps p.tables e below (T46.setTop (mkF m 255 #[.val (.int p0), .val (.int p1), .val (.int p2), .val (.int p3), .val (.long q4), .second, .val (.int (m0_0 p0 p1 p2 p3 q4)), .val (.int (m0_1 p0 p1 p2 p3 q4)), .val (.int (m0_2 p0 p1 p2 p3 q4)), .val (.int (m0_3 p0 p1 p2 p3 q4)), .val (.int (p3 &&& (3 : Int32))), .val (.long (q4 &&& (9223372036854775807 : Int64))), .second, .val (.ref b31), .unset] [(.int (lcmpW (q4 &&& (9223372036854775807 : Int64)) ((m0_1 p0 p1 p2 p3 q4).toInt64)))])) _
                refine XS.ifYes X46.here hx rfl (pc0 := 255) (pc' := 264) rfl (hb hby at_255) rfl ((if0 _ _).trans (tlt ((lw_gt _ _).mpr hm255_48)).2.2.1) (by decide) (by decide) ?_
                show Steps p.tables e below (T46.setTop (mkF m 264 #[.val (.int p0), .val (.int p1), .val (.int p2), .val (.int p3), .val (.long q4), .second, .val (.int (m0_0 p0 p1 p2 p3 q4)), .val (.int (m0_1 p0 p1 p2 p3 q4)), .val (.int (m0_2 p0 p1 p2 p3 q4)), .val (.int (m0_3 p0 p1 p2 p3 q4)), .val (.int (p3 &&& (3 : Int32))), .val (.long (q4 &&& (9223372036854775807 : Int64))), .second, .val (.ref b31), .unset] [])) _
                refine XS.iload X46.here hx rfl (hb hby at_264) rfl ?_
                show Steps p.tables e below (T46.setTop (mkF m 266 #[.val (.int p0), .val (.int p1), .val (.int p2), .val (.int p3), .val (.long q4), .second, .val (.int (m0_0 p0 p1 p2 p3 q4)), .val (.int (m0_1 p0 p1 p2 p3 q4)), .val (.int (m0_2 p0 p1 p2 p3 q4)), .val (.int (m0_3 p0 p1 p2 p3 q4)), .val (.int (p3 &&& (3 : Int32))), .val (.long (q4 &&& (9223372036854775807 : Int64))), .second, .val (.ref b31), .unset] [(.int (m0_3 p0 p1 p2 p3 q4))])) _
                refine XS.iconst X46.here hx rfl (hb hby at_266) ?_
                show Steps p.tables e below (T46.setTop (mkF m 267 #[.val (.int p0), .val (.int p1), .val (.int p2), .val (.int p3), .val (.long q4), .second, .val (.int (m0_0 p0 p1 p2 p3 q4)), .val (.int (m0_1 p0 p1 p2 p3 q4)), .val (.int (m0_2 p0 p1 p2 p3 q4)), .val (.int (m0_3 p0 p1 p2 p3 q4)), .val (.int (p3 &&& (3 : Int32))), .val (.long (q4 &&& (9223372036854775807 : Int64))), .second, .val (.ref b31), .unset] [(.int (3 : Int32)), (.int (m0_3 p0 p1 p2 p3 q4))])) _
                refine XS.icmpNo X46.here hx rfl (hb hby at_267) rfl (flt (by rw [(own_n3 p0 p1 p2 p3 q4 hc114_2 hc147_14)]; decide)).1 ?_
                show Steps p.tables e below (T46.setTop (mkF m 270 #[.val (.int p0), .val (.int p1), .val (.int p2), .val (.int p3), .val (.long q4), .second, .val (.int (m0_0 p0 p1 p2 p3 q4)), .val (.int (m0_1 p0 p1 p2 p3 q4)), .val (.int (m0_2 p0 p1 p2 p3 q4)), .val (.int (m0_3 p0 p1 p2 p3 q4)), .val (.int (p3 &&& (3 : Int32))), .val (.long (q4 &&& (9223372036854775807 : Int64))), .second, .val (.ref b31), .unset] [])) _
                refine XS.lload X46.here hx rfl (hb hby at_270) rfl ?_
                show Steps p.tables e below (T46.setTop (mkF m 272 #[.val (.int p0), .val (.int p1), .val (.int p2), .val (.int p3), .val (.long q4), .second, .val (.int (m0_0 p0 p1 p2 p3 q4)), .val (.int (m0_1 p0 p1 p2 p3 q4)), .val (.int (m0_2 p0 p1 p2 p3 q4)), .val (.int (m0_3 p0 p1 p2 p3 q4)), .val (.int (p3 &&& (3 : Int32))), .val (.long (q4 &&& (9223372036854775807 : Int64))), .second, .val (.ref b31), .unset] [(.long (q4 &&& (9223372036854775807 : Int64)))])) _
                refine XS.iload X46.here hx rfl (hb hby at_272) rfl ?_
                show Steps p.tables e below (T46.setTop (mkF m 274 #[.val (.int p0), .val (.int p1), .val (.int p2), .val (.int p3), .val (.long q4), .second, .val (.int (m0_0 p0 p1 p2 p3 q4)), .val (.int (m0_1 p0 p1 p2 p3 q4)), .val (.int (m0_2 p0 p1 p2 p3 q4)), .val (.int (m0_3 p0 p1 p2 p3 q4)), .val (.int (p3 &&& (3 : Int32))), .val (.long (q4 &&& (9223372036854775807 : Int64))), .second, .val (.ref b31), .unset] [(.int (m0_2 p0 p1 p2 p3 q4)), (.long (q4 &&& (9223372036854775807 : Int64)))])) _
                refine XS.i2l X46.here hx rfl (hb hby at_274) rfl ?_
                show Steps p.tables e below (T46.setTop (mkF m 275 #[.val (.int p0), .val (.int p1), .val (.int p2), .val (.int p3), .val (.long q4), .second, .val (.int (m0_0 p0 p1 p2 p3 q4)), .val (.int (m0_1 p0 p1 p2 p3 q4)), .val (.int (m0_2 p0 p1 p2 p3 q4)), .val (.int (m0_3 p0 p1 p2 p3 q4)), .val (.int (p3 &&& (3 : Int32))), .val (.long (q4 &&& (9223372036854775807 : Int64))), .second, .val (.ref b31), .unset] [(.long ((m0_2 p0 p1 p2 p3 q4).toInt64)), (.long (q4 &&& (9223372036854775807 : Int64)))])) _
                refine XS.lcmp X46.here hx rfl (hb hby at_275) rfl ?_
                show Steps p.tables e below (T46.setTop (mkF m 276 #[.val (.int p0), .val (.int p1), .val (.int p2), .val (.int p3), .val (.long q4), .second, .val (.int (m0_0 p0 p1 p2 p3 q4)), .val (.int (m0_1 p0 p1 p2 p3 q4)), .val (.int (m0_2 p0 p1 p2 p3 q4)), .val (.int (m0_3 p0 p1 p2 p3 q4)), .val (.int (p3 &&& (3 : Int32))), .val (.long (q4 &&& (9223372036854775807 : Int64))), .second, .val (.ref b31), .unset] [(.int (lcmpW (q4 &&& (9223372036854775807 : Int64)) ((m0_2 p0 p1 p2 p3 q4).toInt64)))])) _
                refine XS.ifYes X46.here hx rfl (pc0 := 276) (pc' := 285) rfl (hb hby at_276) rfl ((if0 _ _).trans (tlt ((lw_gt _ _).mpr hm276_49)).2.2.1) (by decide) (by decide) ?_
                show Steps p.tables e below (T46.setTop (mkF m 285 #[.val (.int p0), .val (.int p1), .val (.int p2), .val (.int p3), .val (.long q4), .second, .val (.int (m0_0 p0 p1 p2 p3 q4)), .val (.int (m0_1 p0 p1 p2 p3 q4)), .val (.int (m0_2 p0 p1 p2 p3 q4)), .val (.int (m0_3 p0 p1 p2 p3 q4)), .val (.int (p3 &&& (3 : Int32))), .val (.long (q4 &&& (9223372036854775807 : Int64))), .second, .val (.ref b31), .unset] [])) _
                refine XS.iconst X46.here hx rfl (hb hby at_285) ?_
                show Steps p.tables e below (T46.setTop (mkF m 286 #[.val (.int p0), .val (.int p1), .val (.int p2), .val (.int p3), .val (.long q4), .second, .val (.int (m0_0 p0 p1 p2 p3 q4)), .val (.int (m0_1 p0 p1 p2 p3 q4)), .val (.int (m0_2 p0 p1 p2 p3 q4)), .val (.int (m0_3 p0 p1 p2 p3 q4)), .val (.int (p3 &&& (3 : Int32))), .val (.long (q4 &&& (9223372036854775807 : Int64))), .second, .val (.ref b31), .unset] [(.int (-1 : Int32))])) _
                refine XS.istore X46.here hx rfl (hb hby at_286) rfl (l' := #[.val (.int p0), .val (.int p1), .val (.int p2), .val (.int p3), .val (.long q4), .second, .val (.int (m0_0 p0 p1 p2 p3 q4)), .val (.int (m0_1 p0 p1 p2 p3 q4)), .val (.int (m0_2 p0 p1 p2 p3 q4)), .val (.int (m0_3 p0 p1 p2 p3 q4)), .val (.int (p3 &&& (3 : Int32))), .val (.long (q4 &&& (9223372036854775807 : Int64))), .second, .val (.ref b31), .val (.int (-1 : Int32))]) rfl ?_
                exact kt
              · rw [show (m0_6 p0 p1 p2 p3 q4) = (2 : Int32) from by unfold m0_6; rw [if_pos hm234_47, if_pos hm255_48, if_neg hm276_49]] at kt
                show Steps p.tables e below (T46.setTop (mkF m 234 #[.val (.int p0), .val (.int p1), .val (.int p2), .val (.int p3), .val (.long q4), .second, .val (.int (m0_0 p0 p1 p2 p3 q4)), .val (.int (m0_1 p0 p1 p2 p3 q4)), .val (.int (m0_2 p0 p1 p2 p3 q4)), .val (.int (m0_3 p0 p1 p2 p3 q4)), .val (.int (p3 &&& (3 : Int32))), .val (.long (q4 &&& (9223372036854775807 : Int64))), .second, .val (.ref b31), .unset] [(.int (lcmpW (q4 &&& (9223372036854775807 : Int64)) ((m0_0 p0 p1 p2 p3 q4).toInt64)))])) _
                refine XS.ifYes X46.here hx rfl (pc0 := 234) (pc' := 243) rfl (hb hby at_234) rfl ((if0 _ _).trans (tlt ((lw_gt _ _).mpr hm234_47)).2.2.1) (by decide) (by decide) ?_
                show Steps p.tables e below (T46.setTop (mkF m 243 #[.val (.int p0), .val (.int p1), .val (.int p2), .val (.int p3), .val (.long q4), .second, .val (.int (m0_0 p0 p1 p2 p3 q4)), .val (.int (m0_1 p0 p1 p2 p3 q4)), .val (.int (m0_2 p0 p1 p2 p3 q4)), .val (.int (m0_3 p0 p1 p2 p3 q4)), .val (.int (p3 &&& (3 : Int32))), .val (.long (q4 &&& (9223372036854775807 : Int64))), .second, .val (.ref b31), .unset] [])) _
                refine XS.iload X46.here hx rfl (hb hby at_243) rfl ?_
                show Steps p.tables e below (T46.setTop (mkF m 245 #[.val (.int p0), .val (.int p1), .val (.int p2), .val (.int p3), .val (.long q4), .second, .val (.int (m0_0 p0 p1 p2 p3 q4)), .val (.int (m0_1 p0 p1 p2 p3 q4)), .val (.int (m0_2 p0 p1 p2 p3 q4)), .val (.int (m0_3 p0 p1 p2 p3 q4)), .val (.int (p3 &&& (3 : Int32))), .val (.long (q4 &&& (9223372036854775807 : Int64))), .second, .val (.ref b31), .unset] [(.int (m0_3 p0 p1 p2 p3 q4))])) _
                refine XS.iconst X46.here hx rfl (hb hby at_245) ?_
                show Steps p.tables e below (T46.setTop (mkF m 246 #[.val (.int p0), .val (.int p1), .val (.int p2), .val (.int p3), .val (.long q4), .second, .val (.int (m0_0 p0 p1 p2 p3 q4)), .val (.int (m0_1 p0 p1 p2 p3 q4)), .val (.int (m0_2 p0 p1 p2 p3 q4)), .val (.int (m0_3 p0 p1 p2 p3 q4)), .val (.int (p3 &&& (3 : Int32))), .val (.long (q4 &&& (9223372036854775807 : Int64))), .second, .val (.ref b31), .unset] [(.int (2 : Int32)), (.int (m0_3 p0 p1 p2 p3 q4))])) _
                refine XS.icmpNo X46.here hx rfl (hb hby at_246) rfl (flt (by rw [(own_n3 p0 p1 p2 p3 q4 hc114_2 hc147_14)]; decide)).1 ?_
                show Steps p.tables e below (T46.setTop (mkF m 249 #[.val (.int p0), .val (.int p1), .val (.int p2), .val (.int p3), .val (.long q4), .second, .val (.int (m0_0 p0 p1 p2 p3 q4)), .val (.int (m0_1 p0 p1 p2 p3 q4)), .val (.int (m0_2 p0 p1 p2 p3 q4)), .val (.int (m0_3 p0 p1 p2 p3 q4)), .val (.int (p3 &&& (3 : Int32))), .val (.long (q4 &&& (9223372036854775807 : Int64))), .second, .val (.ref b31), .unset] [])) _
                refine XS.lload X46.here hx rfl (hb hby at_249) rfl ?_
                show Steps p.tables e below (T46.setTop (mkF m 251 #[.val (.int p0), .val (.int p1), .val (.int p2), .val (.int p3), .val (.long q4), .second, .val (.int (m0_0 p0 p1 p2 p3 q4)), .val (.int (m0_1 p0 p1 p2 p3 q4)), .val (.int (m0_2 p0 p1 p2 p3 q4)), .val (.int (m0_3 p0 p1 p2 p3 q4)), .val (.int (p3 &&& (3 : Int32))), .val (.long (q4 &&& (9223372036854775807 : Int64))), .second, .val (.ref b31), .unset] [(.long (q4 &&& (9223372036854775807 : Int64)))])) _
                refine XS.iload X46.here hx rfl (hb hby at_251) rfl ?_
                show Steps p.tables e below (T46.setTop (mkF m 253 #[.val (.int p0), .val (.int p1), .val (.int p2), .val (.int p3), .val (.long q4), .second, .val (.int (m0_0 p0 p1 p2 p3 q4)), .val (.int (m0_1 p0 p1 p2 p3 q4)), .val (.int (m0_2 p0 p1 p2 p3 q4)), .val (.int (m0_3 p0 p1 p2 p3 q4)), .val (.int (p3 &&& (3 : Int32))), .val (.long (q4 &&& (9223372036854775807 : Int64))), .second, .val (.ref b31), .unset] [(.int (m0_1 p0 p1 p2 p3 q4)), (.long (q4 &&& (9223372036854775807 : Int64)))])) _
                refine XS.i2l X46.here hx rfl (hb hby at_253) rfl ?_
                show Steps p.tables e below (T46.setTop (mkF m 254 #[.val (.int p0), .val (.int p1), .val (.int p2), .val (.int p3), .val (.long q4), .second, .val (.int (m0_0 p0 p1 p2 p3 q4)), .val (.int (m0_1 p0 p1 p2 p3 q4)), .val (.int (m0_2 p0 p1 p2 p3 q4)), .val (.int (m0_3 p0 p1 p2 p3 q4)), .val (.int (p3 &&& (3 : Int32))), .val (.long (q4 &&& (9223372036854775807 : Int64))), .second, .val (.ref b31), .unset] [(.long ((m0_1 p0 p1 p2 p3 q4).toInt64)), (.long (q4 &&& (9223372036854775807 : Int64)))])) _
                refine XS.lcmp X46.here hx rfl (hb hby at_254) rfl ?_
                show Steps p.tables e below (T46.setTop (mkF m 255 #[.val (.int p0), .val (.int p1), .val (.int p2), .val (.int p3), .val (.long q4), .second, .val (.int (m0_0 p0 p1 p2 p3 q4)), .val (.int (m0_1 p0 p1 p2 p3 q4)), .val (.int (m0_2 p0 p1 p2 p3 q4)), .val (.int (m0_3 p0 p1 p2 p3 q4)), .val (.int (p3 &&& (3 : Int32))), .val (.long (q4 &&& (9223372036854775807 : Int64))), .second, .val (.ref b31), .unset] [(.int (lcmpW (q4 &&& (9223372036854775807 : Int64)) ((m0_1 p0 p1 p2 p3 q4).toInt64)))])) _
                refine XS.ifYes X46.here hx rfl (pc0 := 255) (pc' := 264) rfl (hb hby at_255) rfl ((if0 _ _).trans (tlt ((lw_gt _ _).mpr hm255_48)).2.2.1) (by decide) (by decide) ?_
                show Steps p.tables e below (T46.setTop (mkF m 264 #[.val (.int p0), .val (.int p1), .val (.int p2), .val (.int p3), .val (.long q4), .second, .val (.int (m0_0 p0 p1 p2 p3 q4)), .val (.int (m0_1 p0 p1 p2 p3 q4)), .val (.int (m0_2 p0 p1 p2 p3 q4)), .val (.int (m0_3 p0 p1 p2 p3 q4)), .val (.int (p3 &&& (3 : Int32))), .val (.long (q4 &&& (9223372036854775807 : Int64))), .second, .val (.ref b31), .unset] [])) _
                refine XS.iload X46.here hx rfl (hb hby at_264) rfl ?_
                show Steps p.tables e below (T46.setTop (mkF m 266 #[.val (.int p0), .val (.int p1), .val (.int p2), .val (.int p3), .val (.long q4), .second, .val (.int (m0_0 p0 p1 p2 p3 q4)), .val (.int (m0_1 p0 p1 p2 p3 q4)), .val (.int (m0_2 p0 p1 p2 p3 q4)), .val (.int (m0_3 p0 p1 p2 p3 q4)), .val (.int (p3 &&& (3 : Int32))), .val (.long (q4 &&& (9223372036854775807 : Int64))), .second, .val (.ref b31), .unset] [(.int (m0_3 p0 p1 p2 p3 q4))])) _
                refine XS.iconst X46.here hx rfl (hb hby at_266) ?_
                show Steps p.tables e below (T46.setTop (mkF m 267 #[.val (.int p0), .val (.int p1), .val (.int p2), .val (.int p3), .val (.long q4), .second, .val (.int (m0_0 p0 p1 p2 p3 q4)), .val (.int (m0_1 p0 p1 p2 p3 q4)), .val (.int (m0_2 p0 p1 p2 p3 q4)), .val (.int (m0_3 p0 p1 p2 p3 q4)), .val (.int (p3 &&& (3 : Int32))), .val (.long (q4 &&& (9223372036854775807 : Int64))), .second, .val (.ref b31), .unset] [(.int (3 : Int32)), (.int (m0_3 p0 p1 p2 p3 q4))])) _
                refine XS.icmpNo X46.here hx rfl (hb hby at_267) rfl (flt (by rw [(own_n3 p0 p1 p2 p3 q4 hc114_2 hc147_14)]; decide)).1 ?_
                show Steps p.tables e below (T46.setTop (mkF m 270 #[.val (.int p0), .val (.int p1), .val (.int p2), .val (.int p3), .val (.long q4), .second, .val (.int (m0_0 p0 p1 p2 p3 q4)), .val (.int (m0_1 p0 p1 p2 p3 q4)), .val (.int (m0_2 p0 p1 p2 p3 q4)), .val (.int (m0_3 p0 p1 p2 p3 q4)), .val (.int (p3 &&& (3 : Int32))), .val (.long (q4 &&& (9223372036854775807 : Int64))), .second, .val (.ref b31), .unset] [])) _
                refine XS.lload X46.here hx rfl (hb hby at_270) rfl ?_
                show Steps p.tables e below (T46.setTop (mkF m 272 #[.val (.int p0), .val (.int p1), .val (.int p2), .val (.int p3), .val (.long q4), .second, .val (.int (m0_0 p0 p1 p2 p3 q4)), .val (.int (m0_1 p0 p1 p2 p3 q4)), .val (.int (m0_2 p0 p1 p2 p3 q4)), .val (.int (m0_3 p0 p1 p2 p3 q4)), .val (.int (p3 &&& (3 : Int32))), .val (.long (q4 &&& (9223372036854775807 : Int64))), .second, .val (.ref b31), .unset] [(.long (q4 &&& (9223372036854775807 : Int64)))])) _
                refine XS.iload X46.here hx rfl (hb hby at_272) rfl ?_
                show Steps p.tables e below (T46.setTop (mkF m 274 #[.val (.int p0), .val (.int p1), .val (.int p2), .val (.int p3), .val (.long q4), .second, .val (.int (m0_0 p0 p1 p2 p3 q4)), .val (.int (m0_1 p0 p1 p2 p3 q4)), .val (.int (m0_2 p0 p1 p2 p3 q4)), .val (.int (m0_3 p0 p1 p2 p3 q4)), .val (.int (p3 &&& (3 : Int32))), .val (.long (q4 &&& (9223372036854775807 : Int64))), .second, .val (.ref b31), .unset] [(.int (m0_2 p0 p1 p2 p3 q4)), (.long (q4 &&& (9223372036854775807 : Int64)))])) _
                refine XS.i2l X46.here hx rfl (hb hby at_274) rfl ?_
                show Steps p.tables e below (T46.setTop (mkF m 275 #[.val (.int p0), .val (.int p1), .val (.int p2), .val (.int p3), .val (.long q4), .second, .val (.int (m0_0 p0 p1 p2 p3 q4)), .val (.int (m0_1 p0 p1 p2 p3 q4)), .val (.int (m0_2 p0 p1 p2 p3 q4)), .val (.int (m0_3 p0 p1 p2 p3 q4)), .val (.int (p3 &&& (3 : Int32))), .val (.long (q4 &&& (9223372036854775807 : Int64))), .second, .val (.ref b31), .unset] [(.long ((m0_2 p0 p1 p2 p3 q4).toInt64)), (.long (q4 &&& (9223372036854775807 : Int64)))])) _
                refine XS.lcmp X46.here hx rfl (hb hby at_275) rfl ?_
                show Steps p.tables e below (T46.setTop (mkF m 276 #[.val (.int p0), .val (.int p1), .val (.int p2), .val (.int p3), .val (.long q4), .second, .val (.int (m0_0 p0 p1 p2 p3 q4)), .val (.int (m0_1 p0 p1 p2 p3 q4)), .val (.int (m0_2 p0 p1 p2 p3 q4)), .val (.int (m0_3 p0 p1 p2 p3 q4)), .val (.int (p3 &&& (3 : Int32))), .val (.long (q4 &&& (9223372036854775807 : Int64))), .second, .val (.ref b31), .unset] [(.int (lcmpW (q4 &&& (9223372036854775807 : Int64)) ((m0_2 p0 p1 p2 p3 q4).toInt64)))])) _
                refine XS.ifNo X46.here hx rfl (hb hby at_276) rfl ((if0 _ _).trans (flt (fun q => hm276_49 ((lw_gt _ _).mp q))).2.2.1) ?_
                show Steps p.tables e below (T46.setTop (mkF m 279 #[.val (.int p0), .val (.int p1), .val (.int p2), .val (.int p3), .val (.long q4), .second, .val (.int (m0_0 p0 p1 p2 p3 q4)), .val (.int (m0_1 p0 p1 p2 p3 q4)), .val (.int (m0_2 p0 p1 p2 p3 q4)), .val (.int (m0_3 p0 p1 p2 p3 q4)), .val (.int (p3 &&& (3 : Int32))), .val (.long (q4 &&& (9223372036854775807 : Int64))), .second, .val (.ref b31), .unset] [])) _
                refine XS.iconst X46.here hx rfl (hb hby at_279) ?_
                show Steps p.tables e below (T46.setTop (mkF m 280 #[.val (.int p0), .val (.int p1), .val (.int p2), .val (.int p3), .val (.long q4), .second, .val (.int (m0_0 p0 p1 p2 p3 q4)), .val (.int (m0_1 p0 p1 p2 p3 q4)), .val (.int (m0_2 p0 p1 p2 p3 q4)), .val (.int (m0_3 p0 p1 p2 p3 q4)), .val (.int (p3 &&& (3 : Int32))), .val (.long (q4 &&& (9223372036854775807 : Int64))), .second, .val (.ref b31), .unset] [(.int (2 : Int32))])) _
                refine XS.istore X46.here hx rfl (hb hby at_280) rfl (l' := #[.val (.int p0), .val (.int p1), .val (.int p2), .val (.int p3), .val (.long q4), .second, .val (.int (m0_0 p0 p1 p2 p3 q4)), .val (.int (m0_1 p0 p1 p2 p3 q4)), .val (.int (m0_2 p0 p1 p2 p3 q4)), .val (.int (m0_3 p0 p1 p2 p3 q4)), .val (.int (p3 &&& (3 : Int32))), .val (.long (q4 &&& (9223372036854775807 : Int64))), .second, .val (.ref b31), .val (.int (2 : Int32))]) rfl ?_
                show Steps p.tables e below (T46.setTop (mkF m 282 #[.val (.int p0), .val (.int p1), .val (.int p2), .val (.int p3), .val (.long q4), .second, .val (.int (m0_0 p0 p1 p2 p3 q4)), .val (.int (m0_1 p0 p1 p2 p3 q4)), .val (.int (m0_2 p0 p1 p2 p3 q4)), .val (.int (m0_3 p0 p1 p2 p3 q4)), .val (.int (p3 &&& (3 : Int32))), .val (.long (q4 &&& (9223372036854775807 : Int64))), .second, .val (.ref b31), .val (.int (2 : Int32))] [])) _
                refine XS.goto X46.here hx rfl (pc0 := 282) (pc' := 288) rfl (hb hby at_282) (by decide) (by decide) ?_
                exact kt
            · rw [show (m0_6 p0 p1 p2 p3 q4) = (1 : Int32) from by unfold m0_6; rw [if_pos hm234_47, if_neg hm255_48]] at kt
              show Steps p.tables e below (T46.setTop (mkF m 234 #[.val (.int p0), .val (.int p1), .val (.int p2), .val (.int p3), .val (.long q4), .second, .val (.int (m0_0 p0 p1 p2 p3 q4)), .val (.int (m0_1 p0 p1 p2 p3 q4)), .val (.int (m0_2 p0 p1 p2 p3 q4)), .val (.int (m0_3 p0 p1 p2 p3 q4)), .val (.int (p3 &&& (3 : Int32))), .val (.long (q4 &&& (9223372036854775807 : Int64))), .second, .val (.ref b31), .unset] [(.int (lcmpW (q4 &&& (9223372036854775807 : Int64)) ((m0_0 p0 p1 p2 p3 q4).toInt64)))])) _
              refine XS.ifYes X46.here hx rfl (pc0 := 234) (pc' := 243) rfl (hb hby at_234) rfl ((if0 _ _).trans (tlt ((lw_gt _ _).mpr hm234_47)).2.2.1) (by decide) (by decide) ?_
              show Steps p.tables e below (T46.setTop (mkF m 243 #[.val (.int p0), .val (.int p1), .val (.int p2), .val (.int p3), .val (.long q4), .second, .val (.int (m0_0 p0 p1 p2 p3 q4)), .val (.int (m0_1 p0 p1 p2 p3 q4)), .val (.int (m0_2 p0 p1 p2 p3 q4)), .val (.int (m0_3 p0 p1 p2 p3 q4)), .val (.int (p3 &&& (3 : Int32))), .val (.long (q4 &&& (9223372036854775807 : Int64))), .second, .val (.ref b31), .unset] [])) _
              refine XS.iload X46.here hx rfl (hb hby at_243) rfl ?_
              show Steps p.tables e below (T46.setTop (mkF m 245 #[.val (.int p0), .val (.int p1), .val (.int p2), .val (.int p3), .val (.long q4), .second, .val (.int (m0_0 p0 p1 p2 p3 q4)), .val (.int (m0_1 p0 p1 p2 p3 q4)), .val (.int (m0_2 p0 p1 p2 p3 q4)), .val (.int (m0_3 p0 p1 p2 p3 q4)), .val (.int (p3 &&& (3 : Int32))), .val (.long (q4 &&& (9223372036854775807 : Int64))), .second, .val (.ref b31), .unset] [(.int (m0_3 p0 p1 p2 p3 q4))])) _
              refine XS.iconst X46.here hx rfl (hb hby at_245) ?_
              show Steps p.tables e below (T46.setTop (mkF m 246 #[.val (.int p0), .val (.int p1), .val (.int p2), .val (.int p3), .val (.long q4), .second, .val (.int (m0_0 p0 p1 p2 p3 q4)), .val (.int (m0_1 p0 p1 p2 p3 q4)), .val (.int (m0_2 p0 p1 p2 p3 q4)), .val (.int (m0_3 p0 p1 p2 p3 q4)), .val (.int (p3 &&& (3 : Int32))), .val (.long (q4 &&& (9223372036854775807 : Int64))), .second, .val (.ref b31), .unset] [(.int (2 : Int32)), (.int (m0_3 p0 p1 p2 p3 q4))])) _
              refine XS.icmpNo X46.here hx rfl (hb hby at_246) rfl (flt (by rw [(own_n3 p0 p1 p2 p3 q4 hc114_2 hc147_14)]; decide)).1 ?_
              show Steps p.tables e below (T46.setTop (mkF m 249 #[.val (.int p0), .val (.int p1), .val (.int p2), .val (.int p3), .val (.long q4), .second, .val (.int (m0_0 p0 p1 p2 p3 q4)), .val (.int (m0_1 p0 p1 p2 p3 q4)), .val (.int (m0_2 p0 p1 p2 p3 q4)), .val (.int (m0_3 p0 p1 p2 p3 q4)), .val (.int (p3 &&& (3 : Int32))), .val (.long (q4 &&& (9223372036854775807 : Int64))), .second, .val (.ref b31), .unset] [])) _
              refine XS.lload X46.here hx rfl (hb hby at_249) rfl ?_
              show Steps p.tables e below (T46.setTop (mkF m 251 #[.val (.int p0), .val (.int p1), .val (.int p2), .val (.int p3), .val (.long q4), .second, .val (.int (m0_0 p0 p1 p2 p3 q4)), .val (.int (m0_1 p0 p1 p2 p3 q4)), .val (.int (m0_2 p0 p1 p2 p3 q4)), .val (.int (m0_3 p0 p1 p2 p3 q4)), .val (.int (p3 &&& (3 : Int32))), .val (.long (q4 &&& (9223372036854775807 : Int64))), .second, .val (.ref b31), .unset] [(.long (q4 &&& (9223372036854775807 : Int64)))])) _
              refine XS.iload X46.here hx rfl (hb hby at_251) rfl ?_
              show Steps p.tables e below (T46.setTop (mkF m 253 #[.val (.int p0), .val (.int p1), .val (.int p2), .val (.int p3), .val (.long q4), .second, .val (.int (m0_0 p0 p1 p2 p3 q4)), .val (.int (m0_1 p0 p1 p2 p3 q4)), .val (.int (m0_2 p0 p1 p2 p3 q4)), .val (.int (m0_3 p0 p1 p2 p3 q4)), .val (.int (p3 &&& (3 : Int32))), .val (.long (q4 &&& (9223372036854775807 : Int64))), .second, .val (.ref b31), .unset] [(.int (m0_1 p0 p1 p2 p3 q4)), (.long (q4 &&& (9223372036854775807 : Int64)))])) _
              refine XS.i2l X46.here hx rfl (hb hby at_253) rfl ?_
              show Steps p.tables e below (T46.setTop (mkF m 254 #[.val (.int p0), .val (.int p1), .val (.int p2), .val (.int p3), .val (.long q4), .second, .val (.int (m0_0 p0 p1 p2 p3 q4)), .val (.int (m0_1 p0 p1 p2 p3 q4)), .val (.int (m0_2 p0 p1 p2 p3 q4)), .val (.int (m0_3 p0 p1 p2 p3 q4)), .val (.int (p3 &&& (3 : Int32))), .val (.long (q4 &&& (9223372036854775807 : Int64))), .second, .val (.ref b31), .unset] [(.long ((m0_1 p0 p1 p2 p3 q4).toInt64)), (.long (q4 &&& (9223372036854775807 : Int64)))])) _
              refine XS.lcmp X46.here hx rfl (hb hby at_254) rfl ?_
              show Steps p.tables e below (T46.setTop (mkF m 255 #[.val (.int p0), .val (.int p1), .val (.int p2), .val (.int p3), .val (.long q4), .second, .val (.int (m0_0 p0 p1 p2 p3 q4)), .val (.int (m0_1 p0 p1 p2 p3 q4)), .val (.int (m0_2 p0 p1 p2 p3 q4)), .val (.int (m0_3 p0 p1 p2 p3 q4)), .val (.int (p3 &&& (3 : Int32))), .val (.long (q4 &&& (9223372036854775807 : Int64))), .second, .val (.ref b31), .unset] [(.int (lcmpW (q4 &&& (9223372036854775807 : Int64)) ((m0_1 p0 p1 p2 p3 q4).toInt64)))])) _
              refine XS.ifNo X46.here hx rfl (hb hby at_255) rfl ((if0 _ _).trans (flt (fun q => hm255_48 ((lw_gt _ _).mp q))).2.2.1) ?_
              show Steps p.tables e below (T46.setTop (mkF m 258 #[.val (.int p0), .val (.int p1), .val (.int p2), .val (.int p3), .val (.long q4), .second, .val (.int (m0_0 p0 p1 p2 p3 q4)), .val (.int (m0_1 p0 p1 p2 p3 q4)), .val (.int (m0_2 p0 p1 p2 p3 q4)), .val (.int (m0_3 p0 p1 p2 p3 q4)), .val (.int (p3 &&& (3 : Int32))), .val (.long (q4 &&& (9223372036854775807 : Int64))), .second, .val (.ref b31), .unset] [])) _
              refine XS.iconst X46.here hx rfl (hb hby at_258) ?_
              show Steps p.tables e below (T46.setTop (mkF m 259 #[.val (.int p0), .val (.int p1), .val (.int p2), .val (.int p3), .val (.long q4), .second, .val (.int (m0_0 p0 p1 p2 p3 q4)), .val (.int (m0_1 p0 p1 p2 p3 q4)), .val (.int (m0_2 p0 p1 p2 p3 q4)), .val (.int (m0_3 p0 p1 p2 p3 q4)), .val (.int (p3 &&& (3 : Int32))), .val (.long (q4 &&& (9223372036854775807 : Int64))), .second, .val (.ref b31), .unset] [(.int (1 : Int32))])) _
              refine XS.istore X46.here hx rfl (hb hby at_259) rfl (l' := #[.val (.int p0), .val (.int p1), .val (.int p2), .val (.int p3), .val (.long q4), .second, .val (.int (m0_0 p0 p1 p2 p3 q4)), .val (.int (m0_1 p0 p1 p2 p3 q4)), .val (.int (m0_2 p0 p1 p2 p3 q4)), .val (.int (m0_3 p0 p1 p2 p3 q4)), .val (.int (p3 &&& (3 : Int32))), .val (.long (q4 &&& (9223372036854775807 : Int64))), .second, .val (.ref b31), .val (.int (1 : Int32))]) rfl ?_
              show Steps p.tables e below (T46.setTop (mkF m 261 #[.val (.int p0), .val (.int p1), .val (.int p2), .val (.int p3), .val (.long q4), .second, .val (.int (m0_0 p0 p1 p2 p3 q4)), .val (.int (m0_1 p0 p1 p2 p3 q4)), .val (.int (m0_2 p0 p1 p2 p3 q4)), .val (.int (m0_3 p0 p1 p2 p3 q4)), .val (.int (p3 &&& (3 : Int32))), .val (.long (q4 &&& (9223372036854775807 : Int64))), .second, .val (.ref b31), .val (.int (1 : Int32))] [])) _
              refine XS.goto X46.here hx rfl (pc0 := 261) (pc' := 288) rfl (hb hby at_261) (by decide) (by decide) ?_
              exact kt
          · rw [show (m0_6 p0 p1 p2 p3 q4) = (0 : Int32) from by unfold m0_6; rw [if_neg hm234_47]] at kt
            show Steps p.tables e below (T46.setTop (mkF m 234 #[.val (.int p0), .val (.int p1), .val (.int p2), .val (.int p3), .val (.long q4), .second, .val (.int (m0_0 p0 p1 p2 p3 q4)), .val (.int (m0_1 p0 p1 p2 p3 q4)), .val (.int (m0_2 p0 p1 p2 p3 q4)), .val (.int (m0_3 p0 p1 p2 p3 q4)), .val (.int (p3 &&& (3 : Int32))), .val (.long (q4 &&& (9223372036854775807 : Int64))), .second, .val (.ref b31), .unset] [(.int (lcmpW (q4 &&& (9223372036854775807 : Int64)) ((m0_0 p0 p1 p2 p3 q4).toInt64)))])) _
            refine XS.ifNo X46.here hx rfl (hb hby at_234) rfl ((if0 _ _).trans (flt (fun q => hm234_47 ((lw_gt _ _).mp q))).2.2.1) ?_
            show Steps p.tables e below (T46.setTop (mkF m 237 #[.val (.int p0), .val (.int p1), .val (.int p2), .val (.int p3), .val (.long q4), .second, .val (.int (m0_0 p0 p1 p2 p3 q4)), .val (.int (m0_1 p0 p1 p2 p3 q4)), .val (.int (m0_2 p0 p1 p2 p3 q4)), .val (.int (m0_3 p0 p1 p2 p3 q4)), .val (.int (p3 &&& (3 : Int32))), .val (.long (q4 &&& (9223372036854775807 : Int64))), .second, .val (.ref b31), .unset] [])) _
            refine XS.iconst X46.here hx rfl (hb hby at_237) ?_
            show Steps p.tables e below (T46.setTop (mkF m 238 #[.val (.int p0), .val (.int p1), .val (.int p2), .val (.int p3), .val (.long q4), .second, .val (.int (m0_0 p0 p1 p2 p3 q4)), .val (.int (m0_1 p0 p1 p2 p3 q4)), .val (.int (m0_2 p0 p1 p2 p3 q4)), .val (.int (m0_3 p0 p1 p2 p3 q4)), .val (.int (p3 &&& (3 : Int32))), .val (.long (q4 &&& (9223372036854775807 : Int64))), .second, .val (.ref b31), .unset] [(.int (0 : Int32))])) _
            refine XS.istore X46.here hx rfl (hb hby at_238) rfl (l' := #[.val (.int p0), .val (.int p1), .val (.int p2), .val (.int p3), .val (.long q4), .second, .val (.int (m0_0 p0 p1 p2 p3 q4)), .val (.int (m0_1 p0 p1 p2 p3 q4)), .val (.int (m0_2 p0 p1 p2 p3 q4)), .val (.int (m0_3 p0 p1 p2 p3 q4)), .val (.int (p3 &&& (3 : Int32))), .val (.long (q4 &&& (9223372036854775807 : Int64))), .second, .val (.ref b31), .val (.int (0 : Int32))]) rfl ?_
            show Steps p.tables e below (T46.setTop (mkF m 240 #[.val (.int p0), .val (.int p1), .val (.int p2), .val (.int p3), .val (.long q4), .second, .val (.int (m0_0 p0 p1 p2 p3 q4)), .val (.int (m0_1 p0 p1 p2 p3 q4)), .val (.int (m0_2 p0 p1 p2 p3 q4)), .val (.int (m0_3 p0 p1 p2 p3 q4)), .val (.int (p3 &&& (3 : Int32))), .val (.long (q4 &&& (9223372036854775807 : Int64))), .second, .val (.ref b31), .val (.int (0 : Int32))] [])) _
            refine XS.goto X46.here hx rfl (pc0 := 240) (pc' := 288) rfl (hb hby at_240) (by decide) (by decide) ?_
            exact kt
        obtain ⟨cq50, kq50, q50a, q50b, q50c⟩ := isOf hZ rfl P46_0
        obtain ⟨_, _, ⟨T50, L50, k50, n50⟩, -, X50, ⟨Lc50, hQ50, l50, y50, z50⟩, st50⟩ := X46.virtualBack hx (y := (⟨"com/example/byteloom/byteloom/SectionLayout", "sectionFor", "(J)I"⟩ : MethodName)) (z := (⟨"com/example/byteloom/byteloom/SectionLayout", "sectionFor", "(J)I"⟩ : MethodName)) hown (mvT hZ (hw _ (List.mem_of_getElem? (i := 42) rfl))) (mvT hZ (hw _ (List.mem_of_getElem? (i := 43) rfl))) (notFace_of_selects (args := #[]) (mvT hZ (hw _ (List.mem_of_getElem? (i := 45) rfl)))) (mvT hZ (hw _ (List.mem_of_getElem? (i := 45) rfl))) (mvT hZ (hw _ (List.mem_of_getElem? (i := 44) rfl))) (by decide) (backOf (W := 0) (rm4c l Z aw hw [] b31 (q4 &&& (9223372036854775807 : Int64)) bb46 k32 (m0_0 p0 p1 p2 p3 q4) (m0_1 p0 p1 p2 p3 q4) (m0_2 p0 p1 p2 p3 q4) T46.heap n0 Z46 P46_1 P46_2 (own_mx q4)) hZ (hw _ (List.mem_of_getElem? (i := 46) rfl)) (hw _ (List.mem_of_getElem? (i := 6) rfl)) (by decide) (by decide)) q50a q50c (g := (mkF m 292 #[.val (.int p0), .val (.int p1), .val (.int p2), .val (.int p3), .val (.long q4), .second, .val (.int (m0_0 p0 p1 p2 p3 q4)), .val (.int (m0_1 p0 p1 p2 p3 q4)), .val (.int (m0_2 p0 p1 p2 p3 q4)), .val (.int (m0_3 p0 p1 p2 p3 q4)), .val (.int (p3 &&& (3 : Int32))), .val (.long (q4 &&& (9223372036854775807 : Int64))), .second, .val (.ref b31), .val (.int (m0_6 p0 p1 p2 p3 q4))] [(.long (q4 &&& (9223372036854775807 : Int64))), (.ref b31)])) rfl (by rw [hml]; rfl) (Steps.refl _) (argsL := [(.long (q4 &&& (9223372036854775807 : Int64)))]) (rest := []) (lenOf pd_0_1 rfl) rfl (by show 2 * 0 + _ ≤ _; exact Nat.le_of_eq rfl) (hb hby at_292) (fun _ _ => ⟨rfl, rfl, (by decide : 9 + 0 ≤ _), (by decide : 107 + 0 ≤ _)⟩)
        dsimp only [Pt.U, Pt.locs, Pt.cells, Pt.slots] at X50 l50 y50 z50 st50 hQ50
        rw [l50, y50, z50] at X50
        obtain ⟨rfl, Nq50, e50⟩ := hQ50
        have N50 := Fr.app N46 Nq50
        refine own_back (b := T50.setTop (mkF m 297 #[.val (.int p0), .val (.int p1), .val (.int p2), .val (.int p3), .val (.long q4), .second, .val (.int (m0_0 p0 p1 p2 p3 q4)), .val (.int (m0_1 p0 p1 p2 p3 q4)), .val (.int (m0_2 p0 p1 p2 p3 q4)), .val (.int (m0_3 p0 p1 p2 p3 q4)), .val (.int (p3 &&& (3 : Int32))), .val (.long (q4 &&& (9223372036854775807 : Int64))), .second, .val (.ref b31), .val (.int (m0_6 p0 p1 p2 p3 q4))] [(.int (m0_6 p0 p1 p2 p3 q4)), (.int (f4c (q4 &&& (9223372036854775807 : Int64)) (m0_0 p0 p1 p2 p3 q4) (m0_1 p0 p1 p2 p3 q4) (m0_2 p0 p1 p2 p3 q4)))])) (fun t kt => ?_) ?_
        · show Steps p.tables e below (T46.setTop (mkF m 288 #[.val (.int p0), .val (.int p1), .val (.int p2), .val (.int p3), .val (.long q4), .second, .val (.int (m0_0 p0 p1 p2 p3 q4)), .val (.int (m0_1 p0 p1 p2 p3 q4)), .val (.int (m0_2 p0 p1 p2 p3 q4)), .val (.int (m0_3 p0 p1 p2 p3 q4)), .val (.int (p3 &&& (3 : Int32))), .val (.long (q4 &&& (9223372036854775807 : Int64))), .second, .val (.ref b31), .val (.int (m0_6 p0 p1 p2 p3 q4))] [])) _
          refine XS.aload X46.here hx rfl (hb hby at_288) rfl rfl ?_
          show Steps p.tables e below (T46.setTop (mkF m 290 #[.val (.int p0), .val (.int p1), .val (.int p2), .val (.int p3), .val (.long q4), .second, .val (.int (m0_0 p0 p1 p2 p3 q4)), .val (.int (m0_1 p0 p1 p2 p3 q4)), .val (.int (m0_2 p0 p1 p2 p3 q4)), .val (.int (m0_3 p0 p1 p2 p3 q4)), .val (.int (p3 &&& (3 : Int32))), .val (.long (q4 &&& (9223372036854775807 : Int64))), .second, .val (.ref b31), .val (.int (m0_6 p0 p1 p2 p3 q4))] [(.ref b31)])) _
          refine XS.lload X46.here hx rfl (hb hby at_290) rfl ?_
          show Steps p.tables e below (T46.setTop (mkF m 292 #[.val (.int p0), .val (.int p1), .val (.int p2), .val (.int p3), .val (.long q4), .second, .val (.int (m0_0 p0 p1 p2 p3 q4)), .val (.int (m0_1 p0 p1 p2 p3 q4)), .val (.int (m0_2 p0 p1 p2 p3 q4)), .val (.int (m0_3 p0 p1 p2 p3 q4)), .val (.int (p3 &&& (3 : Int32))), .val (.long (q4 &&& (9223372036854775807 : Int64))), .second, .val (.ref b31), .val (.int (m0_6 p0 p1 p2 p3 q4))] [(.long (q4 &&& (9223372036854775807 : Int64))), (.ref b31)])) _
          refine st50.trans ?_
          show Steps p.tables e below (T50.setTop (mkF m 295 #[.val (.int p0), .val (.int p1), .val (.int p2), .val (.int p3), .val (.long q4), .second, .val (.int (m0_0 p0 p1 p2 p3 q4)), .val (.int (m0_1 p0 p1 p2 p3 q4)), .val (.int (m0_2 p0 p1 p2 p3 q4)), .val (.int (m0_3 p0 p1 p2 p3 q4)), .val (.int (p3 &&& (3 : Int32))), .val (.long (q4 &&& (9223372036854775807 : Int64))), .second, .val (.ref b31), .val (.int (m0_6 p0 p1 p2 p3 q4))] [(.int (f4c (q4 &&& (9223372036854775807 : Int64)) (m0_0 p0 p1 p2 p3 q4) (m0_1 p0 p1 p2 p3 q4) (m0_2 p0 p1 p2 p3 q4)))])) _
          refine XS.iload X50.here hx rfl (hb hby at_295) rfl ?_
          exact kt
        by_cases hc297_51 : (f4c (q4 &&& (9223372036854775807 : Int64)) (m0_0 p0 p1 p2 p3 q4) (m0_1 p0 p1 p2 p3 q4) (m0_2 p0 p1 p2 p3 q4)) = (m0_6 p0 p1 p2 p3 q4)
        · refine own_back (b := T50.setTop (mkF m 305 #[.val (.int p0), .val (.int p1), .val (.int p2), .val (.int p3), .val (.long q4), .second, .val (.int (m0_0 p0 p1 p2 p3 q4)), .val (.int (m0_1 p0 p1 p2 p3 q4)), .val (.int (m0_2 p0 p1 p2 p3 q4)), .val (.int (m0_3 p0 p1 p2 p3 q4)), .val (.int (p3 &&& (3 : Int32))), .val (.long (q4 &&& (9223372036854775807 : Int64))), .second, .val (.ref b31), .val (.int (m0_6 p0 p1 p2 p3 q4))] [(.int (1 : Int32))])) (fun t kt => ?_) ?_
          · show Steps p.tables e below (T50.setTop (mkF m 297 #[.val (.int p0), .val (.int p1), .val (.int p2), .val (.int p3), .val (.long q4), .second, .val (.int (m0_0 p0 p1 p2 p3 q4)), .val (.int (m0_1 p0 p1 p2 p3 q4)), .val (.int (m0_2 p0 p1 p2 p3 q4)), .val (.int (m0_3 p0 p1 p2 p3 q4)), .val (.int (p3 &&& (3 : Int32))), .val (.long (q4 &&& (9223372036854775807 : Int64))), .second, .val (.ref b31), .val (.int (m0_6 p0 p1 p2 p3 q4))] [(.int (m0_6 p0 p1 p2 p3 q4)), (.int (f4c (q4 &&& (9223372036854775807 : Int64)) (m0_0 p0 p1 p2 p3 q4) (m0_1 p0 p1 p2 p3 q4) (m0_2 p0 p1 p2 p3 q4)))])) _
            refine XS.icmpNo X50.here hx rfl (hb hby at_297) rfl (teq hc297_51).2 ?_
            show Steps p.tables e below (T50.setTop (mkF m 300 #[.val (.int p0), .val (.int p1), .val (.int p2), .val (.int p3), .val (.long q4), .second, .val (.int (m0_0 p0 p1 p2 p3 q4)), .val (.int (m0_1 p0 p1 p2 p3 q4)), .val (.int (m0_2 p0 p1 p2 p3 q4)), .val (.int (m0_3 p0 p1 p2 p3 q4)), .val (.int (p3 &&& (3 : Int32))), .val (.long (q4 &&& (9223372036854775807 : Int64))), .second, .val (.ref b31), .val (.int (m0_6 p0 p1 p2 p3 q4))] [])) _
            refine XS.iconst X50.here hx rfl (hb hby at_300) ?_
            show Steps p.tables e below (T50.setTop (mkF m 301 #[.val (.int p0), .val (.int p1), .val (.int p2), .val (.int p3), .val (.long q4), .second, .val (.int (m0_0 p0 p1 p2 p3 q4)), .val (.int (m0_1 p0 p1 p2 p3 q4)), .val (.int (m0_2 p0 p1 p2 p3 q4)), .val (.int (m0_3 p0 p1 p2 p3 q4)), .val (.int (p3 &&& (3 : Int32))), .val (.long (q4 &&& (9223372036854775807 : Int64))), .second, .val (.ref b31), .val (.int (m0_6 p0 p1 p2 p3 q4))] [(.int (1 : Int32))])) _
            refine XS.goto X50.here hx rfl (pc0 := 301) (pc' := 305) rfl (hb hby at_301) (by decide) (by decide) ?_
            exact kt
          obtain ⟨fs, hr, hrun, hended, hEnd⟩ := Stand.leaveW (s := s) X50 hS46 (by rw [e50]; exact (Nat.le_refl _)) (v := some (.int (1 : Int32))) (fun h => by rw [Bd.returns] at h; cases h) (BodyLoose.notSynchronized Bd)
          refine ⟨_, _, ?_, hrun, hended, _, _, rfl, ?_, own_endW hEnd (by decide) (by decide)⟩
          · show Steps p.tables e below (T50.setTop (mkF m 305 #[.val (.int p0), .val (.int p1), .val (.int p2), .val (.int p3), .val (.long q4), .second, .val (.int (m0_0 p0 p1 p2 p3 q4)), .val (.int (m0_1 p0 p1 p2 p3 q4)), .val (.int (m0_2 p0 p1 p2 p3 q4)), .val (.int (m0_3 p0 p1 p2 p3 q4)), .val (.int (p3 &&& (3 : Int32))), .val (.long (q4 &&& (9223372036854775807 : Int64))), .second, .val (.ref b31), .val (.int (m0_6 p0 p1 p2 p3 q4))] [(.int (1 : Int32))])) _
            exact retN X50 hx (t := .boolean) Bd.returns (by simp) (hb hby at_305) hr
          · show Q0 Z p0 p1 p2 p3 q4 h0 n0 _ T50.heap _
            rw [e50]
            exact ⟨by rw [show f0 p0 p1 p2 p3 q4 = (1 : Int32) from by unfold f0; rw [if_pos hc51_1, if_neg hc114_2, if_neg hc147_14, if_pos hc297_51]], N50⟩
        · refine own_back (b := T50.setTop (mkF m 305 #[.val (.int p0), .val (.int p1), .val (.int p2), .val (.int p3), .val (.long q4), .second, .val (.int (m0_0 p0 p1 p2 p3 q4)), .val (.int (m0_1 p0 p1 p2 p3 q4)), .val (.int (m0_2 p0 p1 p2 p3 q4)), .val (.int (m0_3 p0 p1 p2 p3 q4)), .val (.int (p3 &&& (3 : Int32))), .val (.long (q4 &&& (9223372036854775807 : Int64))), .second, .val (.ref b31), .val (.int (m0_6 p0 p1 p2 p3 q4))] [(.int (0 : Int32))])) (fun t kt => ?_) ?_
          · show Steps p.tables e below (T50.setTop (mkF m 297 #[.val (.int p0), .val (.int p1), .val (.int p2), .val (.int p3), .val (.long q4), .second, .val (.int (m0_0 p0 p1 p2 p3 q4)), .val (.int (m0_1 p0 p1 p2 p3 q4)), .val (.int (m0_2 p0 p1 p2 p3 q4)), .val (.int (m0_3 p0 p1 p2 p3 q4)), .val (.int (p3 &&& (3 : Int32))), .val (.long (q4 &&& (9223372036854775807 : Int64))), .second, .val (.ref b31), .val (.int (m0_6 p0 p1 p2 p3 q4))] [(.int (m0_6 p0 p1 p2 p3 q4)), (.int (f4c (q4 &&& (9223372036854775807 : Int64)) (m0_0 p0 p1 p2 p3 q4) (m0_1 p0 p1 p2 p3 q4) (m0_2 p0 p1 p2 p3 q4)))])) _
            refine XS.icmpYes X50.here hx rfl (pc0 := 297) (pc' := 304) rfl (hb hby at_297) rfl (feq hc297_51).2 (by decide) (by decide) ?_
            show Steps p.tables e below (T50.setTop (mkF m 304 #[.val (.int p0), .val (.int p1), .val (.int p2), .val (.int p3), .val (.long q4), .second, .val (.int (m0_0 p0 p1 p2 p3 q4)), .val (.int (m0_1 p0 p1 p2 p3 q4)), .val (.int (m0_2 p0 p1 p2 p3 q4)), .val (.int (m0_3 p0 p1 p2 p3 q4)), .val (.int (p3 &&& (3 : Int32))), .val (.long (q4 &&& (9223372036854775807 : Int64))), .second, .val (.ref b31), .val (.int (m0_6 p0 p1 p2 p3 q4))] [])) _
            refine XS.iconst X50.here hx rfl (hb hby at_304) ?_
            exact kt
          obtain ⟨fs, hr, hrun, hended, hEnd⟩ := Stand.leaveW (s := s) X50 hS46 (by rw [e50]; exact (Nat.le_refl _)) (v := some (.int (0 : Int32))) (fun h => by rw [Bd.returns] at h; cases h) (BodyLoose.notSynchronized Bd)
          refine ⟨_, _, ?_, hrun, hended, _, _, rfl, ?_, own_endW hEnd (by decide) (by decide)⟩
          · show Steps p.tables e below (T50.setTop (mkF m 305 #[.val (.int p0), .val (.int p1), .val (.int p2), .val (.int p3), .val (.long q4), .second, .val (.int (m0_0 p0 p1 p2 p3 q4)), .val (.int (m0_1 p0 p1 p2 p3 q4)), .val (.int (m0_2 p0 p1 p2 p3 q4)), .val (.int (m0_3 p0 p1 p2 p3 q4)), .val (.int (p3 &&& (3 : Int32))), .val (.long (q4 &&& (9223372036854775807 : Int64))), .second, .val (.ref b31), .val (.int (m0_6 p0 p1 p2 p3 q4))] [(.int (0 : Int32))])) _
            exact retN X50 hx (t := .boolean) Bd.returns (by simp) (hb hby at_305) hr
          · show Q0 Z p0 p1 p2 p3 q4 h0 n0 _ T50.heap _
            rw [e50]
            exact ⟨by rw [show f0 p0 p1 p2 p3 q4 = (0 : Int32) from by unfold f0; rw [if_pos hc51_1, if_neg hc114_2, if_neg hc147_14, if_neg hc297_51]], N50⟩
  · refine own_back (b := s₁.setTop (mkF m 68 #[.val (.int p0), .val (.int p1), .val (.int p2), .val (.int p3), .val (.long q4), .second, .val (.int (m0_0 p0 p1 p2 p3 q4)), .val (.int (m0_1 p0 p1 p2 p3 q4)), .val (.int (m0_2 p0 p1 p2 p3 q4)), .val (.int (m0_3 p0 p1 p2 p3 q4)), .val (.int (p3 &&& (3 : Int32))), .unset, .unset, .unset, .unset] [(.int (1 : Int32)), (.int (p3 &&& (3 : Int32)))])) (fun t kt => ?_) ?_
    · show Steps p.tables e below (s₁.setTop (mkF m 51 #[.val (.int p0), .val (.int p1), .val (.int p2), .val (.int p3), .val (.long q4), .second, .val (.int (m0_0 p0 p1 p2 p3 q4)), .val (.int (m0_1 p0 p1 p2 p3 q4)), .val (.int (m0_2 p0 p1 p2 p3 q4)), .val (.int (m0_3 p0 p1 p2 p3 q4)), .val (.int (p3 &&& (3 : Int32))), .unset, .unset, .unset, .unset] [(.int (p3 &&& (3 : Int32)))])) _
      refine XS.ifYes X0.here hx rfl (pc0 := 51) (pc' := 65) rfl (hb hby at_51) rfl ((if0 _ _).trans (feq hc51_1).2) (by decide) (by decide) ?_
      show Steps p.tables e below (s₁.setTop (mkF m 65 #[.val (.int p0), .val (.int p1), .val (.int p2), .val (.int p3), .val (.long q4), .second, .val (.int (m0_0 p0 p1 p2 p3 q4)), .val (.int (m0_1 p0 p1 p2 p3 q4)), .val (.int (m0_2 p0 p1 p2 p3 q4)), .val (.int (m0_3 p0 p1 p2 p3 q4)), .val (.int (p3 &&& (3 : Int32))), .unset, .unset, .unset, .unset] [])) _
      refine XS.iload X0.here hx rfl (hb hby at_65) rfl ?_
      show Steps p.tables e below (s₁.setTop (mkF m 67 #[.val (.int p0), .val (.int p1), .val (.int p2), .val (.int p3), .val (.long q4), .second, .val (.int (m0_0 p0 p1 p2 p3 q4)), .val (.int (m0_1 p0 p1 p2 p3 q4)), .val (.int (m0_2 p0 p1 p2 p3 q4)), .val (.int (m0_3 p0 p1 p2 p3 q4)), .val (.int (p3 &&& (3 : Int32))), .unset, .unset, .unset, .unset] [(.int (p3 &&& (3 : Int32)))])) _
      refine XS.iconst X0.here hx rfl (hb hby at_67) ?_
      exact kt
    refine own_back (b := s₁.setTop (mkF m 89 #[.val (.int p0), .val (.int p1), .val (.int p2), .val (.int p3), .val (.long q4), .second, .val (.int (m0_0 p0 p1 p2 p3 q4)), .val (.int (m0_1 p0 p1 p2 p3 q4)), .val (.int (m0_2 p0 p1 p2 p3 q4)), .val (.int (m0_3 p0 p1 p2 p3 q4)), .val (.int (p3 &&& (3 : Int32))), .unset, .unset, .unset, .unset] [(.int (m0_7 p0 p1 p2 p3 q4))])) (fun t kt => ?_) ?_
    · by_cases hm68_52 : (p3 &&& (3 : Int32)) = (1 : Int32)
      · rw [show (m0_7 p0 p1 p2 p3 q4) = (m0_0 p0 p1 p2 p3 q4) from by unfold m0_7; rw [if_pos hm68_52]] at kt
        show Steps p.tables e below (s₁.setTop (mkF m 68 #[.val (.int p0), .val (.int p1), .val (.int p2), .val (.int p3), .val (.long q4), .second, .val (.int (m0_0 p0 p1 p2 p3 q4)), .val (.int (m0_1 p0 p1 p2 p3 q4)), .val (.int (m0_2 p0 p1 p2 p3 q4)), .val (.int (m0_3 p0 p1 p2 p3 q4)), .val (.int (p3 &&& (3 : Int32))), .unset, .unset, .unset, .unset] [(.int (1 : Int32)), (.int (p3 &&& (3 : Int32)))])) _
        refine XS.icmpNo X0.here hx rfl (hb hby at_68) rfl (teq hm68_52).2 ?_
        show Steps p.tables e below (s₁.setTop (mkF m 71 #[.val (.int p0), .val (.int p1), .val (.int p2), .val (.int p3), .val (.long q4), .second, .val (.int (m0_0 p0 p1 p2 p3 q4)), .val (.int (m0_1 p0 p1 p2 p3 q4)), .val (.int (m0_2 p0 p1 p2 p3 q4)), .val (.int (m0_3 p0 p1 p2 p3 q4)), .val (.int (p3 &&& (3 : Int32))), .unset, .unset, .unset, .unset] [])) _
        refine XS.iload X0.here hx rfl (hb hby at_71) rfl ?_
        show Steps p.tables e below (s₁.setTop (mkF m 73 #[.val (.int p0), .val (.int p1), .val (.int p2), .val (.int p3), .val (.long q4), .second, .val (.int (m0_0 p0 p1 p2 p3 q4)), .val (.int (m0_1 p0 p1 p2 p3 q4)), .val (.int (m0_2 p0 p1 p2 p3 q4)), .val (.int (m0_3 p0 p1 p2 p3 q4)), .val (.int (p3 &&& (3 : Int32))), .unset, .unset, .unset, .unset] [(.int (m0_0 p0 p1 p2 p3 q4))])) _
        refine XS.goto X0.here hx rfl (pc0 := 73) (pc' := 89) rfl (hb hby at_73) (by decide) (by decide) ?_
        exact kt
      · by_cases hm79_53 : (p3 &&& (3 : Int32)) = (2 : Int32)
        · rw [show (m0_7 p0 p1 p2 p3 q4) = (m0_1 p0 p1 p2 p3 q4) from by unfold m0_7; rw [if_neg hm68_52, if_pos hm79_53]] at kt
          show Steps p.tables e below (s₁.setTop (mkF m 68 #[.val (.int p0), .val (.int p1), .val (.int p2), .val (.int p3), .val (.long q4), .second, .val (.int (m0_0 p0 p1 p2 p3 q4)), .val (.int (m0_1 p0 p1 p2 p3 q4)), .val (.int (m0_2 p0 p1 p2 p3 q4)), .val (.int (m0_3 p0 p1 p2 p3 q4)), .val (.int (p3 &&& (3 : Int32))), .unset, .unset, .unset, .unset] [(.int (1 : Int32)), (.int (p3 &&& (3 : Int32)))])) _
          refine XS.icmpYes X0.here hx rfl (pc0 := 68) (pc' := 76) rfl (hb hby at_68) rfl (feq hm68_52).2 (by decide) (by decide) ?_
          show Steps p.tables e below (s₁.setTop (mkF m 76 #[.val (.int p0), .val (.int p1), .val (.int p2), .val (.int p3), .val (.long q4), .second, .val (.int (m0_0 p0 p1 p2 p3 q4)), .val (.int (m0_1 p0 p1 p2 p3 q4)), .val (.int (m0_2 p0 p1 p2 p3 q4)), .val (.int (m0_3 p0 p1 p2 p3 q4)), .val (.int (p3 &&& (3 : Int32))), .unset, .unset, .unset, .unset] [])) _
          refine XS.iload X0.here hx rfl (hb hby at_76) rfl ?_
          show Steps p.tables e below (s₁.setTop (mkF m 78 #[.val (.int p0), .val (.int p1), .val (.int p2), .val (.int p3), .val (.long q4), .second, .val (.int (m0_0 p0 p1 p2 p3 q4)), .val (.int (m0_1 p0 p1 p2 p3 q4)), .val (.int (m0_2 p0 p1 p2 p3 q4)), .val (.int (m0_3 p0 p1 p2 p3 q4)), .val (.int (p3 &&& (3 : Int32))), .unset, .unset, .unset, .unset] [(.int (p3 &&& (3 : Int32)))])) _
          refine XS.iconst X0.here hx rfl (hb hby at_78) ?_
          show Steps p.tables e below (s₁.setTop (mkF m 79 #[.val (.int p0), .val (.int p1), .val (.int p2), .val (.int p3), .val (.long q4), .second, .val (.int (m0_0 p0 p1 p2 p3 q4)), .val (.int (m0_1 p0 p1 p2 p3 q4)), .val (.int (m0_2 p0 p1 p2 p3 q4)), .val (.int (m0_3 p0 p1 p2 p3 q4)), .val (.int (p3 &&& (3 : Int32))), .unset, .unset, .unset, .unset] [(.int (2 : Int32)), (.int (p3 &&& (3 : Int32)))])) _
          refine XS.icmpNo X0.here hx rfl (hb hby at_79) rfl (teq hm79_53).2 ?_
          show Steps p.tables e below (s₁.setTop (mkF m 82 #[.val (.int p0), .val (.int p1), .val (.int p2), .val (.int p3), .val (.long q4), .second, .val (.int (m0_0 p0 p1 p2 p3 q4)), .val (.int (m0_1 p0 p1 p2 p3 q4)), .val (.int (m0_2 p0 p1 p2 p3 q4)), .val (.int (m0_3 p0 p1 p2 p3 q4)), .val (.int (p3 &&& (3 : Int32))), .unset, .unset, .unset, .unset] [])) _
          refine XS.iload X0.here hx rfl (hb hby at_82) rfl ?_
          show Steps p.tables e below (s₁.setTop (mkF m 84 #[.val (.int p0), .val (.int p1), .val (.int p2), .val (.int p3), .val (.long q4), .second, .val (.int (m0_0 p0 p1 p2 p3 q4)), .val (.int (m0_1 p0 p1 p2 p3 q4)), .val (.int (m0_2 p0 p1 p2 p3 q4)), .val (.int (m0_3 p0 p1 p2 p3 q4)), .val (.int (p3 &&& (3 : Int32))), .unset, .unset, .unset, .unset] [(.int (m0_1 p0 p1 p2 p3 q4))])) _
          refine XS.goto X0.here hx rfl (pc0 := 84) (pc' := 89) rfl (hb hby at_84) (by decide) (by decide) ?_
          exact kt
        · rw [show (m0_7 p0 p1 p2 p3 q4) = (m0_2 p0 p1 p2 p3 q4) from by unfold m0_7; rw [if_neg hm68_52, if_neg hm79_53]] at kt
          show Steps p.tables e below (s₁.setTop (mkF m 68 #[.val (.int p0), .val (.int p1), .val (.int p2), .val (.int p3), .val (.long q4), .second, .val (.int (m0_0 p0 p1 p2 p3 q4)), .val (.int (m0_1 p0 p1 p2 p3 q4)), .val (.int (m0_2 p0 p1 p2 p3 q4)), .val (.int (m0_3 p0 p1 p2 p3 q4)), .val (.int (p3 &&& (3 : Int32))), .unset, .unset, .unset, .unset] [(.int (1 : Int32)), (.int (p3 &&& (3 : Int32)))])) _
          refine XS.icmpYes X0.here hx rfl (pc0 := 68) (pc' := 76) rfl (hb hby at_68) rfl (feq hm68_52).2 (by decide) (by decide) ?_
          show Steps p.tables e below (s₁.setTop (mkF m 76 #[.val (.int p0), .val (.int p1), .val (.int p2), .val (.int p3), .val (.long q4), .second, .val (.int (m0_0 p0 p1 p2 p3 q4)), .val (.int (m0_1 p0 p1 p2 p3 q4)), .val (.int (m0_2 p0 p1 p2 p3 q4)), .val (.int (m0_3 p0 p1 p2 p3 q4)), .val (.int (p3 &&& (3 : Int32))), .unset, .unset, .unset, .unset] [])) _
          refine XS.iload X0.here hx rfl (hb hby at_76) rfl ?_
          show Steps p.tables e below (s₁.setTop (mkF m 78 #[.val (.int p0), .val (.int p1), .val (.int p2), .val (.int p3), .val (.long q4), .second, .val (.int (m0_0 p0 p1 p2 p3 q4)), .val (.int (m0_1 p0 p1 p2 p3 q4)), .val (.int (m0_2 p0 p1 p2 p3 q4)), .val (.int (m0_3 p0 p1 p2 p3 q4)), .val (.int (p3 &&& (3 : Int32))), .unset, .unset, .unset, .unset] [(.int (p3 &&& (3 : Int32)))])) _
          refine XS.iconst X0.here hx rfl (hb hby at_78) ?_
          show Steps p.tables e below (s₁.setTop (mkF m 79 #[.val (.int p0), .val (.int p1), .val (.int p2), .val (.int p3), .val (.long q4), .second, .val (.int (m0_0 p0 p1 p2 p3 q4)), .val (.int (m0_1 p0 p1 p2 p3 q4)), .val (.int (m0_2 p0 p1 p2 p3 q4)), .val (.int (m0_3 p0 p1 p2 p3 q4)), .val (.int (p3 &&& (3 : Int32))), .unset, .unset, .unset, .unset] [(.int (2 : Int32)), (.int (p3 &&& (3 : Int32)))])) _
          refine XS.icmpYes X0.here hx rfl (pc0 := 79) (pc' := 87) rfl (hb hby at_79) rfl (feq hm79_53).2 (by decide) (by decide) ?_
          show Steps p.tables e below (s₁.setTop (mkF m 87 #[.val (.int p0), .val (.int p1), .val (.int p2), .val (.int p3), .val (.long q4), .second, .val (.int (m0_0 p0 p1 p2 p3 q4)), .val (.int (m0_1 p0 p1 p2 p3 q4)), .val (.int (m0_2 p0 p1 p2 p3 q4)), .val (.int (m0_3 p0 p1 p2 p3 q4)), .val (.int (p3 &&& (3 : Int32))), .unset, .unset, .unset, .unset] [])) _
          refine XS.iload X0.here hx rfl (hb hby at_87) rfl ?_
          exact kt
    refine own_back (b := s₁.setTop (mkF m 114 #[.val (.int p0), .val (.int p1), .val (.int p2), .val (.int p3), .val (.long q4), .second, .val (.int (m0_0 p0 p1 p2 p3 q4)), .val (.int (m0_1 p0 p1 p2 p3 q4)), .val (.int (m0_2 p0 p1 p2 p3 q4)), .val (.int (m0_3 p0 p1 p2 p3 q4)), .val (.int (p3 &&& (3 : Int32))), .val (.long (m0_8 p0 p1 p2 p3 q4)), .second, .val (.int (m0_7 p0 p1 p2 p3 q4)), .val (.int (((q4 &&& (3 : Int64)).toInt32) - (1 : Int32)))] [(.int (1 : Int32)), (.int (m0_3 p0 p1 p2 p3 q4))])) (fun t kt => ?_) ?_
    · show Steps p.tables e below (s₁.setTop (mkF m 89 #[.val (.int p0), .val (.int p1), .val (.int p2), .val (.int p3), .val (.long q4), .second, .val (.int (m0_0 p0 p1 p2 p3 q4)), .val (.int (m0_1 p0 p1 p2 p3 q4)), .val (.int (m0_2 p0 p1 p2 p3 q4)), .val (.int (m0_3 p0 p1 p2 p3 q4)), .val (.int (p3 &&& (3 : Int32))), .unset, .unset, .unset, .unset] [(.int (m0_7 p0 p1 p2 p3 q4))])) _
      refine XS.istore X0.here hx rfl (hb hby at_89) rfl (l' := #[.val (.int p0), .val (.int p1), .val (.int p2), .val (.int p3), .val (.long q4), .second, .val (.int (m0_0 p0 p1 p2 p3 q4)), .val (.int (m0_1 p0 p1 p2 p3 q4)), .val (.int (m0_2 p0 p1 p2 p3 q4)), .val (.int (m0_3 p0 p1 p2 p3 q4)), .val (.int (p3 &&& (3 : Int32))), .unset, .unset, .val (.int (m0_7 p0 p1 p2 p3 q4)), .unset]) rfl ?_
      show Steps p.tables e below (s₁.setTop (mkF m 91 #[.val (.int p0), .val (.int p1), .val (.int p2), .val (.int p3), .val (.long q4), .second, .val (.int (m0_0 p0 p1 p2 p3 q4)), .val (.int (m0_1 p0 p1 p2 p3 q4)), .val (.int (m0_2 p0 p1 p2 p3 q4)), .val (.int (m0_3 p0 p1 p2 p3 q4)), .val (.int (p3 &&& (3 : Int32))), .unset, .unset, .val (.int (m0_7 p0 p1 p2 p3 q4)), .unset] [])) _
      refine XS.lload X0.here hx rfl (hb hby at_91) rfl ?_
      show Steps p.tables e below (s₁.setTop (mkF m 93 #[.val (.int p0), .val (.int p1), .val (.int p2), .val (.int p3), .val (.long q4), .second, .val (.int (m0_0 p0 p1 p2 p3 q4)), .val (.int (m0_1 p0 p1 p2 p3 q4)), .val (.int (m0_2 p0 p1 p2 p3 q4)), .val (.int (m0_3 p0 p1 p2 p3 q4)), .val (.int (p3 &&& (3 : Int32))), .unset, .unset, .val (.int (m0_7 p0 p1 p2 p3 q4)), .unset] [(.long q4)])) _
      refine X0.ldc2Long hx hown (mvT hZ (hw _ (List.mem_of_getElem? (i := 3) rfl))) (g := (mkF m 93 #[.val (.int p0), .val (.int p1), .val (.int p2), .val (.int p3), .val (.long q4), .second, .val (.int (m0_0 p0 p1 p2 p3 q4)), .val (.int (m0_1 p0 p1 p2 p3 q4)), .val (.int (m0_2 p0 p1 p2 p3 q4)), .val (.int (m0_3 p0 p1 p2 p3 q4)), .val (.int (p3 &&& (3 : Int32))), .unset, .unset, .val (.int (m0_7 p0 p1 p2 p3 q4)), .unset] [(.long q4)])) rfl (hb hby at_93) _ ?_
      show Steps p.tables e below (s₁.setTop (mkF m 96 #[.val (.int p0), .val (.int p1), .val (.int p2), .val (.int p3), .val (.long q4), .second, .val (.int (m0_0 p0 p1 p2 p3 q4)), .val (.int (m0_1 p0 p1 p2 p3 q4)), .val (.int (m0_2 p0 p1 p2 p3 q4)), .val (.int (m0_3 p0 p1 p2 p3 q4)), .val (.int (p3 &&& (3 : Int32))), .unset, .unset, .val (.int (m0_7 p0 p1 p2 p3 q4)), .unset] [(.long (3 : Int64)), (.long q4)])) _
      refine XS.land X0.here hx rfl (hb hby at_96) rfl ?_
      show Steps p.tables e below (s₁.setTop (mkF m 97 #[.val (.int p0), .val (.int p1), .val (.int p2), .val (.int p3), .val (.long q4), .second, .val (.int (m0_0 p0 p1 p2 p3 q4)), .val (.int (m0_1 p0 p1 p2 p3 q4)), .val (.int (m0_2 p0 p1 p2 p3 q4)), .val (.int (m0_3 p0 p1 p2 p3 q4)), .val (.int (p3 &&& (3 : Int32))), .unset, .unset, .val (.int (m0_7 p0 p1 p2 p3 q4)), .unset] [(.long (q4 &&& (3 : Int64)))])) _
      refine XS.l2i X0.here hx rfl (hb hby at_97) rfl ?_
      show Steps p.tables e below (s₁.setTop (mkF m 98 #[.val (.int p0), .val (.int p1), .val (.int p2), .val (.int p3), .val (.long q4), .second, .val (.int (m0_0 p0 p1 p2 p3 q4)), .val (.int (m0_1 p0 p1 p2 p3 q4)), .val (.int (m0_2 p0 p1 p2 p3 q4)), .val (.int (m0_3 p0 p1 p2 p3 q4)), .val (.int (p3 &&& (3 : Int32))), .unset, .unset, .val (.int (m0_7 p0 p1 p2 p3 q4)), .unset] [(.int ((q4 &&& (3 : Int64)).toInt32))])) _
      refine XS.iconst X0.here hx rfl (hb hby at_98) ?_
      show Steps p.tables e below (s₁.setTop (mkF m 99 #[.val (.int p0), .val (.int p1), .val (.int p2), .val (.int p3), .val (.long q4), .second, .val (.int (m0_0 p0 p1 p2 p3 q4)), .val (.int (m0_1 p0 p1 p2 p3 q4)), .val (.int (m0_2 p0 p1 p2 p3 q4)), .val (.int (m0_3 p0 p1 p2 p3 q4)), .val (.int (p3 &&& (3 : Int32))), .unset, .unset, .val (.int (m0_7 p0 p1 p2 p3 q4)), .unset] [(.int (1 : Int32)), (.int ((q4 &&& (3 : Int64)).toInt32))])) _
      refine XS.isub X0.here hx rfl (hb hby at_99) rfl ?_
      show Steps p.tables e below (s₁.setTop (mkF m 100 #[.val (.int p0), .val (.int p1), .val (.int p2), .val (.int p3), .val (.long q4), .second, .val (.int (m0_0 p0 p1 p2 p3 q4)), .val (.int (m0_1 p0 p1 p2 p3 q4)), .val (.int (m0_2 p0 p1 p2 p3 q4)), .val (.int (m0_3 p0 p1 p2 p3 q4)), .val (.int (p3 &&& (3 : Int32))), .unset, .unset, .val (.int (m0_7 p0 p1 p2 p3 q4)), .unset] [(.int (((q4 &&& (3 : Int64)).toInt32) - (1 : Int32)))])) _
      refine XS.istore X0.here hx rfl (hb hby at_100) rfl (l' := #[.val (.int p0), .val (.int p1), .val (.int p2), .val (.int p3), .val (.long q4), .second, .val (.int (m0_0 p0 p1 p2 p3 q4)), .val (.int (m0_1 p0 p1 p2 p3 q4)), .val (.int (m0_2 p0 p1 p2 p3 q4)), .val (.int (m0_3 p0 p1 p2 p3 q4)), .val (.int (p3 &&& (3 : Int32))), .unset, .unset, .val (.int (m0_7 p0 p1 p2 p3 q4)), .val (.int (((q4 &&& (3 : Int64)).toInt32) - (1 : Int32)))]) rfl ?_
      show Steps p.tables e below (s₁.setTop (mkF m 102 #[.val (.int p0), .val (.int p1), .val (.int p2), .val (.int p3), .val (.long q4), .second, .val (.int (m0_0 p0 p1 p2 p3 q4)), .val (.int (m0_1 p0 p1 p2 p3 q4)), .val (.int (m0_2 p0 p1 p2 p3 q4)), .val (.int (m0_3 p0 p1 p2 p3 q4)), .val (.int (p3 &&& (3 : Int32))), .unset, .unset, .val (.int (m0_7 p0 p1 p2 p3 q4)), .val (.int (((q4 &&& (3 : Int64)).toInt32) - (1 : Int32)))] [])) _
      refine XS.iload X0.here hx rfl (hb hby at_102) rfl ?_
      show Steps p.tables e below (s₁.setTop (mkF m 104 #[.val (.int p0), .val (.int p1), .val (.int p2), .val (.int p3), .val (.long q4), .second, .val (.int (m0_0 p0 p1 p2 p3 q4)), .val (.int (m0_1 p0 p1 p2 p3 q4)), .val (.int (m0_2 p0 p1 p2 p3 q4)), .val (.int (m0_3 p0 p1 p2 p3 q4)), .val (.int (p3 &&& (3 : Int32))), .unset, .unset, .val (.int (m0_7 p0 p1 p2 p3 q4)), .val (.int (((q4 &&& (3 : Int64)).toInt32) - (1 : Int32)))] [(.int (m0_7 p0 p1 p2 p3 q4))])) _
      refine XS.i2l X0.here hx rfl (hb hby at_104) rfl ?_
      show Steps p.tables e below (s₁.setTop (mkF m 105 #[.val (.int p0), .val (.int p1), .val (.int p2), .val (.int p3), .val (.long q4), .second, .val (.int (m0_0 p0 p1 p2 p3 q4)), .val (.int (m0_1 p0 p1 p2 p3 q4)), .val (.int (m0_2 p0 p1 p2 p3 q4)), .val (.int (m0_3 p0 p1 p2 p3 q4)), .val (.int (p3 &&& (3 : Int32))), .unset, .unset, .val (.int (m0_7 p0 p1 p2 p3 q4)), .val (.int (((q4 &&& (3 : Int64)).toInt32) - (1 : Int32)))] [(.long ((m0_7 p0 p1 p2 p3 q4).toInt64))])) _
      refine XS.iload X0.here hx rfl (hb hby at_105) rfl ?_
      show Steps p.tables e below (s₁.setTop (mkF m 107 #[.val (.int p0), .val (.int p1), .val (.int p2), .val (.int p3), .val (.long q4), .second, .val (.int (m0_0 p0 p1 p2 p3 q4)), .val (.int (m0_1 p0 p1 p2 p3 q4)), .val (.int (m0_2 p0 p1 p2 p3 q4)), .val (.int (m0_3 p0 p1 p2 p3 q4)), .val (.int (p3 &&& (3 : Int32))), .unset, .unset, .val (.int (m0_7 p0 p1 p2 p3 q4)), .val (.int (((q4 &&& (3 : Int64)).toInt32) - (1 : Int32)))] [(.int (((q4 &&& (3 : Int64)).toInt32) - (1 : Int32))), (.long ((m0_7 p0 p1 p2 p3 q4).toInt64))])) _
      refine XS.i2l X0.here hx rfl (hb hby at_107) rfl ?_
      show Steps p.tables e below (s₁.setTop (mkF m 108 #[.val (.int p0), .val (.int p1), .val (.int p2), .val (.int p3), .val (.long q4), .second, .val (.int (m0_0 p0 p1 p2 p3 q4)), .val (.int (m0_1 p0 p1 p2 p3 q4)), .val (.int (m0_2 p0 p1 p2 p3 q4)), .val (.int (m0_3 p0 p1 p2 p3 q4)), .val (.int (p3 &&& (3 : Int32))), .unset, .unset, .val (.int (m0_7 p0 p1 p2 p3 q4)), .val (.int (((q4 &&& (3 : Int64)).toInt32) - (1 : Int32)))] [(.long ((((q4 &&& (3 : Int64)).toInt32) - (1 : Int32)).toInt64)), (.long ((m0_7 p0 p1 p2 p3 q4).toInt64))])) _
      refine XS.ladd X0.here hx rfl (hb hby at_108) rfl ?_
      show Steps p.tables e below (s₁.setTop (mkF m 109 #[.val (.int p0), .val (.int p1), .val (.int p2), .val (.int p3), .val (.long q4), .second, .val (.int (m0_0 p0 p1 p2 p3 q4)), .val (.int (m0_1 p0 p1 p2 p3 q4)), .val (.int (m0_2 p0 p1 p2 p3 q4)), .val (.int (m0_3 p0 p1 p2 p3 q4)), .val (.int (p3 &&& (3 : Int32))), .unset, .unset, .val (.int (m0_7 p0 p1 p2 p3 q4)), .val (.int (((q4 &&& (3 : Int64)).toInt32) - (1 : Int32)))] [(.long (((m0_7 p0 p1 p2 p3 q4).toInt64) + ((((q4 &&& (3 : Int64)).toInt32) - (1 : Int32)).toInt64)))])) _
      refine XS.lstore X0.here hx rfl (hb hby at_109) rfl (l' := #[.val (.int p0), .val (.int p1), .val (.int p2), .val (.int p3), .val (.long q4), .second, .val (.int (m0_0 p0 p1 p2 p3 q4)), .val (.int (m0_1 p0 p1 p2 p3 q4)), .val (.int (m0_2 p0 p1 p2 p3 q4)), .val (.int (m0_3 p0 p1 p2 p3 q4)), .val (.int (p3 &&& (3 : Int32))), .val (.long (m0_8 p0 p1 p2 p3 q4)), .second, .val (.int (m0_7 p0 p1 p2 p3 q4)), .val (.int (((q4 &&& (3 : Int64)).toInt32) - (1 : Int32)))]) rfl ?_
      show Steps p.tables e below (s₁.setTop (mkF m 111 #[.val (.int p0), .val (.int p1), .val (.int p2), .val (.int p3), .val (.long q4), .second, .val (.int (m0_0 p0 p1 p2 p3 q4)), .val (.int (m0_1 p0 p1 p2 p3 q4)), .val (.int (m0_2 p0 p1 p2 p3 q4)), .val (.int (m0_3 p0 p1 p2 p3 q4)), .val (.int (p3 &&& (3 : Int32))), .val (.long (m0_8 p0 p1 p2 p3 q4)), .second, .val (.int (m0_7 p0 p1 p2 p3 q4)), .val (.int (((q4 &&& (3 : Int64)).toInt32) - (1 : Int32)))] [])) _
      refine XS.iload X0.here hx rfl (hb hby at_111) rfl ?_
      show Steps p.tables e below (s₁.setTop (mkF m 113 #[.val (.int p0), .val (.int p1), .val (.int p2), .val (.int p3), .val (.long q4), .second, .val (.int (m0_0 p0 p1 p2 p3 q4)), .val (.int (m0_1 p0 p1 p2 p3 q4)), .val (.int (m0_2 p0 p1 p2 p3 q4)), .val (.int (m0_3 p0 p1 p2 p3 q4)), .val (.int (p3 &&& (3 : Int32))), .val (.long (m0_8 p0 p1 p2 p3 q4)), .second, .val (.int (m0_7 p0 p1 p2 p3 q4)), .val (.int (((q4 &&& (3 : Int64)).toInt32) - (1 : Int32)))] [(.int (m0_3 p0 p1 p2 p3 q4))])) _
      refine XS.iconst X0.here hx rfl (hb hby at_113) ?_
      exact kt
    by_cases hc114_54 : (m0_3 p0 p1 p2 p3 q4) = (1 : Int32)
    · obtain ⟨T55, h55, X55, e55, E55, A55, D55, -, st55⟩ := newO X0 hx hZ hown (hw _ (List.mem_of_getElem? (i := 4) rfl)) (hw _ (List.mem_of_getElem? (i := 5) rfl)) (hw _ (List.mem_of_getElem? (i := 6) rfl)) e0 (g := (mkF m 117 #[.val (.int p0), .val (.int p1), .val (.int p2), .val (.int p3), .val (.long q4), .second, .val (.int (m0_0 p0 p1 p2 p3 q4)), .val (.int (m0_1 p0 p1 p2 p3 q4)), .val (.int (m0_2 p0 p1 p2 p3 q4)), .val (.int (m0_3 p0 p1 p2 p3 q4)), .val (.int (p3 &&& (3 : Int32))), .val (.long (m0_8 p0 p1 p2 p3 q4)), .second, .val (.int (m0_7 p0 p1 p2 p3 q4)), .val (.int (((q4 &&& (3 : Int64)).toInt32) - (1 : Int32)))] [])) rfl (hb hby at_117) (by decide) (by decide)
      obtain ⟨b55, g55⟩ : ∃ z, z = h0.size := ⟨_, rfl⟩
      rw [← g55] at A55 D55 st55
      have lo55 : n0 ≤ b55 := Nat.le_trans Z0 (Nat.le_of_eq g55.symm)
      have sz55 : h0.size ≤ b55 := Nat.le_trans (Nat.le_refl _) (Nat.le_of_eq g55.symm)
      have K55 : Keep h0 h55 [] := (Keep.refl h0 _).ext E55
      have Z55 : n0 ≤ h55.size := Nat.le_trans Z0 E55.1
      have F55_blockSizes : Fld Z h55 b55 "com/example/byteloom/byteloom/SectionLayout" "blockSizes" "[I" .null := D55 (Or.inr (hw _ (List.mem_of_getElem? (i := 37) rfl))) (ty := (.array .int)) (by decide)
      have F55_blockCounts : Fld Z h55 b55 "com/example/byteloom/byteloom/SectionLayout" "blockCounts" "[I" .null := D55 (Or.inr (hw _ (List.mem_of_getElem? (i := 39) rfl))) (ty := (.array .int)) (by decide)
      have F55_reservedBytes : Fld Z h55 b55 "com/example/byteloom/byteloom/SectionLayout" "reservedBytes" "J" (.long (0 : Int64)) := D55 (Or.inr (hw _ (List.mem_of_getElem? (i := 41) rfl))) (ty := .long) (by decide)
      obtain ⟨T56, h56, k56, X56, e56, E56, A56, B56, st56⟩ := newPE X55 hx hZ (hw _ (List.mem_of_getElem? (i := 7) rfl)) e55 (g := (mkF m 122 #[.val (.int p0), .val (.int p1), .val (.int p2), .val (.int p3), .val (.long q4), .second, .val (.int (m0_0 p0 p1 p2 p3 q4)), .val (.int (m0_1 p0 p1 p2 p3 q4)), .val (.int (m0_2 p0 p1 p2 p3 q4)), .val (.int (m0_3 p0 p1 p2 p3 q4)), .val (.int (p3 &&& (3 : Int32))), .val (.long (m0_8 p0 p1 p2 p3 q4)), .second, .val (.int (m0_7 p0 p1 p2 p3 q4)), .val (.int (((q4 &&& (3 : Int64)).toInt32) - (1 : Int32)))] [(.int (1 : Int32)), (.ref b55), (.ref b55)])) rfl (hb hby at_122) rfl (by decide) (cap := 1) (by decide) (by decide) (by decide) (by decide) (ad := "[I") (by decide)
      obtain ⟨b56, g56⟩ : ∃ z, z = h55.size := ⟨_, rfl⟩
      rw [← g56] at A56 B56 st56
      have ne56_b55 : b55 ≠ b56 := Nat.ne_of_lt (Nat.lt_of_lt_of_le A55.lt (Nat.le_of_eq g56.symm))
      have lo56 : n0 ≤ b56 := Nat.le_trans Z55 (Nat.le_of_eq g56.symm)
      have sz56 : h0.size ≤ b56 := Nat.le_trans K55.1 (Nat.le_of_eq g56.symm)
      have f56_0 := A55.ext E56
      have f56_1 := F55_blockSizes.ext E56
      have f56_2 := F55_blockCounts.ext E56
      have f56_3 := F55_reservedBytes.ext E56
      have K56 := K55.ext E56
      have Z56 : n0 ≤ h56.size := Nat.le_trans Z55 E56.1
      have V56 : Arv Z h56 b56 k56 .int (1 : Int32) [(.int (0 : Int32))] (.int (0 : Int32)) := (Arv.new A56 (by decide)).pad (pad_rep [] (.int (0 : Int32)) 1)
      obtain ⟨cl57, Ar57, qk57, S57, N57', Hh57, G57⟩ := own_same V56
      have hin57 : ¬ ((0 : Int32) < 0 ∨ cl57.slots.size ≤ ((0 : Int32)).toNatClampNeg) := inb_of S57 ⟨by decide, by decide⟩
      obtain ⟨T58, h58, X58, e58, W58, st58⟩ := stI X56 hx hZ e56 Ar57 (j := (0 : Int32)) hin57 (g := (mkF m 128 #[.val (.int p0), .val (.int p1), .val (.int p2), .val (.int p3), .val (.long q4), .second, .val (.int (m0_0 p0 p1 p2 p3 q4)), .val (.int (m0_1 p0 p1 p2 p3 q4)), .val (.int (m0_2 p0 p1 p2 p3 q4)), .val (.int (m0_3 p0 p1 p2 p3 q4)), .val (.int (p3 &&& (3 : Int32))), .val (.long (m0_8 p0 p1 p2 p3 q4)), .second, .val (.int (m0_7 p0 p1 p2 p3 q4)), .val (.int (((q4 &&& (3 : Int64)).toInt32) - (1 : Int32)))] [(.int (m0_0 p0 p1 p2 p3 q4)), (.int (0 : Int32)), (.ref b56), (.ref b56), (.ref b55), (.ref b55)])) rfl rfl (hb hby at_128)
      have V58 : Arv Z h58 b56 k56 .int (1 : Int32) [(.int (m0_0 p0 p1 p2 p3 q4))] (.int (0 : Int32)) := Arv.set Ar57 qk57 S57 N57' Hh57 G57 rfl W58 0 rfl (Nat.le_of_ble_eq_true rfl)
      have f58_0 := f56_0.wr W58
      have f58_1 := f56_1.other W58 (Or.inl ne56_b55)
      have f58_2 := f56_2.other W58 (Or.inl ne56_b55)
      have f58_3 := f56_3.other W58 (Or.inl ne56_b55)
      have f58_4 := B56.wr W58
      have K58 : Keep h0 h58 [] := K56.wr W58 (Or.inr sz56)
      have Z58 : n0 ≤ h58.size := Nat.le_trans Z56 (Keep.of_wr W58).1
      have N58 := Fr.snoc X58 N0 lo56
      obtain ⟨T59, h59, k59, X59, e59, E59, A59, B59, st59⟩ := newPE X58 hx hZ (hw _ (List.mem_of_getElem? (i := 7) rfl)) e58 (g := (mkF m 130 #[.val (.int p0), .val (.int p1), .val (.int p2), .val (.int p3), .val (.long q4), .second, .val (.int (m0_0 p0 p1 p2 p3 q4)), .val (.int (m0_1 p0 p1 p2 p3 q4)), .val (.int (m0_2 p0 p1 p2 p3 q4)), .val (.int (m0_3 p0 p1 p2 p3 q4)), .val (.int (p3 &&& (3 : Int32))), .val (.long (m0_8 p0 p1 p2 p3 q4)), .second, .val (.int (m0_7 p0 p1 p2 p3 q4)), .val (.int (((q4 &&& (3 : Int64)).toInt32) - (1 : Int32)))] [(.int (1 : Int32)), (.ref b56), (.ref b55), (.ref b55)])) rfl (hb hby at_130) rfl (by decide) (cap := 1) (by decide) (by decide) (by decide) (by decide) (ad := "[I") (by decide)
      obtain ⟨b59, g59⟩ : ∃ z, z = h58.size := ⟨_, rfl⟩
      rw [← g59] at A59 B59 st59
      have ne59_b55 : b55 ≠ b59 := Nat.ne_of_lt (Nat.lt_of_lt_of_le f58_0.lt (Nat.le_of_eq g59.symm))
      have ne59_b56 : b56 ≠ b59 := Nat.ne_of_lt (Nat.lt_of_lt_of_le f58_4.lt (Nat.le_of_eq g59.symm))
      have lo59 : n0 ≤ b59 := Nat.le_trans Z58 (Nat.le_of_eq g59.symm)
      have sz59 : h0.size ≤ b59 := Nat.le_trans K58.1 (Nat.le_of_eq g59.symm)
      have f59_0 := f58_0.ext E59
      have f59_1 := f58_1.ext E59
      have f59_2 := f58_2.ext E59
      have f59_3 := f58_3.ext E59
      have f59_4 := f58_4.ext E59
      have f59_5 := V58.ext E59
      have K59 := K58.ext E59
      have Z59 : n0 ≤ h59.size := Nat.le_trans Z58 E59.1
      have V59 : Arv Z h59 b59 k59 .int (1 : Int32) [(.int (0 : Int32))] (.int (0 : Int32)) := (Arv.new A59 (by decide)).pad (pad_rep [] (.int (0 : Int32)) 1)
      obtain ⟨cl60, Ar60, qk60, S60, N60', Hh60, G60⟩ := own_same V59
      have hin60 : ¬ ((0 : Int32) < 0 ∨ cl60.slots.size ≤ ((0 : Int32)).toNatClampNeg) := inb_of S60 ⟨by decide, by decide⟩
      obtain ⟨T61, h61, X61, e61, W61, st61⟩ := stI X59 hx hZ e59 Ar60 (j := (0 : Int32)) hin60 (g := (mkF m 135 #[.val (.int p0), .val (.int p1), .val (.int p2), .val (.int p3), .val (.long q4), .second, .val (.int (m0_0 p0 p1 p2 p3 q4)), .val (.int (m0_1 p0 p1 p2 p3 q4)), .val (.int (m0_2 p0 p1 p2 p3 q4)), .val (.int (m0_3 p0 p1 p2 p3 q4)), .val (.int (p3 &&& (3 : Int32))), .val (.long (m0_8 p0 p1 p2 p3 q4)), .second, .val (.int (m0_7 p0 p1 p2 p3 q4)), .val (.int (((q4 &&& (3 : Int64)).toInt32) - (1 : Int32)))] [(.int (1 : Int32)), (.int (0 : Int32)), (.ref b59), (.ref b59), (.ref b56), (.ref b55), (.ref b55)])) rfl rfl (hb hby at_135)
      have V61 : Arv Z h61 b59 k59 .int (1 : Int32) [(.int (1 : Int32))] (.int (0 : Int32)) := Arv.set Ar60 qk60 S60 N60' Hh60 G60 rfl W61 0 rfl (Nat.le_of_ble_eq_true rfl)
      have f61_0 := f59_0.wr W61
      have f61_1 := f59_1.other W61 (Or.inl ne59_b55)
      have f61_2 := f59_2.other W61 (Or.inl ne59_b55)
      have f61_3 := f59_3.other W61 (Or.inl ne59_b55)
      have f61_4 := f59_4.wr W61
      have f61_5 := f59_5.other W61 ne59_b56
      have f61_6 := B59.wr W61
      have K61 : Keep h0 h61 [] := K59.wr W61 (Or.inr sz59)
      have Z61 : n0 ≤ h61.size := Nat.le_trans Z59 (Keep.of_wr W61).1
      have N61 := Fr.snoc X61 N58 lo59
      obtain ⟨_, _, ⟨T62, L62, k62, n62⟩, -, X62, hS62, hg62, ⟨Lc62, hQ62, l62, y62, z62⟩, st62⟩ := X61.specialBackS hx (y := (⟨"com/example/byteloom/byteloom/SectionLayout", "<init>", "([I[I)V"⟩ : MethodName)) rfl hown (mvT hZ (hw _ (List.mem_of_getElem? (i := 8) rfl))) (mvT hZ (hw _ (List.mem_of_getElem? (i := 9) rfl))) (mvT hZ (hw _ (List.mem_of_getElem? (i := 10) rfl))) (by decide) (backOfS (W := 1) (rm1a l Z aw hw [] b55 b56 b59 k56 k59 (m0_0 p0 p1 p2 p3 q4) h61 n0 Z61 f61_1 f61_2 f61_3 f61_0 lo55 f61_5 V61 f61_4 f61_6 (Ne.symm ne56_b55) (Ne.symm ne59_b55) (own_g0 p0 p1 p2 p3 q4)) hZ (hw _ (List.mem_of_getElem? (i := 10) rfl)) (hw _ (List.mem_of_getElem? (i := 6) rfl)) (by decide) (by decide)) (g := (mkF m 136 #[.val (.int p0), .val (.int p1), .val (.int p2), .val (.int p3), .val (.long q4), .second, .val (.int (m0_0 p0 p1 p2 p3 q4)), .val (.int (m0_1 p0 p1 p2 p3 q4)), .val (.int (m0_2 p0 p1 p2 p3 q4)), .val (.int (m0_3 p0 p1 p2 p3 q4)), .val (.int (p3 &&& (3 : Int32))), .val (.long (m0_8 p0 p1 p2 p3 q4)), .second, .val (.int (m0_7 p0 p1 p2 p3 q4)), .val (.int (((q4 &&& (3 : Int64)).toInt32) - (1 : Int32)))] [(.ref b59), (.ref b56), (.ref b55), (.ref b55)])) rfl (by rw [hml]; rfl) (Steps.refl _) (a := b55) (argsL := [(.ref b56), (.ref b59)]) (rest := [(.ref b55)]) (lenOf pd_0_0 rfl) rfl (by show 2 * 0 + _ ≤ _; exact Nat.le_of_eq rfl) (hb hby at_136) (fun _ _ => ⟨rfl, e61, (by decide : 3 + 6 ≤ _), (by decide : 5 + 94 ≤ _)⟩)
      dsimp only [Pt.U, Pt.locs, Pt.cells, Pt.slots] at X62 l62 y62 z62 st62 hQ62
      rw [l62, y62, z62] at X62
      dsimp only [Pt.U, Pt.locs, Pt.cells, Pt.slots] at hS62 hg62
      have hZ : Z.Warmed39 (s.setVm T62.vm).vm := State.Warmed39.trans hZ hS62.1
      have hown : (s.setVm T62.vm).vm.findClass "com/example/byteloom/byteloom/SectionLayoutSectionForPinLaw" = some m.cls := by rw [show (s.setVm T62.vm).vm = T62.vm from rfl, hS62.1.alike.findClass]; exact hown
      obtain ⟨bb62, hQ62⟩ := hQ62
      obtain ⟨rfl, Nq62, Kq62, P62_0, P62_1, P62_2⟩ := hQ62
      have N62 := Fr.app N61 Nq62
      have f62_0 := f61_4.keep Kq62
      have f62_1 := f61_5.keep Kq62 (ninS (Ne.symm ne56_b55) nin0)
      have f62_2 := f61_6.keep Kq62
      have f62_3 := V61.keep Kq62 (ninS (Ne.symm ne59_b55) nin0)
      have K62 : Keep h0 T62.heap [] := K61.trans Kq62 (allS (Or.inr sz55) all0)
      have Z62 : n0 ≤ T62.heap.size := Nat.le_trans Z61 Kq62.1
      refine own_back (b := T62.setTop (mkF m 234 #[.val (.int p0), .val (.int p1), .val (.int p2), .val (.int p3), .val (.long q4), .second, .val (.int (m0_0 p0 p1 p2 p3 q4)), .val (.int (m0_1 p0 p1 p2 p3 q4)), .val (.int (m0_2 p0 p1 p2 p3 q4)), .val (.int (m0_3 p0 p1 p2 p3 q4)), .val (.int (p3 &&& (3 : Int32))), .val (.long (m0_8 p0 p1 p2 p3 q4)), .second, .val (.ref b55), .val (.int (((q4 &&& (3 : Int64)).toInt32) - (1 : Int32)))] [(.int (lcmpW (m0_8 p0 p1 p2 p3 q4) ((m0_0 p0 p1 p2 p3 q4).toInt64)))])) (fun t kt => ?_) ?_
      · show Steps p.tables e below (s₁.setTop (mkF m 114 #[.val (.int p0), .val (.int p1), .val (.int p2), .val (.int p3), .val (.long q4), .second, .val (.int (m0_0 p0 p1 p2 p3 q4)), .val (.int (m0_1 p0 p1 p2 p3 q4)), .val (.int (m0_2 p0 p1 p2 p3 q4)), .val (.int (m0_3 p0 p1 p2 p3 q4)), .val (.int (p3 &&& (3 : Int32))), .val (.long (m0_8 p0 p1 p2 p3 q4)), .second, .val (.int (m0_7 p0 p1 p2 p3 q4)), .val (.int (((q4 &&& (3 : Int64)).toInt32) - (1 : Int32)))] [(.int (1 : Int32)), (.int (m0_3 p0 p1 p2 p3 q4))])) _
        refine XS.icmpNo X0.here hx rfl (hb hby at_114) rfl (teq hc114_54).2 ?_
        show Steps p.tables e below (s₁.setTop (mkF m 117 #[.val (.int p0), .val (.int p1), .val (.int p2), .val (.int p3), .val (.long q4), .second, .val (.int (m0_0 p0 p1 p2 p3 q4)), .val (.int (m0_1 p0 p1 p2 p3 q4)), .val (.int (m0_2 p0 p1 p2 p3 q4)), .val (.int (m0_3 p0 p1 p2 p3 q4)), .val (.int (p3 &&& (3 : Int32))), .val (.long (m0_8 p0 p1 p2 p3 q4)), .second, .val (.int (m0_7 p0 p1 p2 p3 q4)), .val (.int (((q4 &&& (3 : Int64)).toInt32) - (1 : Int32)))] [])) _
        refine st55 _ ?_
        show Steps p.tables e below (T55.setTop (mkF m 120 #[.val (.int p0), .val (.int p1), .val (.int p2), .val (.int p3), .val (.long q4), .second, .val (.int (m0_0 p0 p1 p2 p3 q4)), .val (.int (m0_1 p0 p1 p2 p3 q4)), .val (.int (m0_2 p0 p1 p2 p3 q4)), .val (.int (m0_3 p0 p1 p2 p3 q4)), .val (.int (p3 &&& (3 : Int32))), .val (.long (m0_8 p0 p1 p2 p3 q4)), .second, .val (.int (m0_7 p0 p1 p2 p3 q4)), .val (.int (((q4 &&& (3 : Int64)).toInt32) - (1 : Int32)))] [(.ref b55)])) _
        refine XS.dup X55.here hx rfl (hb hby at_120) rfl rfl ?_
        show Steps p.tables e below (T55.setTop (mkF m 121 #[.val (.int p0), .val (.int p1), .val (.int p2), .val (.int p3), .val (.long q4), .second, .val (.int (m0_0 p0 p1 p2 p3 q4)), .val (.int (m0_1 p0 p1 p2 p3 q4)), .val (.int (m0_2 p0 p1 p2 p3 q4)), .val (.int (m0_3 p0 p1 p2 p3 q4)), .val (.int (p3 &&& (3 : Int32))), .val (.long (m0_8 p0 p1 p2 p3 q4)), .second, .val (.int (m0_7 p0 p1 p2 p3 q4)), .val (.int (((q4 &&& (3 : Int64)).toInt32) - (1 : Int32)))] [(.ref b55), (.ref b55)])) _
        refine XS.iconst X55.here hx rfl (hb hby at_121) ?_
        show Steps p.tables e below (T55.setTop (mkF m 122 #[.val (.int p0), .val (.int p1), .val (.int p2), .val (.int p3), .val (.long q4), .second, .val (.int (m0_0 p0 p1 p2 p3 q4)), .val (.int (m0_1 p0 p1 p2 p3 q4)), .val (.int (m0_2 p0 p1 p2 p3 q4)), .val (.int (m0_3 p0 p1 p2 p3 q4)), .val (.int (p3 &&& (3 : Int32))), .val (.long (m0_8 p0 p1 p2 p3 q4)), .second, .val (.int (m0_7 p0 p1 p2 p3 q4)), .val (.int (((q4 &&& (3 : Int64)).toInt32) - (1 : Int32)))] [(.int (1 : Int32)), (.ref b55), (.ref b55)])) _
        refine st56 _ ?_
        show Steps p.tables e below (T56.setTop (mkF m 124 #[.val (.int p0), .val (.int p1), .val (.int p2), .val (.int p3), .val (.long q4), .second, .val (.int (m0_0 p0 p1 p2 p3 q4)), .val (.int (m0_1 p0 p1 p2 p3 q4)), .val (.int (m0_2 p0 p1 p2 p3 q4)), .val (.int (m0_3 p0 p1 p2 p3 q4)), .val (.int (p3 &&& (3 : Int32))), .val (.long (m0_8 p0 p1 p2 p3 q4)), .second, .val (.int (m0_7 p0 p1 p2 p3 q4)), .val (.int (((q4 &&& (3 : Int64)).toInt32) - (1 : Int32)))] [(.ref b56), (.ref b55), (.ref b55)])) _
        refine XS.dup X56.here hx rfl (hb hby at_124) rfl rfl ?_
        show Steps p.tables e below (T56.setTop (mkF m 125 #[.val (.int p0), .val (.int p1), .val (.int p2), .val (.int p3), .val (.long q4), .second, .val (.int (m0_0 p0 p1 p2 p3 q4)), .val (.int (m0_1 p0 p1 p2 p3 q4)), .val (.int (m0_2 p0 p1 p2 p3 q4)), .val (.int (m0_3 p0 p1 p2 p3 q4)), .val (.int (p3 &&& (3 : Int32))), .val (.long (m0_8 p0 p1 p2 p3 q4)), .second, .val (.int (m0_7 p0 p1 p2 p3 q4)), .val (.int (((q4 &&& (3 : Int64)).toInt32) - (1 : Int32)))] [(.ref b56), (.ref b56), (.ref b55), (.ref b55)])) _
        refine XS.iconst X56.here hx rfl (hb hby at_125) ?_
        show Steps p.tables e below (T56.setTop (mkF m 126 #[.val (.int p0), .val (.int p1), .val (.int p2), .val (.int p3), .val (.long q4), .second, .val (.int (m0_0 p0 p1 p2 p3 q4)), .val (.int (m0_1 p0 p1 p2 p3 q4)), .val (.int (m0_2 p0 p1 p2 p3 q4)), .val (.int (m0_3 p0 p1 p2 p3 q4)), .val (.int (p3 &&& (3 : Int32))), .val (.long (m0_8 p0 p1 p2 p3 q4)), .second, .val (.int (m0_7 p0 p1 p2 p3 q4)), .val (.int (((q4 &&& (3 : Int64)).toInt32) - (1 : Int32)))] [(.int (0 : Int32)), (.ref b56), (.ref b56), (.ref b55), (.ref b55)])) _
        refine XS.iload X56.here hx rfl (hb hby at_126) rfl ?_
        show Steps p.tables e below (T56.setTop (mkF m 128 #[.val (.int p0), .val (.int p1), .val (.int p2), .val (.int p3), .val (.long q4), .second, .val (.int (m0_0 p0 p1 p2 p3 q4)), .val (.int (m0_1 p0 p1 p2 p3 q4)), .val (.int (m0_2 p0 p1 p2 p3 q4)), .val (.int (m0_3 p0 p1 p2 p3 q4)), .val (.int (p3 &&& (3 : Int32))), .val (.long (m0_8 p0 p1 p2 p3 q4)), .second, .val (.int (m0_7 p0 p1 p2 p3 q4)), .val (.int (((q4 &&& (3 : Int64)).toInt32) - (1 : Int32)))] [(.int (m0_0 p0 p1 p2 p3 q4)), (.int (0 : Int32)), (.ref b56), (.ref b56), (.ref b55), (.ref b55)])) _
        refine st58 _ ?_
        show Steps p.tables e below (T58.setTop (mkF m 129 #[.val (.int p0), .val (.int p1), .val (.int p2), .val (.int p3), .val (.long q4), .second, .val (.int (m0_0 p0 p1 p2 p3 q4)), .val (.int (m0_1 p0 p1 p2 p3 q4)), .val (.int (m0_2 p0 p1 p2 p3 q4)), .val (.int (m0_3 p0 p1 p2 p3 q4)), .val (.int (p3 &&& (3 : Int32))), .val (.long (m0_8 p0 p1 p2 p3 q4)), .second, .val (.int (m0_7 p0 p1 p2 p3 q4)), .val (.int (((q4 &&& (3 : Int64)).toInt32) - (1 : Int32)))] [(.ref b56), (.ref b55), (.ref b55)])) _
        refine XS.iconst X58.here hx rfl (hb hby at_129) ?_
        show Steps p.tables e below (T58.setTop (mkF m 130 #[.val (.int p0), .val (.int p1), .val (.int p2), .val (.int p3), .val (.long q4), .second, .val (.int (m0_0 p0 p1 p2 p3 q4)), .val (.int (m0_1 p0 p1 p2 p3 q4)), .val (.int (m0_2 p0 p1 p2 p3 q4)), .val (.int (m0_3 p0 p1 p2 p3 q4)), .val (.int (p3 &&& (3 : Int32))), .val (.long (m0_8 p0 p1 p2 p3 q4)), .second, .val (.int (m0_7 p0 p1 p2 p3 q4)), .val (.int (((q4 &&& (3 : Int64)).toInt32) - (1 : Int32)))] [(.int (1 : Int32)), (.ref b56), (.ref b55), (.ref b55)])) _
        refine st59 _ ?_
        show Steps p.tables e below (T59.setTop (mkF m 132 #[.val (.int p0), .val (.int p1), .val (.int p2), .val (.int p3), .val (.long q4), .second, .val (.int (m0_0 p0 p1 p2 p3 q4)), .val (.int (m0_1 p0 p1 p2 p3 q4)), .val (.int (m0_2 p0 p1 p2 p3 q4)), .val (.int (m0_3 p0 p1 p2 p3 q4)), .val (.int (p3 &&& (3 : Int32))), .val (.long (m0_8 p0 p1 p2 p3 q4)), .second, .val (.int (m0_7 p0 p1 p2 p3 q4)), .val (.int (((q4 &&& (3 : Int64)).toInt32) - (1 : Int32)))] [(.ref b59), (.ref b56), (.ref b55), (.ref b55)])) _
        refine XS.dup X59.here hx rfl (hb hby at_132) rfl rfl ?_
        show Steps p.tables e below (T59.setTop (mkF m 133 #[.val (.int p0), .val (.int p1), .val (.int p2), .val (.int p3), .val (.long q4), .second, .val (.int (m0_0 p0 p1 p2 p3 q4)), .val (.int (m0_1 p0 p1 p2 p3 q4)), .val (.int (m0_2 p0 p1 p2 p3 q4)), .val (.int (m0_3 p0 p1 p2 p3 q4)), .val (.int (p3 &&& (3 : Int32))), .val (.long (m0_8 p0 p1 p2 p3 q4)), .second, .val (.int (m0_7 p0 p1 p2 p3 q4)), .val (.int (((q4 &&& (3 : Int64)).toInt32) - (1 : Int32)))] [(.ref b59), (.ref b59), (.ref b56), (.ref b55), (.ref b55)])) _
        refine XS.iconst X59.here hx rfl (hb hby at_133) ?_
        show Steps p.tables e below (T59.setTop (mkF m 134 #[.val (.int p0), .val (.int p1), .val (.int p2), .val (.int p3), .val (.long q4), .second, .val (.int (m0_0 p0 p1 p2 p3 q4)), .val (.int (m0_1 p0 p1 p2 p3 q4)), .val (.int (m0_2 p0 p1 p2 p3 q4)), .val (.int (m0_3 p0 p1 p2 p3 q4)), .val (.int (p3 &&& (3 : Int32))), .val (.long (m0_8 p0 p1 p2 p3 q4)), .second, .val (.int (m0_7 p0 p1 p2 p3 q4)), .val (.int (((q4 &&& (3 : Int64)).toInt32) - (1 : Int32)))] [(.int (0 : Int32)), (.ref b59), (.ref b59), (.ref b56), (.ref b55), (.ref b55)])) _
        refine XS.iconst X59.here hx rfl (hb hby at_134) ?_
        show Steps p.tables e below (T59.setTop (mkF m 135 #[.val (.int p0), .val (.int p1), .val (.int p2), .val (.int p3), .val (.long q4), .second, .val (.int (m0_0 p0 p1 p2 p3 q4)), .val (.int (m0_1 p0 p1 p2 p3 q4)), .val (.int (m0_2 p0 p1 p2 p3 q4)), .val (.int (m0_3 p0 p1 p2 p3 q4)), .val (.int (p3 &&& (3 : Int32))), .val (.long (m0_8 p0 p1 p2 p3 q4)), .second, .val (.int (m0_7 p0 p1 p2 p3 q4)), .val (.int (((q4 &&& (3 : Int64)).toInt32) - (1 : Int32)))] [(.int (1 : Int32)), (.int (0 : Int32)), (.ref b59), (.ref b59), (.ref b56), (.ref b55), (.ref b55)])) _
        refine st61 _ ?_
        show Steps p.tables e below (T61.setTop (mkF m 136 #[.val (.int p0), .val (.int p1), .val (.int p2), .val (.int p3), .val (.long q4), .second, .val (.int (m0_0 p0 p1 p2 p3 q4)), .val (.int (m0_1 p0 p1 p2 p3 q4)), .val (.int (m0_2 p0 p1 p2 p3 q4)), .val (.int (m0_3 p0 p1 p2 p3 q4)), .val (.int (p3 &&& (3 : Int32))), .val (.long (m0_8 p0 p1 p2 p3 q4)), .second, .val (.int (m0_7 p0 p1 p2 p3 q4)), .val (.int (((q4 &&& (3 : Int64)).toInt32) - (1 : Int32)))] [(.ref b59), (.ref b56), (.ref b55), (.ref b55)])) _
        refine st62.trans ?_
        show Steps p.tables e below (T62.setTop (mkF m 139 #[.val (.int p0), .val (.int p1), .val (.int p2), .val (.int p3), .val (.long q4), .second, .val (.int (m0_0 p0 p1 p2 p3 q4)), .val (.int (m0_1 p0 p1 p2 p3 q4)), .val (.int (m0_2 p0 p1 p2 p3 q4)), .val (.int (m0_3 p0 p1 p2 p3 q4)), .val (.int (p3 &&& (3 : Int32))), .val (.long (m0_8 p0 p1 p2 p3 q4)), .second, .val (.int (m0_7 p0 p1 p2 p3 q4)), .val (.int (((q4 &&& (3 : Int64)).toInt32) - (1 : Int32)))] [(.ref b55)])) _
        refine XS.astore X62.here hx rfl (hb hby at_139) rfl rfl (l' := #[.val (.int p0), .val (.int p1), .val (.int p2), .val (.int p3), .val (.long q4), .second, .val (.int (m0_0 p0 p1 p2 p3 q4)), .val (.int (m0_1 p0 p1 p2 p3 q4)), .val (.int (m0_2 p0 p1 p2 p3 q4)), .val (.int (m0_3 p0 p1 p2 p3 q4)), .val (.int (p3 &&& (3 : Int32))), .val (.long (m0_8 p0 p1 p2 p3 q4)), .second, .val (.ref b55), .val (.int (((q4 &&& (3 : Int64)).toInt32) - (1 : Int32)))]) rfl ?_
        show Steps p.tables e below (T62.setTop (mkF m 141 #[.val (.int p0), .val (.int p1), .val (.int p2), .val (.int p3), .val (.long q4), .second, .val (.int (m0_0 p0 p1 p2 p3 q4)), .val (.int (m0_1 p0 p1 p2 p3 q4)), .val (.int (m0_2 p0 p1 p2 p3 q4)), .val (.int (m0_3 p0 p1 p2 p3 q4)), .val (.int (p3 &&& (3 : Int32))), .val (.long (m0_8 p0 p1 p2 p3 q4)), .second, .val (.ref b55), .val (.int (((q4 &&& (3 : Int64)).toInt32) - (1 : Int32)))] [])) _
        refine XS.goto X62.here hx rfl (pc0 := 141) (pc' := 228) rfl (hb hby at_141) (by decide) (by decide) ?_
        show Steps p.tables e below (T62.setTop (mkF m 228 #[.val (.int p0), .val (.int p1), .val (.int p2), .val (.int p3), .val (.long q4), .second, .val (.int (m0_0 p0 p1 p2 p3 q4)), .val (.int (m0_1 p0 p1 p2 p3 q4)), .val (.int (m0_2 p0 p1 p2 p3 q4)), .val (.int (m0_3 p0 p1 p2 p3 q4)), .val (.int (p3 &&& (3 : Int32))), .val (.long (m0_8 p0 p1 p2 p3 q4)), .second, .val (.ref b55), .val (.int (((q4 &&& (3 : Int64)).toInt32) - (1 : Int32)))] [])) _
        refine XS.lload X62.here hx rfl (hb hby at_228) rfl ?_
        show Steps p.tables e below (T62.setTop (mkF m 230 #[.val (.int p0), .val (.int p1), .val (.int p2), .val (.int p3), .val (.long q4), .second, .val (.int (m0_0 p0 p1 p2 p3 q4)), .val (.int (m0_1 p0 p1 p2 p3 q4)), .val (.int (m0_2 p0 p1 p2 p3 q4)), .val (.int (m0_3 p0 p1 p2 p3 q4)), .val (.int (p3 &&& (3 : Int32))), .val (.long (m0_8 p0 p1 p2 p3 q4)), .second, .val (.ref b55), .val (.int (((q4 &&& (3 : Int64)).toInt32) - (1 : Int32)))] [(.long (m0_8 p0 p1 p2 p3 q4))])) _
        refine XS.iload X62.here hx rfl (hb hby at_230) rfl ?_
        show Steps p.tables e below (T62.setTop (mkF m 232 #[.val (.int p0), .val (.int p1), .val (.int p2), .val (.int p3), .val (.long q4), .second, .val (.int (m0_0 p0 p1 p2 p3 q4)), .val (.int (m0_1 p0 p1 p2 p3 q4)), .val (.int (m0_2 p0 p1 p2 p3 q4)), .val (.int (m0_3 p0 p1 p2 p3 q4)), .val (.int (p3 &&& (3 : Int32))), .val (.long (m0_8 p0 p1 p2 p3 q4)), .second, .val (.ref b55), .val (.int (((q4 &&& (3 : Int64)).toInt32) - (1 : Int32)))] [(.int (m0_0 p0 p1 p2 p3 q4)), (.long (m0_8 p0 p1 p2 p3 q4))])) _
        refine XS.i2l X62.here hx rfl (hb hby at_232) rfl ?_
        show Steps p.tables e below (T62.setTop (mkF m 233 #[.val (.int p0), .val (.int p1), .val (.int p2), .val (.int p3), .val (.long q4), .second, .val (.int (m0_0 p0 p1 p2 p3 q4)), .val (.int (m0_1 p0 p1 p2 p3 q4)), .val (.int (m0_2 p0 p1 p2 p3 q4)), .val (.int (m0_3 p0 p1 p2 p3 q4)), .val (.int (p3 &&& (3 : Int32))), .val (.long (m0_8 p0 p1 p2 p3 q4)), .second, .val (.ref b55), .val (.int (((q4 &&& (3 : Int64)).toInt32) - (1 : Int32)))] [(.long ((m0_0 p0 p1 p2 p3 q4).toInt64)), (.long (m0_8 p0 p1 p2 p3 q4))])) _
        refine XS.lcmp X62.here hx rfl (hb hby at_233) rfl ?_
        exact kt
      refine own_back (b := T62.setTop (mkF m 288 #[.val (.int p0), .val (.int p1), .val (.int p2), .val (.int p3), .val (.long q4), .second, .val (.int (m0_0 p0 p1 p2 p3 q4)), .val (.int (m0_1 p0 p1 p2 p3 q4)), .val (.int (m0_2 p0 p1 p2 p3 q4)), .val (.int (m0_3 p0 p1 p2 p3 q4)), .val (.int (p3 &&& (3 : Int32))), .val (.long (m0_8 p0 p1 p2 p3 q4)), .second, .val (.ref b55), .val (.int (m0_9 p0 p1 p2 p3 q4))] [])) (fun t kt => ?_) ?_
      · by_cases hm234_63 : ((m0_0 p0 p1 p2 p3 q4).toInt64) < (m0_8 p0 p1 p2 p3 q4)
        · rw [show (m0_9 p0 p1 p2 p3 q4) = (-1 : Int32) from by unfold m0_9; rw [if_pos hm234_63]] at kt
          show Steps p.tables e below (T62.setTop (mkF m 234 #[.val (.int p0), .val (.int p1), .val (.int p2), .val (.int p3), .val (.long q4), .second, .val (.int (m0_0 p0 p1 p2 p3 q4)), .val (.int (m0_1 p0 p1 p2 p3 q4)), .val (.int (m0_2 p0 p1 p2 p3 q4)), .val (.int (m0_3 p0 p1 p2 p3 q4)), .val (.int (p3 &&& (3 : Int32))), .val (.long (m0_8 p0 p1 p2 p3 q4)), .second, .val (.ref b55), .val (.int (((q4 &&& (3 : Int64)).toInt32) - (1 : Int32)))] [(.int (lcmpW (m0_8 p0 p1 p2 p3 q4) ((m0_0 p0 p1 p2 p3 q4).toInt64)))])) _
          refine XS.ifYes X62.here hx rfl (pc0 := 234) (pc' := 243) rfl (hb hby at_234) rfl ((if0 _ _).trans (tlt ((lw_gt _ _).mpr hm234_63)).2.2.1) (by decide) (by decide) ?_
          show Steps p.tables e below (T62.setTop (mkF m 243 #[.val (.int p0), .val (.int p1), .val (.int p2), .val (.int p3), .val (.long q4), .second, .val (.int (m0_0 p0 p1 p2 p3 q4)), .val (.int (m0_1 p0 p1 p2 p3 q4)), .val (.int (m0_2 p0 p1 p2 p3 q4)), .val (.int (m0_3 p0 p1 p2 p3 q4)), .val (.int (p3 &&& (3 : Int32))), .val (.long (m0_8 p0 p1 p2 p3 q4)), .second, .val (.ref b55), .val (.int (((q4 &&& (3 : Int64)).toInt32) - (1 : Int32)))] [])) _
          refine XS.iload X62.here hx rfl (hb hby at_243) rfl ?_
          show Steps p.tables e below (T62.setTop (mkF m 245 #[.val (.int p0), .val (.int p1), .val (.int p2), .val (.int p3), .val (.long q4), .second, .val (.int (m0_0 p0 p1 p2 p3 q4)), .val (.int (m0_1 p0 p1 p2 p3 q4)), .val (.int (m0_2 p0 p1 p2 p3 q4)), .val (.int (m0_3 p0 p1 p2 p3 q4)), .val (.int (p3 &&& (3 : Int32))), .val (.long (m0_8 p0 p1 p2 p3 q4)), .second, .val (.ref b55), .val (.int (((q4 &&& (3 : Int64)).toInt32) - (1 : Int32)))] [(.int (m0_3 p0 p1 p2 p3 q4))])) _
          refine XS.iconst X62.here hx rfl (hb hby at_245) ?_
          show Steps p.tables e below (T62.setTop (mkF m 246 #[.val (.int p0), .val (.int p1), .val (.int p2), .val (.int p3), .val (.long q4), .second, .val (.int (m0_0 p0 p1 p2 p3 q4)), .val (.int (m0_1 p0 p1 p2 p3 q4)), .val (.int (m0_2 p0 p1 p2 p3 q4)), .val (.int (m0_3 p0 p1 p2 p3 q4)), .val (.int (p3 &&& (3 : Int32))), .val (.long (m0_8 p0 p1 p2 p3 q4)), .second, .val (.ref b55), .val (.int (((q4 &&& (3 : Int64)).toInt32) - (1 : Int32)))] [(.int (2 : Int32)), (.int (m0_3 p0 p1 p2 p3 q4))])) _
          refine XS.icmpYes X62.here hx rfl (pc0 := 246) (pc' := 264) rfl (hb hby at_246) rfl (tlt (by rw [hc114_54]; decide)).1 (by decide) (by decide) ?_
          show Steps p.tables e below (T62.setTop (mkF m 264 #[.val (.int p0), .val (.int p1), .val (.int p2), .val (.int p3), .val (.long q4), .second, .val (.int (m0_0 p0 p1 p2 p3 q4)), .val (.int (m0_1 p0 p1 p2 p3 q4)), .val (.int (m0_2 p0 p1 p2 p3 q4)), .val (.int (m0_3 p0 p1 p2 p3 q4)), .val (.int (p3 &&& (3 : Int32))), .val (.long (m0_8 p0 p1 p2 p3 q4)), .second, .val (.ref b55), .val (.int (((q4 &&& (3 : Int64)).toInt32) - (1 : Int32)))] [])) _
          refine XS.iload X62.here hx rfl (hb hby at_264) rfl ?_
          show Steps p.tables e below (T62.setTop (mkF m 266 #[.val (.int p0), .val (.int p1), .val (.int p2), .val (.int p3), .val (.long q4), .second, .val (.int (m0_0 p0 p1 p2 p3 q4)), .val (.int (m0_1 p0 p1 p2 p3 q4)), .val (.int (m0_2 p0 p1 p2 p3 q4)), .val (.int (m0_3 p0 p1 p2 p3 q4)), .val (.int (p3 &&& (3 : Int32))), .val (.long (m0_8 p0 p1 p2 p3 q4)), .second, .val (.ref b55), .val (.int (((q4 &&& (3 : Int64)).toInt32) - (1 : Int32)))] [(.int (m0_3 p0 p1 p2 p3 q4))])) _
          refine XS.iconst X62.here hx rfl (hb hby at_266) ?_
          show Steps p.tables e below (T62.setTop (mkF m 267 #[.val (.int p0), .val (.int p1), .val (.int p2), .val (.int p3), .val (.long q4), .second, .val (.int (m0_0 p0 p1 p2 p3 q4)), .val (.int (m0_1 p0 p1 p2 p3 q4)), .val (.int (m0_2 p0 p1 p2 p3 q4)), .val (.int (m0_3 p0 p1 p2 p3 q4)), .val (.int (p3 &&& (3 : Int32))), .val (.long (m0_8 p0 p1 p2 p3 q4)), .second, .val (.ref b55), .val (.int (((q4 &&& (3 : Int64)).toInt32) - (1 : Int32)))] [(.int (3 : Int32)), (.int (m0_3 p0 p1 p2 p3 q4))])) _
          refine XS.icmpYes X62.here hx rfl (pc0 := 267) (pc' := 285) rfl (hb hby at_267) rfl (tlt (by rw [hc114_54]; decide)).1 (by decide) (by decide) ?_
          show Steps p.tables e below (T62.setTop (mkF m 285 #[.val (.int p0), .val (.int p1), .val (.int p2), .val (.int p3), .val (.long q4), .second, .val (.int (m0_0 p0 p1 p2 p3 q4)), .val (.int (m0_1 p0 p1 p2 p3 q4)), .val (.int (m0_2 p0 p1 p2 p3 q4)), .val (.int (m0_3 p0 p1 p2 p3 q4)), .val (.int (p3 &&& (3 : Int32))), .val (.long (m0_8 p0 p1 p2 p3 q4)), .second, .val (.ref b55), .val (.int (((q4 &&& (3 : Int64)).toInt32) - (1 : Int32)))] [])) _
          refine XS.iconst X62.here hx rfl (hb hby at_285) ?_
          show Steps p.tables e below (T62.setTop (mkF m 286 #[.val (.int p0), .val (.int p1), .val (.int p2), .val (.int p3), .val (.long q4), .second, .val (.int (m0_0 p0 p1 p2 p3 q4)), .val (.int (m0_1 p0 p1 p2 p3 q4)), .val (.int (m0_2 p0 p1 p2 p3 q4)), .val (.int (m0_3 p0 p1 p2 p3 q4)), .val (.int (p3 &&& (3 : Int32))), .val (.long (m0_8 p0 p1 p2 p3 q4)), .second, .val (.ref b55), .val (.int (((q4 &&& (3 : Int64)).toInt32) - (1 : Int32)))] [(.int (-1 : Int32))])) _
          refine XS.istore X62.here hx rfl (hb hby at_286) rfl (l' := #[.val (.int p0), .val (.int p1), .val (.int p2), .val (.int p3), .val (.long q4), .second, .val (.int (m0_0 p0 p1 p2 p3 q4)), .val (.int (m0_1 p0 p1 p2 p3 q4)), .val (.int (m0_2 p0 p1 p2 p3 q4)), .val (.int (m0_3 p0 p1 p2 p3 q4)), .val (.int (p3 &&& (3 : Int32))), .val (.long (m0_8 p0 p1 p2 p3 q4)), .second, .val (.ref b55), .val (.int (-1 : Int32))]) rfl ?_
          exact kt
        · rw [show (m0_9 p0 p1 p2 p3 q4) = (0 : Int32) from by unfold m0_9; rw [if_neg hm234_63]] at kt
          show Steps p.tables e below (T62.setTop (mkF m 234 #[.val (.int p0), .val (.int p1), .val (.int p2), .val (.int p3), .val (.long q4), .second, .val (.int (m0_0 p0 p1 p2 p3 q4)), .val (.int (m0_1 p0 p1 p2 p3 q4)), .val (.int (m0_2 p0 p1 p2 p3 q4)), .val (.int (m0_3 p0 p1 p2 p3 q4)), .val (.int (p3 &&& (3 : Int32))), .val (.long (m0_8 p0 p1 p2 p3 q4)), .second, .val (.ref b55), .val (.int (((q4 &&& (3 : Int64)).toInt32) - (1 : Int32)))] [(.int (lcmpW (m0_8 p0 p1 p2 p3 q4) ((m0_0 p0 p1 p2 p3 q4).toInt64)))])) _
          refine XS.ifNo X62.here hx rfl (hb hby at_234) rfl ((if0 _ _).trans (flt (fun q => hm234_63 ((lw_gt _ _).mp q))).2.2.1) ?_
          show Steps p.tables e below (T62.setTop (mkF m 237 #[.val (.int p0), .val (.int p1), .val (.int p2), .val (.int p3), .val (.long q4), .second, .val (.int (m0_0 p0 p1 p2 p3 q4)), .val (.int (m0_1 p0 p1 p2 p3 q4)), .val (.int (m0_2 p0 p1 p2 p3 q4)), .val (.int (m0_3 p0 p1 p2 p3 q4)), .val (.int (p3 &&& (3 : Int32))), .val (.long (m0_8 p0 p1 p2 p3 q4)), .second, .val (.ref b55), .val (.int (((q4 &&& (3 : Int64)).toInt32) - (1 : Int32)))] [])) _
          refine XS.iconst X62.here hx rfl (hb hby at_237) ?_
          show Steps p.tables e below (T62.setTop (mkF m 238 #[.val (.int p0), .val (.int p1), .val (.int p2), .val (.int p3), .val (.long q4), .second, .val (.int (m0_0 p0 p1 p2 p3 q4)), .val (.int (m0_1 p0 p1 p2 p3 q4)), .val (.int (m0_2 p0 p1 p2 p3 q4)), .val (.int (m0_3 p0 p1 p2 p3 q4)), .val (.int (p3 &&& (3 : Int32))), .val (.long (m0_8 p0 p1 p2 p3 q4)), .second, .val (.ref b55), .val (.int (((q4 &&& (3 : Int64)).toInt32) - (1 : Int32)))] [(.int (0 : Int32))])) _
          refine XS.istore X62.here hx rfl (hb hby at_238) rfl (l' := #[.val (.int p0), .val (.int p1), .val (.int p2), .val (.int p3), .val (.long q4), .second, .val (.int (m0_0 p0 p1 p2 p3 q4)), .val (.int (m0_1 p0 p1 p2 p3 q4)), .val (.int (m0_2 p0 p1 p2 p3 q4)), .val (.int (m0_3 p0 p1 p2 p3 q4)), .val (.int (p3 &&& (3 : Int32))), .val (.long (m0_8 p0 p1 p2 p3 q4)), .second, .val (.ref b55), .val (.int (0 : Int32))]) rfl ?_
          show Steps p.tables e below (T62.setTop (mkF m 240 #[.val (.int p0), .val (.int p1), .val (.int p2), .val (.int p3), .val (.long q4), .second, .val (.int (m0_0 p0 p1 p2 p3 q4)), .val (.int (m0_1 p0 p1 p2 p3 q4)), .val (.int (m0_2 p0 p1 p2 p3 q4)), .val (.int (m0_3 p0 p1 p2 p3 q4)), .val (.int (p3 &&& (3 : Int32))), .val (.long (m0_8 p0 p1 p2 p3 q4)), .second, .val (.ref b55), .val (.int (0 : Int32))] [])) _
          refine XS.goto X62.here hx rfl (pc0 := 240) (pc' := 288) rfl (hb hby at_240) (by decide) (by decide) ?_
          exact kt
      obtain ⟨cq64, kq64, q64a, q64b, q64c⟩ := isOf hZ rfl P62_0
      obtain ⟨_, _, ⟨T64, L64, k64, n64⟩, -, X64, ⟨Lc64, hQ64, l64, y64, z64⟩, st64⟩ := X62.virtualBack hx (y := (⟨"com/example/byteloom/byteloom/SectionLayout", "sectionFor", "(J)I"⟩ : MethodName)) (z := (⟨"com/example/byteloom/byteloom/SectionLayout", "sectionFor", "(J)I"⟩ : MethodName)) hown (mvT hZ (hw _ (List.mem_of_getElem? (i := 42) rfl))) (mvT hZ (hw _ (List.mem_of_getElem? (i := 43) rfl))) (notFace_of_selects (args := #[]) (mvT hZ (hw _ (List.mem_of_getElem? (i := 45) rfl)))) (mvT hZ (hw _ (List.mem_of_getElem? (i := 45) rfl))) (mvT hZ (hw _ (List.mem_of_getElem? (i := 44) rfl))) (by decide) (backOf (W := 0) (rm4a l Z aw hw [] b55 (m0_8 p0 p1 p2 p3 q4) bb62 k56 (m0_0 p0 p1 p2 p3 q4) T62.heap n0 Z62 P62_1 P62_2 (own_len p0 p1 p2 p3 q4)) hZ (hw _ (List.mem_of_getElem? (i := 46) rfl)) (hw _ (List.mem_of_getElem? (i := 6) rfl)) (by decide) (by decide)) q64a q64c (g := (mkF m 292 #[.val (.int p0), .val (.int p1), .val (.int p2), .val (.int p3), .val (.long q4), .second, .val (.int (m0_0 p0 p1 p2 p3 q4)), .val (.int (m0_1 p0 p1 p2 p3 q4)), .val (.int (m0_2 p0 p1 p2 p3 q4)), .val (.int (m0_3 p0 p1 p2 p3 q4)), .val (.int (p3 &&& (3 : Int32))), .val (.long (m0_8 p0 p1 p2 p3 q4)), .second, .val (.ref b55), .val (.int (m0_9 p0 p1 p2 p3 q4))] [(.long (m0_8 p0 p1 p2 p3 q4)), (.ref b55)])) rfl (by rw [hml]; rfl) (Steps.refl _) (argsL := [(.long (m0_8 p0 p1 p2 p3 q4))]) (rest := []) (lenOf pd_0_1 rfl) rfl (by show 2 * 0 + _ ≤ _; exact Nat.le_of_eq rfl) (hb hby at_292) (fun _ _ => ⟨rfl, rfl, (by decide : 9 + 0 ≤ _), (by decide : 99 + 0 ≤ _)⟩)
      dsimp only [Pt.U, Pt.locs, Pt.cells, Pt.slots] at X64 l64 y64 z64 st64 hQ64
      rw [l64, y64, z64] at X64
      obtain ⟨rfl, Nq64, e64⟩ := hQ64
      have N64 := Fr.app N62 Nq64
      refine own_back (b := T64.setTop (mkF m 297 #[.val (.int p0), .val (.int p1), .val (.int p2), .val (.int p3), .val (.long q4), .second, .val (.int (m0_0 p0 p1 p2 p3 q4)), .val (.int (m0_1 p0 p1 p2 p3 q4)), .val (.int (m0_2 p0 p1 p2 p3 q4)), .val (.int (m0_3 p0 p1 p2 p3 q4)), .val (.int (p3 &&& (3 : Int32))), .val (.long (m0_8 p0 p1 p2 p3 q4)), .second, .val (.ref b55), .val (.int (m0_9 p0 p1 p2 p3 q4))] [(.int (m0_9 p0 p1 p2 p3 q4)), (.int (f4a (m0_8 p0 p1 p2 p3 q4) (m0_0 p0 p1 p2 p3 q4)))])) (fun t kt => ?_) ?_
      · show Steps p.tables e below (T62.setTop (mkF m 288 #[.val (.int p0), .val (.int p1), .val (.int p2), .val (.int p3), .val (.long q4), .second, .val (.int (m0_0 p0 p1 p2 p3 q4)), .val (.int (m0_1 p0 p1 p2 p3 q4)), .val (.int (m0_2 p0 p1 p2 p3 q4)), .val (.int (m0_3 p0 p1 p2 p3 q4)), .val (.int (p3 &&& (3 : Int32))), .val (.long (m0_8 p0 p1 p2 p3 q4)), .second, .val (.ref b55), .val (.int (m0_9 p0 p1 p2 p3 q4))] [])) _
        refine XS.aload X62.here hx rfl (hb hby at_288) rfl rfl ?_
        show Steps p.tables e below (T62.setTop (mkF m 290 #[.val (.int p0), .val (.int p1), .val (.int p2), .val (.int p3), .val (.long q4), .second, .val (.int (m0_0 p0 p1 p2 p3 q4)), .val (.int (m0_1 p0 p1 p2 p3 q4)), .val (.int (m0_2 p0 p1 p2 p3 q4)), .val (.int (m0_3 p0 p1 p2 p3 q4)), .val (.int (p3 &&& (3 : Int32))), .val (.long (m0_8 p0 p1 p2 p3 q4)), .second, .val (.ref b55), .val (.int (m0_9 p0 p1 p2 p3 q4))] [(.ref b55)])) _
        refine XS.lload X62.here hx rfl (hb hby at_290) rfl ?_
        show Steps p.tables e below (T62.setTop (mkF m 292 #[.val (.int p0), .val (.int p1), .val (.int p2), .val (.int p3), .val (.long q4), .second, .val (.int (m0_0 p0 p1 p2 p3 q4)), .val (.int (m0_1 p0 p1 p2 p3 q4)), .val (.int (m0_2 p0 p1 p2 p3 q4)), .val (.int (m0_3 p0 p1 p2 p3 q4)), .val (.int (p3 &&& (3 : Int32))), .val (.long (m0_8 p0 p1 p2 p3 q4)), .second, .val (.ref b55), .val (.int (m0_9 p0 p1 p2 p3 q4))] [(.long (m0_8 p0 p1 p2 p3 q4)), (.ref b55)])) _
        refine st64.trans ?_
        show Steps p.tables e below (T64.setTop (mkF m 295 #[.val (.int p0), .val (.int p1), .val (.int p2), .val (.int p3), .val (.long q4), .second, .val (.int (m0_0 p0 p1 p2 p3 q4)), .val (.int (m0_1 p0 p1 p2 p3 q4)), .val (.int (m0_2 p0 p1 p2 p3 q4)), .val (.int (m0_3 p0 p1 p2 p3 q4)), .val (.int (p3 &&& (3 : Int32))), .val (.long (m0_8 p0 p1 p2 p3 q4)), .second, .val (.ref b55), .val (.int (m0_9 p0 p1 p2 p3 q4))] [(.int (f4a (m0_8 p0 p1 p2 p3 q4) (m0_0 p0 p1 p2 p3 q4)))])) _
        refine XS.iload X64.here hx rfl (hb hby at_295) rfl ?_
        exact kt
      by_cases hc297_65 : (f4a (m0_8 p0 p1 p2 p3 q4) (m0_0 p0 p1 p2 p3 q4)) = (m0_9 p0 p1 p2 p3 q4)
      · refine own_back (b := T64.setTop (mkF m 305 #[.val (.int p0), .val (.int p1), .val (.int p2), .val (.int p3), .val (.long q4), .second, .val (.int (m0_0 p0 p1 p2 p3 q4)), .val (.int (m0_1 p0 p1 p2 p3 q4)), .val (.int (m0_2 p0 p1 p2 p3 q4)), .val (.int (m0_3 p0 p1 p2 p3 q4)), .val (.int (p3 &&& (3 : Int32))), .val (.long (m0_8 p0 p1 p2 p3 q4)), .second, .val (.ref b55), .val (.int (m0_9 p0 p1 p2 p3 q4))] [(.int (1 : Int32))])) (fun t kt => ?_) ?_
        · show Steps p.tables e below (T64.setTop (mkF m 297 #[.val (.int p0), .val (.int p1), .val (.int p2), .val (.int p3), .val (.long q4), .second, .val (.int (m0_0 p0 p1 p2 p3 q4)), .val (.int (m0_1 p0 p1 p2 p3 q4)), .val (.int (m0_2 p0 p1 p2 p3 q4)), .val (.int (m0_3 p0 p1 p2 p3 q4)), .val (.int (p3 &&& (3 : Int32))), .val (.long (m0_8 p0 p1 p2 p3 q4)), .second, .val (.ref b55), .val (.int (m0_9 p0 p1 p2 p3 q4))] [(.int (m0_9 p0 p1 p2 p3 q4)), (.int (f4a (m0_8 p0 p1 p2 p3 q4) (m0_0 p0 p1 p2 p3 q4)))])) _
          refine XS.icmpNo X64.here hx rfl (hb hby at_297) rfl (teq hc297_65).2 ?_
          show Steps p.tables e below (T64.setTop (mkF m 300 #[.val (.int p0), .val (.int p1), .val (.int p2), .val (.int p3), .val (.long q4), .second, .val (.int (m0_0 p0 p1 p2 p3 q4)), .val (.int (m0_1 p0 p1 p2 p3 q4)), .val (.int (m0_2 p0 p1 p2 p3 q4)), .val (.int (m0_3 p0 p1 p2 p3 q4)), .val (.int (p3 &&& (3 : Int32))), .val (.long (m0_8 p0 p1 p2 p3 q4)), .second, .val (.ref b55), .val (.int (m0_9 p0 p1 p2 p3 q4))] [])) _
          refine XS.iconst X64.here hx rfl (hb hby at_300) ?_
          show Steps p.tables e below (T64.setTop (mkF m 301 #[.val (.int p0), .val (.int p1), .val (.int p2), .val (.int p3), .val (.long q4), .second, .val (.int (m0_0 p0 p1 p2 p3 q4)), .val (.int (m0_1 p0 p1 p2 p3 q4)), .val (.int (m0_2 p0 p1 p2 p3 q4)), .val (.int (m0_3 p0 p1 p2 p3 q4)), .val (.int (p3 &&& (3 : Int32))), .val (.long (m0_8 p0 p1 p2 p3 q4)), .second, .val (.ref b55), .val (.int (m0_9 p0 p1 p2 p3 q4))] [(.int (1 : Int32))])) _
          refine XS.goto X64.here hx rfl (pc0 := 301) (pc' := 305) rfl (hb hby at_301) (by decide) (by decide) ?_
          exact kt
        obtain ⟨fs, hr, hrun, hended, hEnd⟩ := Stand.leaveW (s := s) X64 hS62 (by rw [e64]; exact (Nat.le_refl _)) (v := some (.int (1 : Int32))) (fun h => by rw [Bd.returns] at h; cases h) (BodyLoose.notSynchronized Bd)
        refine ⟨_, _, ?_, hrun, hended, _, _, rfl, ?_, own_endW hEnd (by decide) (by decide)⟩
        · show Steps p.tables e below (T64.setTop (mkF m 305 #[.val (.int p0), .val (.int p1), .val (.int p2), .val (.int p3), .val (.long q4), .second, .val (.int (m0_0 p0 p1 p2 p3 q4)), .val (.int (m0_1 p0 p1 p2 p3 q4)), .val (.int (m0_2 p0 p1 p2 p3 q4)), .val (.int (m0_3 p0 p1 p2 p3 q4)), .val (.int (p3 &&& (3 : Int32))), .val (.long (m0_8 p0 p1 p2 p3 q4)), .second, .val (.ref b55), .val (.int (m0_9 p0 p1 p2 p3 q4))] [(.int (1 : Int32))])) _
          exact retN X64 hx (t := .boolean) Bd.returns (by simp) (hb hby at_305) hr
        · show Q0 Z p0 p1 p2 p3 q4 h0 n0 _ T64.heap _
          rw [e64]
          exact ⟨by rw [show f0 p0 p1 p2 p3 q4 = (1 : Int32) from by unfold f0; rw [if_neg hc51_1, if_pos hc114_54, if_pos hc297_65]], N64⟩
      · refine own_back (b := T64.setTop (mkF m 305 #[.val (.int p0), .val (.int p1), .val (.int p2), .val (.int p3), .val (.long q4), .second, .val (.int (m0_0 p0 p1 p2 p3 q4)), .val (.int (m0_1 p0 p1 p2 p3 q4)), .val (.int (m0_2 p0 p1 p2 p3 q4)), .val (.int (m0_3 p0 p1 p2 p3 q4)), .val (.int (p3 &&& (3 : Int32))), .val (.long (m0_8 p0 p1 p2 p3 q4)), .second, .val (.ref b55), .val (.int (m0_9 p0 p1 p2 p3 q4))] [(.int (0 : Int32))])) (fun t kt => ?_) ?_
        · show Steps p.tables e below (T64.setTop (mkF m 297 #[.val (.int p0), .val (.int p1), .val (.int p2), .val (.int p3), .val (.long q4), .second, .val (.int (m0_0 p0 p1 p2 p3 q4)), .val (.int (m0_1 p0 p1 p2 p3 q4)), .val (.int (m0_2 p0 p1 p2 p3 q4)), .val (.int (m0_3 p0 p1 p2 p3 q4)), .val (.int (p3 &&& (3 : Int32))), .val (.long (m0_8 p0 p1 p2 p3 q4)), .second, .val (.ref b55), .val (.int (m0_9 p0 p1 p2 p3 q4))] [(.int (m0_9 p0 p1 p2 p3 q4)), (.int (f4a (m0_8 p0 p1 p2 p3 q4) (m0_0 p0 p1 p2 p3 q4)))])) _
          refine XS.icmpYes X64.here hx rfl (pc0 := 297) (pc' := 304) rfl (hb hby at_297) rfl (feq hc297_65).2 (by decide) (by decide) ?_
          show Steps p.tables e below (T64.setTop (mkF m 304 #[.val (.int p0), .val (.int p1), .val (.int p2), .val (.int p3), .val (.long q4), .second, .val (.int (m0_0 p0 p1 p2 p3 q4)), .val (.int (m0_1 p0 p1 p2 p3 q4)), .val (.int (m0_2 p0 p1 p2 p3 q4)), .val (.int (m0_3 p0 p1 p2 p3 q4)), .val (.int (p3 &&& (3 : Int32))), .val (.long (m0_8 p0 p1 p2 p3 q4)), .second, .val (.ref b55), .val (.int (m0_9 p0 p1 p2 p3 q4))] [])) _
          refine XS.iconst X64.here hx rfl (hb hby at_304) ?_
          exact kt
        obtain ⟨fs, hr, hrun, hended, hEnd⟩ := Stand.leaveW (s := s) X64 hS62 (by rw [e64]; exact (Nat.le_refl _)) (v := some (.int (0 : Int32))) (fun h => by rw [Bd.returns] at h; cases h) (BodyLoose.notSynchronized Bd)
        refine ⟨_, _, ?_, hrun, hended, _, _, rfl, ?_, own_endW hEnd (by decide) (by decide)⟩
        · show Steps p.tables e below (T64.setTop (mkF m 305 #[.val (.int p0), .val (.int p1), .val (.int p2), .val (.int p3), .val (.long q4), .second, .val (.int (m0_0 p0 p1 p2 p3 q4)), .val (.int (m0_1 p0 p1 p2 p3 q4)), .val (.int (m0_2 p0 p1 p2 p3 q4)), .val (.int (m0_3 p0 p1 p2 p3 q4)), .val (.int (p3 &&& (3 : Int32))), .val (.long (m0_8 p0 p1 p2 p3 q4)), .second, .val (.ref b55), .val (.int (m0_9 p0 p1 p2 p3 q4))] [(.int (0 : Int32))])) _
          exact retN X64 hx (t := .boolean) Bd.returns (by simp) (hb hby at_305) hr
        · show Q0 Z p0 p1 p2 p3 q4 h0 n0 _ T64.heap _
          rw [e64]
          exact ⟨by rw [show f0 p0 p1 p2 p3 q4 = (0 : Int32) from by unfold f0; rw [if_neg hc51_1, if_pos hc114_54, if_neg hc297_65]], N64⟩
    · refine own_back (b := s₁.setTop (mkF m 147 #[.val (.int p0), .val (.int p1), .val (.int p2), .val (.int p3), .val (.long q4), .second, .val (.int (m0_0 p0 p1 p2 p3 q4)), .val (.int (m0_1 p0 p1 p2 p3 q4)), .val (.int (m0_2 p0 p1 p2 p3 q4)), .val (.int (m0_3 p0 p1 p2 p3 q4)), .val (.int (p3 &&& (3 : Int32))), .val (.long (m0_8 p0 p1 p2 p3 q4)), .second, .val (.int (m0_7 p0 p1 p2 p3 q4)), .val (.int (((q4 &&& (3 : Int64)).toInt32) - (1 : Int32)))] [(.int (2 : Int32)), (.int (m0_3 p0 p1 p2 p3 q4))])) (fun t kt => ?_) ?_
      · show Steps p.tables e below (s₁.setTop (mkF m 114 #[.val (.int p0), .val (.int p1), .val (.int p2), .val (.int p3), .val (.long q4), .second, .val (.int (m0_0 p0 p1 p2 p3 q4)), .val (.int (m0_1 p0 p1 p2 p3 q4)), .val (.int (m0_2 p0 p1 p2 p3 q4)), .val (.int (m0_3 p0 p1 p2 p3 q4)), .val (.int (p3 &&& (3 : Int32))), .val (.long (m0_8 p0 p1 p2 p3 q4)), .second, .val (.int (m0_7 p0 p1 p2 p3 q4)), .val (.int (((q4 &&& (3 : Int64)).toInt32) - (1 : Int32)))] [(.int (1 : Int32)), (.int (m0_3 p0 p1 p2 p3 q4))])) _
        refine XS.icmpYes X0.here hx rfl (pc0 := 114) (pc' := 144) rfl (hb hby at_114) rfl (feq hc114_54).2 (by decide) (by decide) ?_
        show Steps p.tables e below (s₁.setTop (mkF m 144 #[.val (.int p0), .val (.int p1), .val (.int p2), .val (.int p3), .val (.long q4), .second, .val (.int (m0_0 p0 p1 p2 p3 q4)), .val (.int (m0_1 p0 p1 p2 p3 q4)), .val (.int (m0_2 p0 p1 p2 p3 q4)), .val (.int (m0_3 p0 p1 p2 p3 q4)), .val (.int (p3 &&& (3 : Int32))), .val (.long (m0_8 p0 p1 p2 p3 q4)), .second, .val (.int (m0_7 p0 p1 p2 p3 q4)), .val (.int (((q4 &&& (3 : Int64)).toInt32) - (1 : Int32)))] [])) _
        refine XS.iload X0.here hx rfl (hb hby at_144) rfl ?_
        show Steps p.tables e below (s₁.setTop (mkF m 146 #[.val (.int p0), .val (.int p1), .val (.int p2), .val (.int p3), .val (.long q4), .second, .val (.int (m0_0 p0 p1 p2 p3 q4)), .val (.int (m0_1 p0 p1 p2 p3 q4)), .val (.int (m0_2 p0 p1 p2 p3 q4)), .val (.int (m0_3 p0 p1 p2 p3 q4)), .val (.int (p3 &&& (3 : Int32))), .val (.long (m0_8 p0 p1 p2 p3 q4)), .second, .val (.int (m0_7 p0 p1 p2 p3 q4)), .val (.int (((q4 &&& (3 : Int64)).toInt32) - (1 : Int32)))] [(.int (m0_3 p0 p1 p2 p3 q4))])) _
        refine XS.iconst X0.here hx rfl (hb hby at_146) ?_
        exact kt
      by_cases hc147_66 : (m0_3 p0 p1 p2 p3 q4) = (2 : Int32)
      · obtain ⟨T67, h67, X67, e67, E67, A67, D67, -, st67⟩ := newO X0 hx hZ hown (hw _ (List.mem_of_getElem? (i := 4) rfl)) (hw _ (List.mem_of_getElem? (i := 5) rfl)) (hw _ (List.mem_of_getElem? (i := 6) rfl)) e0 (g := (mkF m 150 #[.val (.int p0), .val (.int p1), .val (.int p2), .val (.int p3), .val (.long q4), .second, .val (.int (m0_0 p0 p1 p2 p3 q4)), .val (.int (m0_1 p0 p1 p2 p3 q4)), .val (.int (m0_2 p0 p1 p2 p3 q4)), .val (.int (m0_3 p0 p1 p2 p3 q4)), .val (.int (p3 &&& (3 : Int32))), .val (.long (m0_8 p0 p1 p2 p3 q4)), .second, .val (.int (m0_7 p0 p1 p2 p3 q4)), .val (.int (((q4 &&& (3 : Int64)).toInt32) - (1 : Int32)))] [])) rfl (hb hby at_150) (by decide) (by decide)
        obtain ⟨b67, g67⟩ : ∃ z, z = h0.size := ⟨_, rfl⟩
        rw [← g67] at A67 D67 st67
        have lo67 : n0 ≤ b67 := Nat.le_trans Z0 (Nat.le_of_eq g67.symm)
        have sz67 : h0.size ≤ b67 := Nat.le_trans (Nat.le_refl _) (Nat.le_of_eq g67.symm)
        have K67 : Keep h0 h67 [] := (Keep.refl h0 _).ext E67
        have Z67 : n0 ≤ h67.size := Nat.le_trans Z0 E67.1
        have F67_blockSizes : Fld Z h67 b67 "com/example/byteloom/byteloom/SectionLayout" "blockSizes" "[I" .null := D67 (Or.inr (hw _ (List.mem_of_getElem? (i := 37) rfl))) (ty := (.array .int)) (by decide)
        have F67_blockCounts : Fld Z h67 b67 "com/example/byteloom/byteloom/SectionLayout" "blockCounts" "[I" .null := D67 (Or.inr (hw _ (List.mem_of_getElem? (i := 39) rfl))) (ty := (.array .int)) (by decide)
        have F67_reservedBytes : Fld Z h67 b67 "com/example/byteloom/byteloom/SectionLayout" "reservedBytes" "J" (.long (0 : Int64)) := D67 (Or.inr (hw _ (List.mem_of_getElem? (i := 41) rfl))) (ty := .long) (by decide)
        obtain ⟨T68, h68, k68, X68, e68, E68, A68, B68, st68⟩ := newPE X67 hx hZ (hw _ (List.mem_of_getElem? (i := 7) rfl)) e67 (g := (mkF m 155 #[.val (.int p0), .val (.int p1), .val (.int p2), .val (.int p3), .val (.long q4), .second, .val (.int (m0_0 p0 p1 p2 p3 q4)), .val (.int (m0_1 p0 p1 p2 p3 q4)), .val (.int (m0_2 p0 p1 p2 p3 q4)), .val (.int (m0_3 p0 p1 p2 p3 q4)), .val (.int (p3 &&& (3 : Int32))), .val (.long (m0_8 p0 p1 p2 p3 q4)), .second, .val (.int (m0_7 p0 p1 p2 p3 q4)), .val (.int (((q4 &&& (3 : Int64)).toInt32) - (1 : Int32)))] [(.int (2 : Int32)), (.ref b67), (.ref b67)])) rfl (hb hby at_155) rfl (by decide) (cap := 2) (by decide) (by decide) (by decide) (by decide) (ad := "[I") (by decide)
        obtain ⟨b68, g68⟩ : ∃ z, z = h67.size := ⟨_, rfl⟩
        rw [← g68] at A68 B68 st68
        have ne68_b67 : b67 ≠ b68 := Nat.ne_of_lt (Nat.lt_of_lt_of_le A67.lt (Nat.le_of_eq g68.symm))
        have lo68 : n0 ≤ b68 := Nat.le_trans Z67 (Nat.le_of_eq g68.symm)
        have sz68 : h0.size ≤ b68 := Nat.le_trans K67.1 (Nat.le_of_eq g68.symm)
        have f68_0 := A67.ext E68
        have f68_1 := F67_blockSizes.ext E68
        have f68_2 := F67_blockCounts.ext E68
        have f68_3 := F67_reservedBytes.ext E68
        have K68 := K67.ext E68
        have Z68 : n0 ≤ h68.size := Nat.le_trans Z67 E68.1
        have V68 : Arv Z h68 b68 k68 .int (2 : Int32) [(.int (0 : Int32)), (.int (0 : Int32))] (.int (0 : Int32)) := (Arv.new A68 (by decide)).pad (pad_rep [] (.int (0 : Int32)) 2)
        obtain ⟨cl69, Ar69, qk69, S69, N69', Hh69, G69⟩ := own_same V68
        have hin69 : ¬ ((0 : Int32) < 0 ∨ cl69.slots.size ≤ ((0 : Int32)).toNatClampNeg) := inb_of S69 ⟨by decide, by decide⟩
        obtain ⟨T70, h70, X70, e70, W70, st70⟩ := stI X68 hx hZ e68 Ar69 (j := (0 : Int32)) hin69 (g := (mkF m 161 #[.val (.int p0), .val (.int p1), .val (.int p2), .val (.int p3), .val (.long q4), .second, .val (.int (m0_0 p0 p1 p2 p3 q4)), .val (.int (m0_1 p0 p1 p2 p3 q4)), .val (.int (m0_2 p0 p1 p2 p3 q4)), .val (.int (m0_3 p0 p1 p2 p3 q4)), .val (.int (p3 &&& (3 : Int32))), .val (.long (m0_8 p0 p1 p2 p3 q4)), .second, .val (.int (m0_7 p0 p1 p2 p3 q4)), .val (.int (((q4 &&& (3 : Int64)).toInt32) - (1 : Int32)))] [(.int (m0_0 p0 p1 p2 p3 q4)), (.int (0 : Int32)), (.ref b68), (.ref b68), (.ref b67), (.ref b67)])) rfl rfl (hb hby at_161)
        have V70 : Arv Z h70 b68 k68 .int (2 : Int32) [(.int (m0_0 p0 p1 p2 p3 q4)), (.int (0 : Int32))] (.int (0 : Int32)) := Arv.set Ar69 qk69 S69 N69' Hh69 G69 rfl W70 0 rfl (Nat.le_of_ble_eq_true rfl)
        have f70_0 := f68_0.wr W70
        have f70_1 := f68_1.other W70 (Or.inl ne68_b67)
        have f70_2 := f68_2.other W70 (Or.inl ne68_b67)
        have f70_3 := f68_3.other W70 (Or.inl ne68_b67)
        have f70_4 := B68.wr W70
        have K70 : Keep h0 h70 [] := K68.wr W70 (Or.inr sz68)
        have Z70 : n0 ≤ h70.size := Nat.le_trans Z68 (Keep.of_wr W70).1
        have N70 := Fr.snoc X70 N0 lo68
        obtain ⟨cl71, Ar71, qk71, S71, N71', Hh71, G71⟩ := own_same V70
        have hin71 : ¬ ((1 : Int32) < 0 ∨ cl71.slots.size ≤ ((1 : Int32)).toNatClampNeg) := inb_of S71 ⟨by decide, by decide⟩
        obtain ⟨T72, h72, X72, e72, W72, st72⟩ := stI X70 hx hZ e70 Ar71 (j := (1 : Int32)) hin71 (g := (mkF m 166 #[.val (.int p0), .val (.int p1), .val (.int p2), .val (.int p3), .val (.long q4), .second, .val (.int (m0_0 p0 p1 p2 p3 q4)), .val (.int (m0_1 p0 p1 p2 p3 q4)), .val (.int (m0_2 p0 p1 p2 p3 q4)), .val (.int (m0_3 p0 p1 p2 p3 q4)), .val (.int (p3 &&& (3 : Int32))), .val (.long (m0_8 p0 p1 p2 p3 q4)), .second, .val (.int (m0_7 p0 p1 p2 p3 q4)), .val (.int (((q4 &&& (3 : Int64)).toInt32) - (1 : Int32)))] [(.int (m0_1 p0 p1 p2 p3 q4)), (.int (1 : Int32)), (.ref b68), (.ref b68), (.ref b67), (.ref b67)])) rfl rfl (hb hby at_166)
        have V72 : Arv Z h72 b68 k68 .int (2 : Int32) [(.int (m0_0 p0 p1 p2 p3 q4)), (.int (m0_1 p0 p1 p2 p3 q4))] (.int (0 : Int32)) := Arv.set Ar71 qk71 S71 N71' Hh71 G71 rfl W72 1 rfl (Nat.le_of_ble_eq_true rfl)
        have f72_0 := f70_0.wr W72
        have f72_1 := f70_1.other W72 (Or.inl ne68_b67)
        have f72_2 := f70_2.other W72 (Or.inl ne68_b67)
        have f72_3 := f70_3.other W72 (Or.inl ne68_b67)
        have f72_4 := f70_4.wr W72
        have K72 : Keep h0 h72 [] := K70.wr W72 (Or.inr sz68)
        have Z72 : n0 ≤ h72.size := Nat.le_trans Z70 (Keep.of_wr W72).1
        have N72 := Fr.snoc X72 N70 lo68
        obtain ⟨T73, h73, k73, X73, e73, E73, A73, B73, st73⟩ := newPE X72 hx hZ (hw _ (List.mem_of_getElem? (i := 7) rfl)) e72 (g := (mkF m 168 #[.val (.int p0), .val (.int p1), .val (.int p2), .val (.int p3), .val (.long q4), .second, .val (.int (m0_0 p0 p1 p2 p3 q4)), .val (.int (m0_1 p0 p1 p2 p3 q4)), .val (.int (m0_2 p0 p1 p2 p3 q4)), .val (.int (m0_3 p0 p1 p2 p3 q4)), .val (.int (p3 &&& (3 : Int32))), .val (.long (m0_8 p0 p1 p2 p3 q4)), .second, .val (.int (m0_7 p0 p1 p2 p3 q4)), .val (.int (((q4 &&& (3 : Int64)).toInt32) - (1 : Int32)))] [(.int (2 : Int32)), (.ref b68), (.ref b67), (.ref b67)])) rfl (hb hby at_168) rfl (by decide) (cap := 2) (by decide) (by decide) (by decide) (by decide) (ad := "[I") (by decide)
        obtain ⟨b73, g73⟩ : ∃ z, z = h72.size := ⟨_, rfl⟩
        rw [← g73] at A73 B73 st73
        have ne73_b67 : b67 ≠ b73 := Nat.ne_of_lt (Nat.lt_of_lt_of_le f72_0.lt (Nat.le_of_eq g73.symm))
        have ne73_b68 : b68 ≠ b73 := Nat.ne_of_lt (Nat.lt_of_lt_of_le f72_4.lt (Nat.le_of_eq g73.symm))
        have lo73 : n0 ≤ b73 := Nat.le_trans Z72 (Nat.le_of_eq g73.symm)
        have sz73 : h0.size ≤ b73 := Nat.le_trans K72.1 (Nat.le_of_eq g73.symm)
        have f73_0 := f72_0.ext E73
        have f73_1 := f72_1.ext E73
        have f73_2 := f72_2.ext E73
        have f73_3 := f72_3.ext E73
        have f73_4 := f72_4.ext E73
        have f73_5 := V72.ext E73
        have K73 := K72.ext E73
        have Z73 : n0 ≤ h73.size := Nat.le_trans Z72 E73.1
        have V73 : Arv Z h73 b73 k73 .int (2 : Int32) [(.int (0 : Int32)), (.int (0 : Int32))] (.int (0 : Int32)) := (Arv.new A73 (by decide)).pad (pad_rep [] (.int (0 : Int32)) 2)
        obtain ⟨cl74, Ar74, qk74, S74, N74', Hh74, G74⟩ := own_same V73
        have hin74 : ¬ ((0 : Int32) < 0 ∨ cl74.slots.size ≤ ((0 : Int32)).toNatClampNeg) := inb_of S74 ⟨by decide, by decide⟩
        obtain ⟨T75, h75, X75, e75, W75, st75⟩ := stI X73 hx hZ e73 Ar74 (j := (0 : Int32)) hin74 (g := (mkF m 173 #[.val (.int p0), .val (.int p1), .val (.int p2), .val (.int p3), .val (.long q4), .second, .val (.int (m0_0 p0 p1 p2 p3 q4)), .val (.int (m0_1 p0 p1 p2 p3 q4)), .val (.int (m0_2 p0 p1 p2 p3 q4)), .val (.int (m0_3 p0 p1 p2 p3 q4)), .val (.int (p3 &&& (3 : Int32))), .val (.long (m0_8 p0 p1 p2 p3 q4)), .second, .val (.int (m0_7 p0 p1 p2 p3 q4)), .val (.int (((q4 &&& (3 : Int64)).toInt32) - (1 : Int32)))] [(.int (1 : Int32)), (.int (0 : Int32)), (.ref b73), (.ref b73), (.ref b68), (.ref b67), (.ref b67)])) rfl rfl (hb hby at_173)
        have V75 : Arv Z h75 b73 k73 .int (2 : Int32) [(.int (1 : Int32)), (.int (0 : Int32))] (.int (0 : Int32)) := Arv.set Ar74 qk74 S74 N74' Hh74 G74 rfl W75 0 rfl (Nat.le_of_ble_eq_true rfl)
        have f75_0 := f73_0.wr W75
        have f75_1 := f73_1.other W75 (Or.inl ne73_b67)
        have f75_2 := f73_2.other W75 (Or.inl ne73_b67)
        have f75_3 := f73_3.other W75 (Or.inl ne73_b67)
        have f75_4 := f73_4.wr W75
        have f75_5 := f73_5.other W75 ne73_b68
        have f75_6 := B73.wr W75
        have K75 : Keep h0 h75 [] := K73.wr W75 (Or.inr sz73)
        have Z75 : n0 ≤ h75.size := Nat.le_trans Z73 (Keep.of_wr W75).1
        have N75 := Fr.snoc X75 N72 lo73
        obtain ⟨cl76, Ar76, qk76, S76, N76', Hh76, G76⟩ := own_same V75
        have hin76 : ¬ ((1 : Int32) < 0 ∨ cl76.slots.size ≤ ((1 : Int32)).toNatClampNeg) := inb_of S76 ⟨by decide, by decide⟩
        obtain ⟨T77, h77, X77, e77, W77, st77⟩ := stI X75 hx hZ e75 Ar76 (j := (1 : Int32)) hin76 (g := (mkF m 177 #[.val (.int p0), .val (.int p1), .val (.int p2), .val (.int p3), .val (.long q4), .second, .val (.int (m0_0 p0 p1 p2 p3 q4)), .val (.int (m0_1 p0 p1 p2 p3 q4)), .val (.int (m0_2 p0 p1 p2 p3 q4)), .val (.int (m0_3 p0 p1 p2 p3 q4)), .val (.int (p3 &&& (3 : Int32))), .val (.long (m0_8 p0 p1 p2 p3 q4)), .second, .val (.int (m0_7 p0 p1 p2 p3 q4)), .val (.int (((q4 &&& (3 : Int64)).toInt32) - (1 : Int32)))] [(.int (1 : Int32)), (.int (1 : Int32)), (.ref b73), (.ref b73), (.ref b68), (.ref b67), (.ref b67)])) rfl rfl (hb hby at_177)
        have V77 : Arv Z h77 b73 k73 .int (2 : Int32) [(.int (1 : Int32)), (.int (1 : Int32))] (.int (0 : Int32)) := Arv.set Ar76 qk76 S76 N76' Hh76 G76 rfl W77 1 rfl (Nat.le_of_ble_eq_true rfl)
        have f77_0 := f75_0.wr W77
        have f77_1 := f75_1.other W77 (Or.inl ne73_b67)
        have f77_2 := f75_2.other W77 (Or.inl ne73_b67)
        have f77_3 := f75_3.other W77 (Or.inl ne73_b67)
        have f77_4 := f75_4.wr W77
        have f77_5 := f75_5.other W77 ne73_b68
        have f77_6 := f75_6.wr W77
        have K77 : Keep h0 h77 [] := K75.wr W77 (Or.inr sz73)
        have Z77 : n0 ≤ h77.size := Nat.le_trans Z75 (Keep.of_wr W77).1
        have N77 := Fr.snoc X77 N75 lo73
        obtain ⟨_, _, ⟨T78, L78, k78, n78⟩, -, X78, hS78, hg78, ⟨Lc78, hQ78, l78, y78, z78⟩, st78⟩ := X77.specialBackS hx (y := (⟨"com/example/byteloom/byteloom/SectionLayout", "<init>", "([I[I)V"⟩ : MethodName)) rfl hown (mvT hZ (hw _ (List.mem_of_getElem? (i := 8) rfl))) (mvT hZ (hw _ (List.mem_of_getElem? (i := 9) rfl))) (mvT hZ (hw _ (List.mem_of_getElem? (i := 10) rfl))) (by decide) (backOfS (W := 1) (rm1b l Z aw hw [] b67 b68 b73 k68 k73 (m0_0 p0 p1 p2 p3 q4) (m0_1 p0 p1 p2 p3 q4) h77 n0 Z77 f77_1 f77_2 f77_3 f77_0 lo67 f77_5 V77 f77_4 f77_6 (Ne.symm ne68_b67) (Ne.symm ne73_b67) (own_g0 p0 p1 p2 p3 q4) (own_g1 p0 p1 p2 p3 q4) (own_l01 p0 p1 p2 p3 q4)) hZ (hw _ (List.mem_of_getElem? (i := 10) rfl)) (hw _ (List.mem_of_getElem? (i := 6) rfl)) (by decide) (by decide)) (g := (mkF m 178 #[.val (.int p0), .val (.int p1), .val (.int p2), .val (.int p3), .val (.long q4), .second, .val (.int (m0_0 p0 p1 p2 p3 q4)), .val (.int (m0_1 p0 p1 p2 p3 q4)), .val (.int (m0_2 p0 p1 p2 p3 q4)), .val (.int (m0_3 p0 p1 p2 p3 q4)), .val (.int (p3 &&& (3 : Int32))), .val (.long (m0_8 p0 p1 p2 p3 q4)), .second, .val (.int (m0_7 p0 p1 p2 p3 q4)), .val (.int (((q4 &&& (3 : Int64)).toInt32) - (1 : Int32)))] [(.ref b73), (.ref b68), (.ref b67), (.ref b67)])) rfl (by rw [hml]; rfl) (Steps.refl _) (a := b67) (argsL := [(.ref b68), (.ref b73)]) (rest := [(.ref b67)]) (lenOf pd_0_0 rfl) rfl (by show 2 * 0 + _ ≤ _; exact Nat.le_of_eq rfl) (hb hby at_178) (fun _ _ => ⟨rfl, e77, (by decide : 3 + 6 ≤ _), (by decide : 7 + 96 ≤ _)⟩)
        dsimp only [Pt.U, Pt.locs, Pt.cells, Pt.slots] at X78 l78 y78 z78 st78 hQ78
        rw [l78, y78, z78] at X78
        dsimp only [Pt.U, Pt.locs, Pt.cells, Pt.slots] at hS78 hg78
        have hZ : Z.Warmed39 (s.setVm T78.vm).vm := State.Warmed39.trans hZ hS78.1
        have hown : (s.setVm T78.vm).vm.findClass "com/example/byteloom/byteloom/SectionLayoutSectionForPinLaw" = some m.cls := by rw [show (s.setVm T78.vm).vm = T78.vm from rfl, hS78.1.alike.findClass]; exact hown
        obtain ⟨bb78, hQ78⟩ := hQ78
        obtain ⟨rfl, Nq78, Kq78, P78_0, P78_1, P78_2⟩ := hQ78
        have N78 := Fr.app N77 Nq78
        have f78_0 := f77_4.keep Kq78
        have f78_1 := f77_5.keep Kq78 (ninS (Ne.symm ne68_b67) nin0)
        have f78_2 := f77_6.keep Kq78
        have f78_3 := V77.keep Kq78 (ninS (Ne.symm ne73_b67) nin0)
        have K78 : Keep h0 T78.heap [] := K77.trans Kq78 (allS (Or.inr sz67) all0)
        have Z78 : n0 ≤ T78.heap.size := Nat.le_trans Z77 Kq78.1
        refine own_back (b := T78.setTop (mkF m 234 #[.val (.int p0), .val (.int p1), .val (.int p2), .val (.int p3), .val (.long q4), .second, .val (.int (m0_0 p0 p1 p2 p3 q4)), .val (.int (m0_1 p0 p1 p2 p3 q4)), .val (.int (m0_2 p0 p1 p2 p3 q4)), .val (.int (m0_3 p0 p1 p2 p3 q4)), .val (.int (p3 &&& (3 : Int32))), .val (.long (m0_8 p0 p1 p2 p3 q4)), .second, .val (.ref b67), .val (.int (((q4 &&& (3 : Int64)).toInt32) - (1 : Int32)))] [(.int (lcmpW (m0_8 p0 p1 p2 p3 q4) ((m0_0 p0 p1 p2 p3 q4).toInt64)))])) (fun t kt => ?_) ?_
        · show Steps p.tables e below (s₁.setTop (mkF m 147 #[.val (.int p0), .val (.int p1), .val (.int p2), .val (.int p3), .val (.long q4), .second, .val (.int (m0_0 p0 p1 p2 p3 q4)), .val (.int (m0_1 p0 p1 p2 p3 q4)), .val (.int (m0_2 p0 p1 p2 p3 q4)), .val (.int (m0_3 p0 p1 p2 p3 q4)), .val (.int (p3 &&& (3 : Int32))), .val (.long (m0_8 p0 p1 p2 p3 q4)), .second, .val (.int (m0_7 p0 p1 p2 p3 q4)), .val (.int (((q4 &&& (3 : Int64)).toInt32) - (1 : Int32)))] [(.int (2 : Int32)), (.int (m0_3 p0 p1 p2 p3 q4))])) _
          refine XS.icmpNo X0.here hx rfl (hb hby at_147) rfl (teq hc147_66).2 ?_
          show Steps p.tables e below (s₁.setTop (mkF m 150 #[.val (.int p0), .val (.int p1), .val (.int p2), .val (.int p3), .val (.long q4), .second, .val (.int (m0_0 p0 p1 p2 p3 q4)), .val (.int (m0_1 p0 p1 p2 p3 q4)), .val (.int (m0_2 p0 p1 p2 p3 q4)), .val (.int (m0_3 p0 p1 p2 p3 q4)), .val (.int (p3 &&& (3 : Int32))), .val (.long (m0_8 p0 p1 p2 p3 q4)), .second, .val (.int (m0_7 p0 p1 p2 p3 q4)), .val (.int (((q4 &&& (3 : Int64)).toInt32) - (1 : Int32)))] [])) _
          refine st67 _ ?_
          show Steps p.tables e below (T67.setTop (mkF m 153 #[.val (.int p0), .val (.int p1), .val (.int p2), .val (.int p3), .val (.long q4), .second, .val (.int (m0_0 p0 p1 p2 p3 q4)), .val (.int (m0_1 p0 p1 p2 p3 q4)), .val (.int (m0_2 p0 p1 p2 p3 q4)), .val (.int (m0_3 p0 p1 p2 p3 q4)), .val (.int (p3 &&& (3 : Int32))), .val (.long (m0_8 p0 p1 p2 p3 q4)), .second, .val (.int (m0_7 p0 p1 p2 p3 q4)), .val (.int (((q4 &&& (3 : Int64)).toInt32) - (1 : Int32)))] [(.ref b67)])) _
          refine XS.dup X67.here hx rfl (hb hby at_153) rfl rfl ?_
          show Steps p.tables e below (T67.setTop (mkF m 154 #[.val (.int p0), .val (.int p1), .val (.int p2), .val (.int p3), .val (.long q4), .second, .val (.int (m0_0 p0 p1 p2 p3 q4)), .val (.int (m0_1 p0 p1 p2 p3 q4)), .val (.int (m0_2 p0 p1 p2 p3 q4)), .val (.int (m0_3 p0 p1 p2 p3 q4)), .val (.int (p3 &&& (3 : Int32))), .val (.long (m0_8 p0 p1 p2 p3 q4)), .second, .val (.int (m0_7 p0 p1 p2 p3 q4)), .val (.int (((q4 &&& (3 : Int64)).toInt32) - (1 : Int32)))] [(.ref b67), (.ref b67)])) _
          refine XS.iconst X67.here hx rfl (hb hby at_154) ?_
          show Steps p.tables e below (T67.setTop (mkF m 155 #[.val (.int p0), .val (.int p1), .val (.int p2), .val (.int p3), .val (.long q4), .second, .val (.int (m0_0 p0 p1 p2 p3 q4)), .val (.int (m0_1 p0 p1 p2 p3 q4)), .val (.int (m0_2 p0 p1 p2 p3 q4)), .val (.int (m0_3 p0 p1 p2 p3 q4)), .val (.int (p3 &&& (3 : Int32))), .val (.long (m0_8 p0 p1 p2 p3 q4)), .second, .val (.int (m0_7 p0 p1 p2 p3 q4)), .val (.int (((q4 &&& (3 : Int64)).toInt32) - (1 : Int32)))] [(.int (2 : Int32)), (.ref b67), (.ref b67)])) _
          refine st68 _ ?_
          show Steps p.tables e below (T68.setTop (mkF m 157 #[.val (.int p0), .val (.int p1), .val (.int p2), .val (.int p3), .val (.long q4), .second, .val (.int (m0_0 p0 p1 p2 p3 q4)), .val (.int (m0_1 p0 p1 p2 p3 q4)), .val (.int (m0_2 p0 p1 p2 p3 q4)), .val (.int (m0_3 p0 p1 p2 p3 q4)), .val (.int (p3 &&& (3 : Int32))), .val (.long (m0_8 p0 p1 p2 p3 q4)), .second, .val (.int (m0_7 p0 p1 p2 p3 q4)), .val (.int (((q4 &&& (3 : Int64)).toInt32) - (1 : Int32)))] [(.ref b68), (.ref b67), (.ref b67)])) _
          refine XS.dup X68.here hx rfl (hb hby at_157) rfl rfl ?_
          show Steps p.tables e below (T68.setTop (mkF m 158 #[.val (.int p0), .val (.int p1), .val (.int p2), .val (.int p3), .val (.long q4), .second, .val (.int (m0_0 p0 p1 p2 p3 q4)), .val (.int (m0_1 p0 p1 p2 p3 q4)), .val (.int (m0_2 p0 p1 p2 p3 q4)), .val (.int (m0_3 p0 p1 p2 p3 q4)), .val (.int (p3 &&& (3 : Int32))), .val (.long (m0_8 p0 p1 p2 p3 q4)), .second, .val (.int (m0_7 p0 p1 p2 p3 q4)), .val (.int (((q4 &&& (3 : Int64)).toInt32) - (1 : Int32)))] [(.ref b68), (.ref b68), (.ref b67), (.ref b67)])) _
          refine XS.iconst X68.here hx rfl (hb hby at_158) ?_
          show Steps p.tables e below (T68.setTop (mkF m 159 #[.val (.int p0), .val (.int p1), .val (.int p2), .val (.int p3), .val (.long q4), .second, .val (.int (m0_0 p0 p1 p2 p3 q4)), .val (.int (m0_1 p0 p1 p2 p3 q4)), .val (.int (m0_2 p0 p1 p2 p3 q4)), .val (.int (m0_3 p0 p1 p2 p3 q4)), .val (.int (p3 &&& (3 : Int32))), .val (.long (m0_8 p0 p1 p2 p3 q4)), .second, .val (.int (m0_7 p0 p1 p2 p3 q4)), .val (.int (((q4 &&& (3 : Int64)).toInt32) - (1 : Int32)))] [(.int (0 : Int32)), (.ref b68), (.ref b68), (.ref b67), (.ref b67)])) _
          refine XS.iload X68.here hx rfl (hb hby at_159) rfl ?_
          show Steps p.tables e below (T68.setTop (mkF m 161 #[.val (.int p0), .val (.int p1), .val (.int p2), .val (.int p3), .val (.long q4), .second, .val (.int (m0_0 p0 p1 p2 p3 q4)), .val (.int (m0_1 p0 p1 p2 p3 q4)), .val (.int (m0_2 p0 p1 p2 p3 q4)), .val (.int (m0_3 p0 p1 p2 p3 q4)), .val (.int (p3 &&& (3 : Int32))), .val (.long (m0_8 p0 p1 p2 p3 q4)), .second, .val (.int (m0_7 p0 p1 p2 p3 q4)), .val (.int (((q4 &&& (3 : Int64)).toInt32) - (1 : Int32)))] [(.int (m0_0 p0 p1 p2 p3 q4)), (.int (0 : Int32)), (.ref b68), (.ref b68), (.ref b67), (.ref b67)])) _
          refine st70 _ ?_
          show Steps p.tables e below (T70.setTop (mkF m 162 #[.val (.int p0), .val (.int p1), .val (.int p2), .val (.int p3), .val (.long q4), .second, .val (.int (m0_0 p0 p1 p2 p3 q4)), .val (.int (m0_1 p0 p1 p2 p3 q4)), .val (.int (m0_2 p0 p1 p2 p3 q4)), .val (.int (m0_3 p0 p1 p2 p3 q4)), .val (.int (p3 &&& (3 : Int32))), .val (.long (m0_8 p0 p1 p2 p3 q4)), .second, .val (.int (m0_7 p0 p1 p2 p3 q4)), .val (.int (((q4 &&& (3 : Int64)).toInt32) - (1 : Int32)))] [(.ref b68), (.ref b67), (.ref b67)])) _
          refine XS.dup X70.here hx rfl (hb hby at_162) rfl rfl ?_
          show Steps p.tables e below (T70.setTop (mkF m 163 #[.val (.int p0), .val (.int p1), .val (.int p2), .val (.int p3), .val (.long q4), .second, .val (.int (m0_0 p0 p1 p2 p3 q4)), .val (.int (m0_1 p0 p1 p2 p3 q4)), .val (.int (m0_2 p0 p1 p2 p3 q4)), .val (.int (m0_3 p0 p1 p2 p3 q4)), .val (.int (p3 &&& (3 : Int32))), .val (.long (m0_8 p0 p1 p2 p3 q4)), .second, .val (.int (m0_7 p0 p1 p2 p3 q4)), .val (.int (((q4 &&& (3 : Int64)).toInt32) - (1 : Int32)))] [(.ref b68), (.ref b68), (.ref b67), (.ref b67)])) _
          refine XS.iconst X70.here hx rfl (hb hby at_163) ?_
          show Steps p.tables e below (T70.setTop (mkF m 164 #[.val (.int p0), .val (.int p1), .val (.int p2), .val (.int p3), .val (.long q4), .second, .val (.int (m0_0 p0 p1 p2 p3 q4)), .val (.int (m0_1 p0 p1 p2 p3 q4)), .val (.int (m0_2 p0 p1 p2 p3 q4)), .val (.int (m0_3 p0 p1 p2 p3 q4)), .val (.int (p3 &&& (3 : Int32))), .val (.long (m0_8 p0 p1 p2 p3 q4)), .second, .val (.int (m0_7 p0 p1 p2 p3 q4)), .val (.int (((q4 &&& (3 : Int64)).toInt32) - (1 : Int32)))] [(.int (1 : Int32)), (.ref b68), (.ref b68), (.ref b67), (.ref b67)])) _
          refine XS.iload X70.here hx rfl (hb hby at_164) rfl ?_
          show Steps p.tables e below (T70.setTop (mkF m 166 #[.val (.int p0), .val (.int p1), .val (.int p2), .val (.int p3), .val (.long q4), .second, .val (.int (m0_0 p0 p1 p2 p3 q4)), .val (.int (m0_1 p0 p1 p2 p3 q4)), .val (.int (m0_2 p0 p1 p2 p3 q4)), .val (.int (m0_3 p0 p1 p2 p3 q4)), .val (.int (p3 &&& (3 : Int32))), .val (.long (m0_8 p0 p1 p2 p3 q4)), .second, .val (.int (m0_7 p0 p1 p2 p3 q4)), .val (.int (((q4 &&& (3 : Int64)).toInt32) - (1 : Int32)))] [(.int (m0_1 p0 p1 p2 p3 q4)), (.int (1 : Int32)), (.ref b68), (.ref b68), (.ref b67), (.ref b67)])) _
          refine st72 _ ?_
          show Steps p.tables e below (T72.setTop (mkF m 167 #[.val (.int p0), .val (.int p1), .val (.int p2), .val (.int p3), .val (.long q4), .second, .val (.int (m0_0 p0 p1 p2 p3 q4)), .val (.int (m0_1 p0 p1 p2 p3 q4)), .val (.int (m0_2 p0 p1 p2 p3 q4)), .val (.int (m0_3 p0 p1 p2 p3 q4)), .val (.int (p3 &&& (3 : Int32))), .val (.long (m0_8 p0 p1 p2 p3 q4)), .second, .val (.int (m0_7 p0 p1 p2 p3 q4)), .val (.int (((q4 &&& (3 : Int64)).toInt32) - (1 : Int32)))] [(.ref b68), (.ref b67), (.ref b67)])) _
          refine XS.iconst X72.here hx rfl (hb hby at_167) ?_
          show Steps p.tables e below (T72.setTop (mkF m 168 #[.val (.int p0), .val (.int p1), .val (.int p2), .val (.int p3), .val (.long q4), .second, .val (.int (m0_0 p0 p1 p2 p3 q4)), .val (.int (m0_1 p0 p1 p2 p3 q4)), .val (.int (m0_2 p0 p1 p2 p3 q4)), .val (.int (m0_3 p0 p1 p2 p3 q4)), .val (.int (p3 &&& (3 : Int32))), .val (.long (m0_8 p0 p1 p2 p3 q4)), .second, .val (.int (m0_7 p0 p1 p2 p3 q4)), .val (.int (((q4 &&& (3 : Int64)).toInt32) - (1 : Int32)))] [(.int (2 : Int32)), (.ref b68), (.ref b67), (.ref b67)])) _
          refine st73 _ ?_
          show Steps p.tables e below (T73.setTop (mkF m 170 #[.val (.int p0), .val (.int p1), .val (.int p2), .val (.int p3), .val (.long q4), .second, .val (.int (m0_0 p0 p1 p2 p3 q4)), .val (.int (m0_1 p0 p1 p2 p3 q4)), .val (.int (m0_2 p0 p1 p2 p3 q4)), .val (.int (m0_3 p0 p1 p2 p3 q4)), .val (.int (p3 &&& (3 : Int32))), .val (.long (m0_8 p0 p1 p2 p3 q4)), .second, .val (.int (m0_7 p0 p1 p2 p3 q4)), .val (.int (((q4 &&& (3 : Int64)).toInt32) - (1 : Int32)))] [(.ref b73), (.ref b68), (.ref b67), (.ref b67)])) _
          refine XS.dup X73.here hx rfl (hb hby at_170) rfl rfl ?_
          show Steps p.tables e below (T73.setTop (mkF m 171 #[.val (.int p0), .val (.int p1), .val (.int p2), .val (.int p3), .val (.long q4), .second, .val (.int (m0_0 p0 p1 p2 p3 q4)), .val (.int (m0_1 p0 p1 p2 p3 q4)), .val (.int (m0_2 p0 p1 p2 p3 q4)), .val (.int (m0_3 p0 p1 p2 p3 q4)), .val (.int (p3 &&& (3 : Int32))), .val (.long (m0_8 p0 p1 p2 p3 q4)), .second, .val (.int (m0_7 p0 p1 p2 p3 q4)), .val (.int (((q4 &&& (3 : Int64)).toInt32) - (1 : Int32)))] [(.ref b73), (.ref b73), (.ref b68), (.ref b67), (.ref b67)])) _
          refine XS.iconst X73.here hx rfl (hb hby at_171) ?_
          show Steps p.tables e below (T73.setTop (mkF m 172 #[.val (.int p0), .val (.int p1), .val (.int p2), .val (.int p3), .val (.long q4), .second, .val (.int (m0_0 p0 p1 p2 p3 q4)), .val (.int (m0_1 p0 p1 p2 p3 q4)), .val (.int (m0_2 p0 p1 p2 p3 q4)), .val (.int (m0_3 p0 p1 p2 p3 q4)), .val (.int (p3 &&& (3 : Int32))), .val (.long (m0_8 p0 p1 p2 p3 q4)), .second, .val (.int (m0_7 p0 p1 p2 p3 q4)), .val (.int (((q4 &&& (3 : Int64)).toInt32) - (1 : Int32)))] [(.int (0 : Int32)), (.ref b73), (.ref b73), (.ref b68), (.ref b67), (.ref b67)])) _
          refine XS.iconst X73.here hx rfl (hb hby at_172) ?_
          show Steps p.tables e below (T73.setTop (mkF m 173 #[.val (.int p0), .val (.int p1), .val (.int p2), .val (.int p3), .val (.long q4), .second, .val (.int (m0_0 p0 p1 p2 p3 q4)), .val (.int (m0_1 p0 p1 p2 p3 q4)), .val (.int (m0_2 p0 p1 p2 p3 q4)), .val (.int (m0_3 p0 p1 p2 p3 q4)), .val (.int (p3 &&& (3 : Int32))), .val (.long (m0_8 p0 p1 p2 p3 q4)), .second, .val (.int (m0_7 p0 p1 p2 p3 q4)), .val (.int (((q4 &&& (3 : Int64)).toInt32) - (1 : Int32)))] [(.int (1 : Int32)), (.int (0 : Int32)), (.ref b73), (.ref b73), (.ref b68), (.ref b67), (.ref b67)])) _
          refine st75 _ ?_
          show Steps p.tables e below (T75.setTop (mkF m 174 #[.val (.int p0), .val (.int p1), .val (.int p2), .val (.int p3), .val (.long q4), .second, .val (.int (m0_0 p0 p1 p2 p3 q4)), .val (.int (m0_1 p0 p1 p2 p3 q4)), .val (.int (m0_2 p0 p1 p2 p3 q4)), .val (.int (m0_3 p0 p1 p2 p3 q4)), .val (.int (p3 &&& (3 : Int32))), .val (.long (m0_8 p0 p1 p2 p3 q4)), .second, .val (.int (m0_7 p0 p1 p2 p3 q4)), .val (.int (((q4 &&& (3 : Int64)).toInt32) - (1 : Int32)))] [(.ref b73), (.ref b68), (.ref b67), (.ref b67)])) _
          refine XS.dup X75.here hx rfl (hb hby at_174) rfl rfl ?_
          show Steps p.tables e below (T75.setTop (mkF m 175 #[.val (.int p0), .val (.int p1), .val (.int p2), .val (.int p3), .val (.long q4), .second, .val (.int (m0_0 p0 p1 p2 p3 q4)), .val (.int (m0_1 p0 p1 p2 p3 q4)), .val (.int (m0_2 p0 p1 p2 p3 q4)), .val (.int (m0_3 p0 p1 p2 p3 q4)), .val (.int (p3 &&& (3 : Int32))), .val (.long (m0_8 p0 p1 p2 p3 q4)), .second, .val (.int (m0_7 p0 p1 p2 p3 q4)), .val (.int (((q4 &&& (3 : Int64)).toInt32) - (1 : Int32)))] [(.ref b73), (.ref b73), (.ref b68), (.ref b67), (.ref b67)])) _
          refine XS.iconst X75.here hx rfl (hb hby at_175) ?_
          show Steps p.tables e below (T75.setTop (mkF m 176 #[.val (.int p0), .val (.int p1), .val (.int p2), .val (.int p3), .val (.long q4), .second, .val (.int (m0_0 p0 p1 p2 p3 q4)), .val (.int (m0_1 p0 p1 p2 p3 q4)), .val (.int (m0_2 p0 p1 p2 p3 q4)), .val (.int (m0_3 p0 p1 p2 p3 q4)), .val (.int (p3 &&& (3 : Int32))), .val (.long (m0_8 p0 p1 p2 p3 q4)), .second, .val (.int (m0_7 p0 p1 p2 p3 q4)), .val (.int (((q4 &&& (3 : Int64)).toInt32) - (1 : Int32)))] [(.int (1 : Int32)), (.ref b73), (.ref b73), (.ref b68), (.ref b67), (.ref b67)])) _
          refine XS.iconst X75.here hx rfl (hb hby at_176) ?_
          show Steps p.tables e below (T75.setTop (mkF m 177 #[.val (.int p0), .val (.int p1), .val (.int p2), .val (.int p3), .val (.long q4), .second, .val (.int (m0_0 p0 p1 p2 p3 q4)), .val (.int (m0_1 p0 p1 p2 p3 q4)), .val (.int (m0_2 p0 p1 p2 p3 q4)), .val (.int (m0_3 p0 p1 p2 p3 q4)), .val (.int (p3 &&& (3 : Int32))), .val (.long (m0_8 p0 p1 p2 p3 q4)), .second, .val (.int (m0_7 p0 p1 p2 p3 q4)), .val (.int (((q4 &&& (3 : Int64)).toInt32) - (1 : Int32)))] [(.int (1 : Int32)), (.int (1 : Int32)), (.ref b73), (.ref b73), (.ref b68), (.ref b67), (.ref b67)])) _
          refine st77 _ ?_
          show Steps p.tables e below (T77.setTop (mkF m 178 #[.val (.int p0), .val (.int p1), .val (.int p2), .val (.int p3), .val (.long q4), .second, .val (.int (m0_0 p0 p1 p2 p3 q4)), .val (.int (m0_1 p0 p1 p2 p3 q4)), .val (.int (m0_2 p0 p1 p2 p3 q4)), .val (.int (m0_3 p0 p1 p2 p3 q4)), .val (.int (p3 &&& (3 : Int32))), .val (.long (m0_8 p0 p1 p2 p3 q4)), .second, .val (.int (m0_7 p0 p1 p2 p3 q4)), .val (.int (((q4 &&& (3 : Int64)).toInt32) - (1 : Int32)))] [(.ref b73), (.ref b68), (.ref b67), (.ref b67)])) _
          refine st78.trans ?_
          show Steps p.tables e below (T78.setTop (mkF m 181 #[.val (.int p0), .val (.int p1), .val (.int p2), .val (.int p3), .val (.long q4), .second, .val (.int (m0_0 p0 p1 p2 p3 q4)), .val (.int (m0_1 p0 p1 p2 p3 q4)), .val (.int (m0_2 p0 p1 p2 p3 q4)), .val (.int (m0_3 p0 p1 p2 p3 q4)), .val (.int (p3 &&& (3 : Int32))), .val (.long (m0_8 p0 p1 p2 p3 q4)), .second, .val (.int (m0_7 p0 p1 p2 p3 q4)), .val (.int (((q4 &&& (3 : Int64)).toInt32) - (1 : Int32)))] [(.ref b67)])) _
          refine XS.astore X78.here hx rfl (hb hby at_181) rfl rfl (l' := #[.val (.int p0), .val (.int p1), .val (.int p2), .val (.int p3), .val (.long q4), .second, .val (.int (m0_0 p0 p1 p2 p3 q4)), .val (.int (m0_1 p0 p1 p2 p3 q4)), .val (.int (m0_2 p0 p1 p2 p3 q4)), .val (.int (m0_3 p0 p1 p2 p3 q4)), .val (.int (p3 &&& (3 : Int32))), .val (.long (m0_8 p0 p1 p2 p3 q4)), .second, .val (.ref b67), .val (.int (((q4 &&& (3 : Int64)).toInt32) - (1 : Int32)))]) rfl ?_
          show Steps p.tables e below (T78.setTop (mkF m 183 #[.val (.int p0), .val (.int p1), .val (.int p2), .val (.int p3), .val (.long q4), .second, .val (.int (m0_0 p0 p1 p2 p3 q4)), .val (.int (m0_1 p0 p1 p2 p3 q4)), .val (.int (m0_2 p0 p1 p2 p3 q4)), .val (.int (m0_3 p0 p1 p2 p3 q4)), .val (.int (p3 &&& (3 : Int32))), .val (.long (m0_8 p0 p1 p2 p3 q4)), .second, .val (.ref b67), .val (.int (((q4 &&& (3 : Int64)).toInt32) - (1 : Int32)))] [])) _
          refine XS.goto X78.here hx rfl (pc0 := 183) (pc' := 228) rfl (hb hby at_183) (by decide) (by decide) ?_
          show Steps p.tables e below (T78.setTop (mkF m 228 #[.val (.int p0), .val (.int p1), .val (.int p2), .val (.int p3), .val (.long q4), .second, .val (.int (m0_0 p0 p1 p2 p3 q4)), .val (.int (m0_1 p0 p1 p2 p3 q4)), .val (.int (m0_2 p0 p1 p2 p3 q4)), .val (.int (m0_3 p0 p1 p2 p3 q4)), .val (.int (p3 &&& (3 : Int32))), .val (.long (m0_8 p0 p1 p2 p3 q4)), .second, .val (.ref b67), .val (.int (((q4 &&& (3 : Int64)).toInt32) - (1 : Int32)))] [])) _
          refine XS.lload X78.here hx rfl (hb hby at_228) rfl ?_
          show Steps p.tables e below (T78.setTop (mkF m 230 #[.val (.int p0), .val (.int p1), .val (.int p2), .val (.int p3), .val (.long q4), .second, .val (.int (m0_0 p0 p1 p2 p3 q4)), .val (.int (m0_1 p0 p1 p2 p3 q4)), .val (.int (m0_2 p0 p1 p2 p3 q4)), .val (.int (m0_3 p0 p1 p2 p3 q4)), .val (.int (p3 &&& (3 : Int32))), .val (.long (m0_8 p0 p1 p2 p3 q4)), .second, .val (.ref b67), .val (.int (((q4 &&& (3 : Int64)).toInt32) - (1 : Int32)))] [(.long (m0_8 p0 p1 p2 p3 q4))])) _
          refine XS.iload X78.here hx rfl (hb hby at_230) rfl ?_
          show Steps p.tables e below (T78.setTop (mkF m 232 #[.val (.int p0), .val (.int p1), .val (.int p2), .val (.int p3), .val (.long q4), .second, .val (.int (m0_0 p0 p1 p2 p3 q4)), .val (.int (m0_1 p0 p1 p2 p3 q4)), .val (.int (m0_2 p0 p1 p2 p3 q4)), .val (.int (m0_3 p0 p1 p2 p3 q4)), .val (.int (p3 &&& (3 : Int32))), .val (.long (m0_8 p0 p1 p2 p3 q4)), .second, .val (.ref b67), .val (.int (((q4 &&& (3 : Int64)).toInt32) - (1 : Int32)))] [(.int (m0_0 p0 p1 p2 p3 q4)), (.long (m0_8 p0 p1 p2 p3 q4))])) _
          refine XS.i2l X78.here hx rfl (hb hby at_232) rfl ?_
          show Steps p.tables e below (T78.setTop (mkF m 233 #[.val (.int p0), .val (.int p1), .val (.int p2), .val (.int p3), .val (.long q4), .second, .val (.int (m0_0 p0 p1 p2 p3 q4)), .val (.int (m0_1 p0 p1 p2 p3 q4)), .val (.int (m0_2 p0 p1 p2 p3 q4)), .val (.int (m0_3 p0 p1 p2 p3 q4)), .val (.int (p3 &&& (3 : Int32))), .val (.long (m0_8 p0 p1 p2 p3 q4)), .second, .val (.ref b67), .val (.int (((q4 &&& (3 : Int64)).toInt32) - (1 : Int32)))] [(.long ((m0_0 p0 p1 p2 p3 q4).toInt64)), (.long (m0_8 p0 p1 p2 p3 q4))])) _
          refine XS.lcmp X78.here hx rfl (hb hby at_233) rfl ?_
          exact kt
        refine own_back (b := T78.setTop (mkF m 288 #[.val (.int p0), .val (.int p1), .val (.int p2), .val (.int p3), .val (.long q4), .second, .val (.int (m0_0 p0 p1 p2 p3 q4)), .val (.int (m0_1 p0 p1 p2 p3 q4)), .val (.int (m0_2 p0 p1 p2 p3 q4)), .val (.int (m0_3 p0 p1 p2 p3 q4)), .val (.int (p3 &&& (3 : Int32))), .val (.long (m0_8 p0 p1 p2 p3 q4)), .second, .val (.ref b67), .val (.int (m0_10 p0 p1 p2 p3 q4))] [])) (fun t kt => ?_) ?_
        · by_cases hm234_79 : ((m0_0 p0 p1 p2 p3 q4).toInt64) < (m0_8 p0 p1 p2 p3 q4)
          · by_cases hm255_80 : ((m0_1 p0 p1 p2 p3 q4).toInt64) < (m0_8 p0 p1 p2 p3 q4)
            · rw [show (m0_10 p0 p1 p2 p3 q4) = (-1 : Int32) from by unfold m0_10; rw [if_pos hm234_79, if_pos hm255_80]] at kt
              show Steps p.tables e below (T78.setTop (mkF m 234 #[.val (.int p0), .val (.int p1), .val (.int p2), .val (.int p3), .val (.long q4), .second, .val (.int (m0_0 p0 p1 p2 p3 q4)), .val (.int (m0_1 p0 p1 p2 p3 q4)), .val (.int (m0_2 p0 p1 p2 p3 q4)), .val (.int (m0_3 p0 p1 p2 p3 q4)), .val (.int (p3 &&& (3 : Int32))), .val (.long (m0_8 p0 p1 p2 p3 q4)), .second, .val (.ref b67), .val (.int (((q4 &&& (3 : Int64)).toInt32) - (1 : Int32)))] [(.int (lcmpW (m0_8 p0 p1 p2 p3 q4) ((m0_0 p0 p1 p2 p3 q4).toInt64)))])) _
              refine XS.ifYes X78.here hx rfl (pc0 := 234) (pc' := 243) rfl (hb hby at_234) rfl ((if0 _ _).trans (tlt ((lw_gt _ _).mpr hm234_79)).2.2.1) (by decide) (by decide) ?_
              show Steps p.tables e below (T78.setTop (mkF m 243 #[.val (.int p0), .val (.int p1), .val (.int p2), .val (.int p3), .val (.long q4), .second, .val (.int (m0_0 p0 p1 p2 p3 q4)), .val (.int (m0_1 p0 p1 p2 p3 q4)), .val (.int (m0_2 p0 p1 p2 p3 q4)), .val (.int (m0_3 p0 p1 p2 p3 q4)), .val (.int (p3 &&& (3 : Int32))), .val (.long (m0_8 p0 p1 p2 p3 q4)), .second, .val (.ref b67), .val (.int (((q4 &&& (3 : Int64)).toInt32) - (1 : Int32)))] [])) _
              refine XS.iload X78.here hx rfl (hb hby at_243) rfl ?_
              show Steps p.tables e below (T78.setTop (mkF m 245 #[.val (.int p0), .val (.int p1), .val (.int p2), .val (.int p3), .val (.long q4), .second, .val (.int (m0_0 p0 p1 p2 p3 q4)), .val (.int (m0_1 p0 p1 p2 p3 q4)), .val (.int (m0_2 p0 p1 p2 p3 q4)), .val (.int (m0_3 p0 p1 p2 p3 q4)), .val (.int (p3 &&& (3 : Int32))), .val (.long (m0_8 p0 p1 p2 p3 q4)), .second, .val (.ref b67), .val (.int (((q4 &&& (3 : Int64)).toInt32) - (1 : Int32)))] [(.int (m0_3 p0 p1 p2 p3 q4))])) _
              refine XS.iconst X78.here hx rfl (hb hby at_245) ?_
              show Steps p.tables e below (T78.setTop (mkF m 246 #[.val (.int p0), .val (.int p1), .val (.int p2), .val (.int p3), .val (.long q4), .second, .val (.int (m0_0 p0 p1 p2 p3 q4)), .val (.int (m0_1 p0 p1 p2 p3 q4)), .val (.int (m0_2 p0 p1 p2 p3 q4)), .val (.int (m0_3 p0 p1 p2 p3 q4)), .val (.int (p3 &&& (3 : Int32))), .val (.long (m0_8 p0 p1 p2 p3 q4)), .second, .val (.ref b67), .val (.int (((q4 &&& (3 : Int64)).toInt32) - (1 : Int32)))] [(.int (2 : Int32)), (.int (m0_3 p0 p1 p2 p3 q4))])) _
              refine XS.icmpNo X78.here hx rfl (hb hby at_246) rfl (flt (by rw [hc147_66]; decide)).1 ?_
              show Steps p.tables e below (T78.setTop (mkF m 249 #[.val (.int p0), .val (.int p1), .val (.int p2), .val (.int p3), .val (.long q4), .second, .val (.int (m0_0 p0 p1 p2 p3 q4)), .val (.int (m0_1 p0 p1 p2 p3 q4)), .val (.int (m0_2 p0 p1 p2 p3 q4)), .val (.int (m0_3 p0 p1 p2 p3 q4)), .val (.int (p3 &&& (3 : Int32))), .val (.long (m0_8 p0 p1 p2 p3 q4)), .second, .val (.ref b67), .val (.int (((q4 &&& (3 : Int64)).toInt32) - (1 : Int32)))] [])) _
              refine XS.lload X78.here hx rfl (hb hby at_249) rfl ?_
              show Steps p.tables e below (T78.setTop (mkF m 251 #[.val (.int p0), .val (.int p1), .val (.int p2), .val (.int p3), .val (.long q4), .second, .val (.int (m0_0 p0 p1 p2 p3 q4)), .val (.int (m0_1 p0 p1 p2 p3 q4)), .val (.int (m0_2 p0 p1 p2 p3 q4)), .val (.int (m0_3 p0 p1 p2 p3 q4)), .val (.int (p3 &&& (3 : Int32))), .val (.long (m0_8 p0 p1 p2 p3 q4)), .second, .val (.ref b67), .val (.int (((q4 &&& (3 : Int64)).toInt32) - (1 : Int32)))] [(.long (m0_8 p0 p1 p2 p3 q4))])) _
              refine XS.iload X78.here hx rfl (hb hby at_251) rfl ?_
              show Steps p.tables e below (T78.setTop (mkF m 253 #[.val (.int p0), .val (.int p1), .val (.int p2), .val (.int p3), .val (.long q4), .second, .val (.int (m0_0 p0 p1 p2 p3 q4)), .val (.int (m0_1 p0 p1 p2 p3 q4)), .val (.int (m0_2 p0 p1 p2 p3 q4)), .val (.int (m0_3 p0 p1 p2 p3 q4)), .val (.int (p3 &&& (3 : Int32))), .val (.long (m0_8 p0 p1 p2 p3 q4)), .second, .val (.ref b67), .val (.int (((q4 &&& (3 : Int64)).toInt32) - (1 : Int32)))] [(.int (m0_1 p0 p1 p2 p3 q4)), (.long (m0_8 p0 p1 p2 p3 q4))])) _
              refine XS.i2l X78.here hx rfl (hb hby at_253) rfl ?_
              show Steps p.tables e below (T78.setTop (mkF m 254 #[.val (.int p0), .val (.int p1), .val (.int p2), .val (.int p3), .val (.long q4), .second, .val (.int (m0_0 p0 p1 p2 p3 q4)), .val (.int (m0_1 p0 p1 p2 p3 q4)), .val (.int (m0_2 p0 p1 p2 p3 q4)), .val (.int (m0_3 p0 p1 p2 p3 q4)), .val (.int (p3 &&& (3 : Int32))), .val (.long (m0_8 p0 p1 p2 p3 q4)), .second, .val (.ref b67), .val (.int (((q4 &&& (3 : Int64)).toInt32) - (1 : Int32)))] [(.long ((m0_1 p0 p1 p2 p3 q4).toInt64)), (.long (m0_8 p0 p1 p2 p3 q4))])) _
              refine XS.lcmp X78.here hx rfl (hb hby at_254) rfl ?_
              show Steps p.tables e below (T78.setTop (mkF m 255 #[.val (.int p0), .val (.int p1), .val (.int p2), .val (.int p3), .val (.long q4), .second, .val (.int (m0_0 p0 p1 p2 p3 q4)), .val (.int (m0_1 p0 p1 p2 p3 q4)), .val (.int (m0_2 p0 p1 p2 p3 q4)), .val (.int (m0_3 p0 p1 p2 p3 q4)), .val (.int (p3 &&& (3 : Int32))), .val (.long (m0_8 p0 p1 p2 p3 q4)), .second, .val (.ref b67), .val (.int (((q4 &&& (3 : Int64)).toInt32) - (1 : Int32)))] [(.int (lcmpW (m0_8 p0 p1 p2 p3 q4) ((m0_1 p0 p1 p2 p3 q4).toInt64)))])) _
              refine XS.ifYes X78.here hx rfl (pc0 := 255) (pc' := 264) rfl (hb hby at_255) rfl ((if0 _ _).trans (tlt ((lw_gt _ _).mpr hm255_80)).2.2.1) (by decide) (by decide) ?_
              show Steps p.tables e below (T78.setTop (mkF m 264 #[.val (.int p0), .val (.int p1), .val (.int p2), .val (.int p3), .val (.long q4), .second, .val (.int (m0_0 p0 p1 p2 p3 q4)), .val (.int (m0_1 p0 p1 p2 p3 q4)), .val (.int (m0_2 p0 p1 p2 p3 q4)), .val (.int (m0_3 p0 p1 p2 p3 q4)), .val (.int (p3 &&& (3 : Int32))), .val (.long (m0_8 p0 p1 p2 p3 q4)), .second, .val (.ref b67), .val (.int (((q4 &&& (3 : Int64)).toInt32) - (1 : Int32)))] [])) _
              refine XS.iload X78.here hx rfl (hb hby at_264) rfl ?_
              show Steps p.tables e below (T78.setTop (mkF m 266 #[.val (.int p0), .val (.int p1), .val (.int p2), .val (.int p3), .val (.long q4), .second, .val (.int (m0_0 p0 p1 p2 p3 q4)), .val (.int (m0_1 p0 p1 p2 p3 q4)), .val (.int (m0_2 p0 p1 p2 p3 q4)), .val (.int (m0_3 p0 p1 p2 p3 q4)), .val (.int (p3 &&& (3 : Int32))), .val (.long (m0_8 p0 p1 p2 p3 q4)), .second, .val (.ref b67), .val (.int (((q4 &&& (3 : Int64)).toInt32) - (1 : Int32)))] [(.int (m0_3 p0 p1 p2 p3 q4))])) _
              refine XS.iconst X78.here hx rfl (hb hby at_266) ?_
              show Steps p.tables e below (T78.setTop (mkF m 267 #[.val (.int p0), .val (.int p1), .val (.int p2), .val (.int p3), .val (.long q4), .second, .val (.int (m0_0 p0 p1 p2 p3 q4)), .val (.int (m0_1 p0 p1 p2 p3 q4)), .val (.int (m0_2 p0 p1 p2 p3 q4)), .val (.int (m0_3 p0 p1 p2 p3 q4)), .val (.int (p3 &&& (3 : Int32))), .val (.long (m0_8 p0 p1 p2 p3 q4)), .second, .val (.ref b67), .val (.int (((q4 &&& (3 : Int64)).toInt32) - (1 : Int32)))] [(.int (3 : Int32)), (.int (m0_3 p0 p1 p2 p3 q4))])) _
              refine XS.icmpYes X78.here hx rfl (pc0 := 267) (pc' := 285) rfl (hb hby at_267) rfl (tlt (by rw [hc147_66]; decide)).1 (by decide) (by decide) ?_
              show Steps p.tables e below (T78.setTop (mkF m 285 #[.val (.int p0), .val (.int p1), .val (.int p2), .val (.int p3), .val (.long q4), .second, .val (.int (m0_0 p0 p1 p2 p3 q4)), .val (.int (m0_1 p0 p1 p2 p3 q4)), .val (.int (m0_2 p0 p1 p2 p3 q4)), .val (.int (m0_3 p0 p1 p2 p3 q4)), .val (.int (p3 &&& (3 : Int32))), .val (.long (m0_8 p0 p1 p2 p3 q4)), .second, .val (.ref b67), .val (.int (((q4 &&& (3 : Int64)).toInt32) - (1 : Int32)))] [])) _
              refine XS.iconst X78.here hx rfl (hb hby at_285) ?_
              show Steps p.tables e below (T78.setTop (mkF m 286 #[.val (.int p0), .val (.int p1), .val (.int p2), .val (.int p3), .val (.long q4), .second, .val (.int (m0_0 p0 p1 p2 p3 q4)), .val (.int (m0_1 p0 p1 p2 p3 q4)), .val (.int (m0_2 p0 p1 p2 p3 q4)), .val (.int (m0_3 p0 p1 p2 p3 q4)), .val (.int (p3 &&& (3 : Int32))), .val (.long (m0_8 p0 p1 p2 p3 q4)), .second, .val (.ref b67), .val (.int (((q4 &&& (3 : Int64)).toInt32) - (1 : Int32)))] [(.int (-1 : Int32))])) _
              refine XS.istore X78.here hx rfl (hb hby at_286) rfl (l' := #[.val (.int p0), .val (.int p1), .val (.int p2), .val (.int p3), .val (.long q4), .second, .val (.int (m0_0 p0 p1 p2 p3 q4)), .val (.int (m0_1 p0 p1 p2 p3 q4)), .val (.int (m0_2 p0 p1 p2 p3 q4)), .val (.int (m0_3 p0 p1 p2 p3 q4)), .val (.int (p3 &&& (3 : Int32))), .val (.long (m0_8 p0 p1 p2 p3 q4)), .second, .val (.ref b67), .val (.int (-1 : Int32))]) rfl ?_
              exact kt
            · rw [show (m0_10 p0 p1 p2 p3 q4) = (1 : Int32) from by unfold m0_10; rw [if_pos hm234_79, if_neg hm255_80]] at kt
              show Steps p.tables e below (T78.setTop (mkF m 234 #[.val (.int p0), .val (.int p1), .val (.int p2), .val (.int p3), .val (.long q4), .second, .val (.int (m0_0 p0 p1 p2 p3 q4)), .val (.int (m0_1 p0 p1 p2 p3 q4)), .val (.int (m0_2 p0 p1 p2 p3 q4)), .val (.int (m0_3 p0 p1 p2 p3 q4)), .val (.int (p3 &&& (3 : Int32))), .val (.long (m0_8 p0 p1 p2 p3 q4)), .second, .val (.ref b67), .val (.int (((q4 &&& (3 : Int64)).toInt32) - (1 : Int32)))] [(.int (lcmpW (m0_8 p0 p1 p2 p3 q4) ((m0_0 p0 p1 p2 p3 q4).toInt64)))])) _
              refine XS.ifYes X78.here hx rfl (pc0 := 234) (pc' := 243) rfl (hb hby at_234) rfl ((if0 _ _).trans (tlt ((lw_gt _ _).mpr hm234_79)).2.2.1) (by decide) (by decide) ?_
              show Steps p.tables e below (T78.setTop (mkF m 243 #[.val (.int p0), .val (.int p1), .val (.int p2), .val (.int p3), .val (.long q4), .second, .val (.int (m0_0 p0 p1 p2 p3 q4)), .val (.int (m0_1 p0 p1 p2 p3 q4)), .val (.int (m0_2 p0 p1 p2 p3 q4)), .val (.int (m0_3 p0 p1 p2 p3 q4)), .val (.int (p3 &&& (3 : Int32))), .val (.long (m0_8 p0 p1 p2 p3 q4)), .second, .val (.ref b67), .val (.int (((q4 &&& (3 : Int64)).toInt32) - (1 : Int32)))] [])) _
              refine XS.iload X78.here hx rfl (hb hby at_243) rfl ?_
              show Steps p.tables e below (T78.setTop (mkF m 245 #[.val (.int p0), .val (.int p1), .val (.int p2), .val (.int p3), .val (.long q4), .second, .val (.int (m0_0 p0 p1 p2 p3 q4)), .val (.int (m0_1 p0 p1 p2 p3 q4)), .val (.int (m0_2 p0 p1 p2 p3 q4)), .val (.int (m0_3 p0 p1 p2 p3 q4)), .val (.int (p3 &&& (3 : Int32))), .val (.long (m0_8 p0 p1 p2 p3 q4)), .second, .val (.ref b67), .val (.int (((q4 &&& (3 : Int64)).toInt32) - (1 : Int32)))] [(.int (m0_3 p0 p1 p2 p3 q4))])) _
              refine XS.iconst X78.here hx rfl (hb hby at_245) ?_
              show Steps p.tables e below (T78.setTop (mkF m 246 #[.val (.int p0), .val (.int p1), .val (.int p2), .val (.int p3), .val (.long q4), .second, .val (.int (m0_0 p0 p1 p2 p3 q4)), .val (.int (m0_1 p0 p1 p2 p3 q4)), .val (.int (m0_2 p0 p1 p2 p3 q4)), .val (.int (m0_3 p0 p1 p2 p3 q4)), .val (.int (p3 &&& (3 : Int32))), .val (.long (m0_8 p0 p1 p2 p3 q4)), .second, .val (.ref b67), .val (.int (((q4 &&& (3 : Int64)).toInt32) - (1 : Int32)))] [(.int (2 : Int32)), (.int (m0_3 p0 p1 p2 p3 q4))])) _
              refine XS.icmpNo X78.here hx rfl (hb hby at_246) rfl (flt (by rw [hc147_66]; decide)).1 ?_
              show Steps p.tables e below (T78.setTop (mkF m 249 #[.val (.int p0), .val (.int p1), .val (.int p2), .val (.int p3), .val (.long q4), .second, .val (.int (m0_0 p0 p1 p2 p3 q4)), .val (.int (m0_1 p0 p1 p2 p3 q4)), .val (.int (m0_2 p0 p1 p2 p3 q4)), .val (.int (m0_3 p0 p1 p2 p3 q4)), .val (.int (p3 &&& (3 : Int32))), .val (.long (m0_8 p0 p1 p2 p3 q4)), .second, .val (.ref b67), .val (.int (((q4 &&& (3 : Int64)).toInt32) - (1 : Int32)))] [])) _
              refine XS.lload X78.here hx rfl (hb hby at_249) rfl ?_
              show Steps p.tables e below (T78.setTop (mkF m 251 #[.val (.int p0), .val (.int p1), .val (.int p2), .val (.int p3), .val (.long q4), .second, .val (.int (m0_0 p0 p1 p2 p3 q4)), .val (.int (m0_1 p0 p1 p2 p3 q4)), .val (.int (m0_2 p0 p1 p2 p3 q4)), .val (.int (m0_3 p0 p1 p2 p3 q4)), .val (.int (p3 &&& (3 : Int32))), .val (.long (m0_8 p0 p1 p2 p3 q4)), .second, .val (.ref b67), .val (.int (((q4 &&& (3 : Int64)).toInt32) - (1 : Int32)))] [(.long (m0_8 p0 p1 p2 p3 q4))])) _
              refine XS.iload X78.here hx rfl (hb hby at_251) rfl ?_
              show Steps p.tables e below (T78.setTop (mkF m 253 #[.val (.int p0), .val (.int p1), .val (.int p2), .val (.int p3), .val (.long q4), .second, .val (.int (m0_0 p0 p1 p2 p3 q4)), .val (.int (m0_1 p0 p1 p2 p3 q4)), .val (.int (m0_2 p0 p1 p2 p3 q4)), .val (.int (m0_3 p0 p1 p2 p3 q4)), .val (.int (p3 &&& (3 : Int32))), .val (.long (m0_8 p0 p1 p2 p3 q4)), .second, .val (.ref b67), .val (.int (((q4 &&& (3 : Int64)).toInt32) - (1 : Int32)))] [(.int (m0_1 p0 p1 p2 p3 q4)), (.long (m0_8 p0 p1 p2 p3 q4))])) _
              refine XS.i2l X78.here hx rfl (hb hby at_253) rfl ?_
              show Steps p.tables e below (T78.setTop (mkF m 254 #[.val (.int p0), .val (.int p1), .val (.int p2), .val (.int p3), .val (.long q4), .second, .val (.int (m0_0 p0 p1 p2 p3 q4)), .val (.int (m0_1 p0 p1 p2 p3 q4)), .val (.int (m0_2 p0 p1 p2 p3 q4)), .val (.int (m0_3 p0 p1 p2 p3 q4)), .val (.int (p3 &&& (3 : Int32))), .val (.long (m0_8 p0 p1 p2 p3 q4)), .second, .val (.ref b67), .val (.int (((q4 &&& (3 : Int64)).toInt32) - (1 : Int32)))] [(.long ((m0_1 p0 p1 p2 p3 q4).toInt64)), (.long (m0_8 p0 p1 p2 p3 q4))])) _
              refine XS.lcmp X78.here hx rfl (hb hby at_254) rfl ?_
              show Steps p.tables e below (T78.setTop (mkF m 255 #[.val (.int p0), .val (.int p1), .val (.int p2), .val (.int p3), .val (.long q4), .second, .val (.int (m0_0 p0 p1 p2 p3 q4)), .val (.int (m0_1 p0 p1 p2 p3 q4)), .val (.int (m0_2 p0 p1 p2 p3 q4)), .val (.int (m0_3 p0 p1 p2 p3 q4)), .val (.int (p3 &&& (3 : Int32))), .val (.long (m0_8 p0 p1 p2 p3 q4)), .second, .val (.ref b67), .val (.int (((q4 &&& (3 : Int64)).toInt32) - (1 : Int32)))] [(.int (lcmpW (m0_8 p0 p1 p2 p3 q4) ((m0_1 p0 p1 p2 p3 q4).toInt64)))])) _
              refine XS.ifNo X78.here hx rfl (hb hby at_255) rfl ((if0 _ _).trans (flt (fun q => hm255_80 ((lw_gt _ _).mp q))).2.2.1) ?_
              show Steps p.tables e below (T78.setTop (mkF m 258 #[.val (.int p0), .val (.int p1), .val (.int p2), .val (.int p3), .val (.long q4), .second, .val (.int (m0_0 p0 p1 p2 p3 q4)), .val (.int (m0_1 p0 p1 p2 p3 q4)), .val (.int (m0_2 p0 p1 p2 p3 q4)), .val (.int (m0_3 p0 p1 p2 p3 q4)), .val (.int (p3 &&& (3 : Int32))), .val (.long (m0_8 p0 p1 p2 p3 q4)), .second, .val (.ref b67), .val (.int (((q4 &&& (3 : Int64)).toInt32) - (1 : Int32)))] [])) _
              refine XS.iconst X78.here hx rfl (hb hby at_258) ?_
              show Steps p.tables e below (T78.setTop (mkF m 259 #[.val (.int p0), .val (.int p1), .val (.int p2), .val (.int p3), .val (.long q4), .second, .val (.int (m0_0 p0 p1 p2 p3 q4)), .val (.int (m0_1 p0 p1 p2 p3 q4)), .val (.int (m0_2 p0 p1 p2 p3 q4)), .val (.int (m0_3 p0 p1 p2 p3 q4)), .val (.int (p3 &&& (3 : Int32))), .val (.long (m0_8 p0 p1 p2 p3 q4)), .second, .val (.ref b67), .val (.int (((q4 &&& (3 : Int64)).toInt32) - (1 : Int32)))] [(.int (1 : Int32))])) _
              refine XS.istore X78.here hx rfl (hb hby at_259) rfl (l' := #[.val (.int p0), .val (.int p1), .val (.int p2), .val (.int p3), .val (.long q4), .second, .val (.int (m0_0 p0 p1 p2 p3 q4)), .val (.int (m0_1 p0 p1 p2 p3 q4)), .val (.int (m0_2 p0 p1 p2 p3 q4)), .val (.int (m0_3 p0 p1 p2 p3 q4)), .val (.int (p3 &&& (3 : Int32))), .val (.long (m0_8 p0 p1 p2 p3 q4)), .second, .val (.ref b67), .val (.int (1 : Int32))]) rfl ?_
              show Steps p.tables e below (T78.setTop (mkF m 261 #[.val (.int p0), .val (.int p1), .val (.int p2), .val (.int p3), .val (.long q4), .second, .val (.int (m0_0 p0 p1 p2 p3 q4)), .val (.int (m0_1 p0 p1 p2 p3 q4)), .val (.int (m0_2 p0 p1 p2 p3 q4)), .val (.int (m0_3 p0 p1 p2 p3 q4)), .val (.int (p3 &&& (3 : Int32))), .val (.long (m0_8 p0 p1 p2 p3 q4)), .second, .val (.ref b67), .val (.int (1 : Int32))] [])) _
              refine XS.goto X78.here hx rfl (pc0 := 261) (pc' := 288) rfl (hb hby at_261) (by decide) (by decide) ?_
              exact kt
          · rw [show (m0_10 p0 p1 p2 p3 q4) = (0 : Int32) from by unfold m0_10; rw [if_neg hm234_79]] at kt
            show Steps p.tables e below (T78.setTop (mkF m 234 #[.val (.int p0), .val (.int p1), .val (.int p2), .val (.int p3), .val (.long q4), .second, .val (.int (m0_0 p0 p1 p2 p3 q4)), .val (.int (m0_1 p0 p1 p2 p3 q4)), .val (.int (m0_2 p0 p1 p2 p3 q4)), .val (.int (m0_3 p0 p1 p2 p3 q4)), .val (.int (p3 &&& (3 : Int32))), .val (.long (m0_8 p0 p1 p2 p3 q4)), .second, .val (.ref b67), .val (.int (((q4 &&& (3 : Int64)).toInt32) - (1 : Int32)))] [(.int (lcmpW (m0_8 p0 p1 p2 p3 q4) ((m0_0 p0 p1 p2 p3 q4).toInt64)))])) _
            refine XS.ifNo X78.here hx rfl (hb hby at_234) rfl ((if0 _ _).trans (flt (fun q => hm234_79 ((lw_gt _ _).mp q))).2.2.1) ?_
            show Steps p.tables e below (T78.setTop (mkF m 237 #[.val (.int p0), .val (.int p1), .val (.int p2), .val (.int p3), .val (.long q4), .second, .val (.int (m0_0 p0 p1 p2 p3 q4)), .val (.int (m0_1 p0 p1 p2 p3 q4)), .val (.int (m0_2 p0 p1 p2 p3 q4)), .val (.int (m0_3 p0 p1 p2 p3 q4)), .val (.int (p3 &&& (3 : Int32))), .val (.long (m0_8 p0 p1 p2 p3 q4)), .second, .val (.ref b67), .val (.int (((q4 &&& (3 : Int64)).toInt32) - (1 : Int32)))] [])) _
            refine XS.iconst X78.here hx rfl (hb hby at_237) ?_
            show Steps p.tables e below (T78.setTop (mkF m 238 #[.val (.int p0), .val (.int p1), .val (.int p2), .val (.int p3), .val (.long q4), .second, .val (.int (m0_0 p0 p1 p2 p3 q4)), .val (.int (m0_1 p0 p1 p2 p3 q4)), .val (.int (m0_2 p0 p1 p2 p3 q4)), .val (.int (m0_3 p0 p1 p2 p3 q4)), .val (.int (p3 &&& (3 : Int32))), .val (.long (m0_8 p0 p1 p2 p3 q4)), .second, .val (.ref b67), .val (.int (((q4 &&& (3 : Int64)).toInt32) - (1 : Int32)))] [(.int (0 : Int32))])) _
            refine XS.istore X78.here hx rfl (hb hby at_238) rfl (l' := #[.val (.int p0), .val (.int p1), .val (.int p2), .val (.int p3), .val (.long q4), .second, .val (.int (m0_0 p0 p1 p2 p3 q4)), .val (.int (m0_1 p0 p1 p2 p3 q4)), .val (.int (m0_2 p0 p1 p2 p3 q4)), .val (.int (m0_3 p0 p1 p2 p3 q4)), .val (.int (p3 &&& (3 : Int32))), .val (.long (m0_8 p0 p1 p2 p3 q4)), .second, .val (.ref b67), .val (.int (0 : Int32))]) rfl ?_
            show Steps p.tables e below (T78.setTop (mkF m 240 #[.val (.int p0), .val (.int p1), .val (.int p2), .val (.int p3), .val (.long q4), .second, .val (.int (m0_0 p0 p1 p2 p3 q4)), .val (.int (m0_1 p0 p1 p2 p3 q4)), .val (.int (m0_2 p0 p1 p2 p3 q4)), .val (.int (m0_3 p0 p1 p2 p3 q4)), .val (.int (p3 &&& (3 : Int32))), .val (.long (m0_8 p0 p1 p2 p3 q4)), .second, .val (.ref b67), .val (.int (0 : Int32))] [])) _
            refine XS.goto X78.here hx rfl (pc0 := 240) (pc' := 288) rfl (hb hby at_240) (by decide) (by decide) ?_
            exact kt
        obtain ⟨cq81, kq81, q81a, q81b, q81c⟩ := isOf hZ rfl P78_0
        obtain ⟨_, _, ⟨T81, L81, k81, n81⟩, -, X81, ⟨Lc81, hQ81, l81, y81, z81⟩, st81⟩ := X78.virtualBack hx (y := (⟨"com/example/byteloom/byteloom/SectionLayout", "sectionFor", "(J)I"⟩ : MethodName)) (z := (⟨"com/example/byteloom/byteloom/SectionLayout", "sectionFor", "(J)I"⟩ : MethodName)) hown (mvT hZ (hw _ (List.mem_of_getElem? (i := 42) rfl))) (mvT hZ (hw _ (List.mem_of_getElem? (i := 43) rfl))) (notFace_of_selects (args := #[]) (mvT hZ (hw _ (List.mem_of_getElem? (i := 45) rfl)))) (mvT hZ (hw _ (List.mem_of_getElem? (i := 45) rfl))) (mvT hZ (hw _ (List.mem_of_getElem? (i := 44) rfl))) (by decide) (backOf (W := 0) (rm4b l Z aw hw [] b67 (m0_8 p0 p1 p2 p3 q4) bb78 k68 (m0_0 p0 p1 p2 p3 q4) (m0_1 p0 p1 p2 p3 q4) T78.heap n0 Z78 P78_1 P78_2 (own_len p0 p1 p2 p3 q4)) hZ (hw _ (List.mem_of_getElem? (i := 46) rfl)) (hw _ (List.mem_of_getElem? (i := 6) rfl)) (by decide) (by decide)) q81a q81c (g := (mkF m 292 #[.val (.int p0), .val (.int p1), .val (.int p2), .val (.int p3), .val (.long q4), .second, .val (.int (m0_0 p0 p1 p2 p3 q4)), .val (.int (m0_1 p0 p1 p2 p3 q4)), .val (.int (m0_2 p0 p1 p2 p3 q4)), .val (.int (m0_3 p0 p1 p2 p3 q4)), .val (.int (p3 &&& (3 : Int32))), .val (.long (m0_8 p0 p1 p2 p3 q4)), .second, .val (.ref b67), .val (.int (m0_10 p0 p1 p2 p3 q4))] [(.long (m0_8 p0 p1 p2 p3 q4)), (.ref b67)])) rfl (by rw [hml]; rfl) (Steps.refl _) (argsL := [(.long (m0_8 p0 p1 p2 p3 q4))]) (rest := []) (lenOf pd_0_1 rfl) rfl (by show 2 * 0 + _ ≤ _; exact Nat.le_of_eq rfl) (hb hby at_292) (fun _ _ => ⟨rfl, rfl, (by decide : 9 + 0 ≤ _), (by decide : 103 + 0 ≤ _)⟩)
        dsimp only [Pt.U, Pt.locs, Pt.cells, Pt.slots] at X81 l81 y81 z81 st81 hQ81
        rw [l81, y81, z81] at X81
        obtain ⟨rfl, Nq81, e81⟩ := hQ81
        have N81 := Fr.app N78 Nq81
        refine own_back (b := T81.setTop (mkF m 297 #[.val (.int p0), .val (.int p1), .val (.int p2), .val (.int p3), .val (.long q4), .second, .val (.int (m0_0 p0 p1 p2 p3 q4)), .val (.int (m0_1 p0 p1 p2 p3 q4)), .val (.int (m0_2 p0 p1 p2 p3 q4)), .val (.int (m0_3 p0 p1 p2 p3 q4)), .val (.int (p3 &&& (3 : Int32))), .val (.long (m0_8 p0 p1 p2 p3 q4)), .second, .val (.ref b67), .val (.int (m0_10 p0 p1 p2 p3 q4))] [(.int (m0_10 p0 p1 p2 p3 q4)), (.int (f4b (m0_8 p0 p1 p2 p3 q4) (m0_0 p0 p1 p2 p3 q4) (m0_1 p0 p1 p2 p3 q4)))])) (fun t kt => ?_) ?_
        · show Steps p.tables e below (T78.setTop (mkF m 288 #[.val (.int p0), .val (.int p1), .val (.int p2), .val (.int p3), .val (.long q4), .second, .val (.int (m0_0 p0 p1 p2 p3 q4)), .val (.int (m0_1 p0 p1 p2 p3 q4)), .val (.int (m0_2 p0 p1 p2 p3 q4)), .val (.int (m0_3 p0 p1 p2 p3 q4)), .val (.int (p3 &&& (3 : Int32))), .val (.long (m0_8 p0 p1 p2 p3 q4)), .second, .val (.ref b67), .val (.int (m0_10 p0 p1 p2 p3 q4))] [])) _
          refine XS.aload X78.here hx rfl (hb hby at_288) rfl rfl ?_
          show Steps p.tables e below (T78.setTop (mkF m 290 #[.val (.int p0), .val (.int p1), .val (.int p2), .val (.int p3), .val (.long q4), .second, .val (.int (m0_0 p0 p1 p2 p3 q4)), .val (.int (m0_1 p0 p1 p2 p3 q4)), .val (.int (m0_2 p0 p1 p2 p3 q4)), .val (.int (m0_3 p0 p1 p2 p3 q4)), .val (.int (p3 &&& (3 : Int32))), .val (.long (m0_8 p0 p1 p2 p3 q4)), .second, .val (.ref b67), .val (.int (m0_10 p0 p1 p2 p3 q4))] [(.ref b67)])) _
          refine XS.lload X78.here hx rfl (hb hby at_290) rfl ?_
          show Steps p.tables e below (T78.setTop (mkF m 292 #[.val (.int p0), .val (.int p1), .val (.int p2), .val (.int p3), .val (.long q4), .second, .val (.int (m0_0 p0 p1 p2 p3 q4)), .val (.int (m0_1 p0 p1 p2 p3 q4)), .val (.int (m0_2 p0 p1 p2 p3 q4)), .val (.int (m0_3 p0 p1 p2 p3 q4)), .val (.int (p3 &&& (3 : Int32))), .val (.long (m0_8 p0 p1 p2 p3 q4)), .second, .val (.ref b67), .val (.int (m0_10 p0 p1 p2 p3 q4))] [(.long (m0_8 p0 p1 p2 p3 q4)), (.ref b67)])) _
          refine st81.trans ?_
          show Steps p.tables e below (T81.setTop (mkF m 295 #[.val (.int p0), .val (.int p1), .val (.int p2), .val (.int p3), .val (.long q4), .second, .val (.int (m0_0 p0 p1 p2 p3 q4)), .val (.int (m0_1 p0 p1 p2 p3 q4)), .val (.int (m0_2 p0 p1 p2 p3 q4)), .val (.int (m0_3 p0 p1 p2 p3 q4)), .val (.int (p3 &&& (3 : Int32))), .val (.long (m0_8 p0 p1 p2 p3 q4)), .second, .val (.ref b67), .val (.int (m0_10 p0 p1 p2 p3 q4))] [(.int (f4b (m0_8 p0 p1 p2 p3 q4) (m0_0 p0 p1 p2 p3 q4) (m0_1 p0 p1 p2 p3 q4)))])) _
          refine XS.iload X81.here hx rfl (hb hby at_295) rfl ?_
          exact kt
        by_cases hc297_82 : (f4b (m0_8 p0 p1 p2 p3 q4) (m0_0 p0 p1 p2 p3 q4) (m0_1 p0 p1 p2 p3 q4)) = (m0_10 p0 p1 p2 p3 q4)
        · refine own_back (b := T81.setTop (mkF m 305 #[.val (.int p0), .val (.int p1), .val (.int p2), .val (.int p3), .val (.long q4), .second, .val (.int (m0_0 p0 p1 p2 p3 q4)), .val (.int (m0_1 p0 p1 p2 p3 q4)), .val (.int (m0_2 p0 p1 p2 p3 q4)), .val (.int (m0_3 p0 p1 p2 p3 q4)), .val (.int (p3 &&& (3 : Int32))), .val (.long (m0_8 p0 p1 p2 p3 q4)), .second, .val (.ref b67), .val (.int (m0_10 p0 p1 p2 p3 q4))] [(.int (1 : Int32))])) (fun t kt => ?_) ?_
          · show Steps p.tables e below (T81.setTop (mkF m 297 #[.val (.int p0), .val (.int p1), .val (.int p2), .val (.int p3), .val (.long q4), .second, .val (.int (m0_0 p0 p1 p2 p3 q4)), .val (.int (m0_1 p0 p1 p2 p3 q4)), .val (.int (m0_2 p0 p1 p2 p3 q4)), .val (.int (m0_3 p0 p1 p2 p3 q4)), .val (.int (p3 &&& (3 : Int32))), .val (.long (m0_8 p0 p1 p2 p3 q4)), .second, .val (.ref b67), .val (.int (m0_10 p0 p1 p2 p3 q4))] [(.int (m0_10 p0 p1 p2 p3 q4)), (.int (f4b (m0_8 p0 p1 p2 p3 q4) (m0_0 p0 p1 p2 p3 q4) (m0_1 p0 p1 p2 p3 q4)))])) _
            refine XS.icmpNo X81.here hx rfl (hb hby at_297) rfl (teq hc297_82).2 ?_
            show Steps p.tables e below (T81.setTop (mkF m 300 #[.val (.int p0), .val (.int p1), .val (.int p2), .val (.int p3), .val (.long q4), .second, .val (.int (m0_0 p0 p1 p2 p3 q4)), .val (.int (m0_1 p0 p1 p2 p3 q4)), .val (.int (m0_2 p0 p1 p2 p3 q4)), .val (.int (m0_3 p0 p1 p2 p3 q4)), .val (.int (p3 &&& (3 : Int32))), .val (.long (m0_8 p0 p1 p2 p3 q4)), .second, .val (.ref b67), .val (.int (m0_10 p0 p1 p2 p3 q4))] [])) _
            refine XS.iconst X81.here hx rfl (hb hby at_300) ?_
            show Steps p.tables e below (T81.setTop (mkF m 301 #[.val (.int p0), .val (.int p1), .val (.int p2), .val (.int p3), .val (.long q4), .second, .val (.int (m0_0 p0 p1 p2 p3 q4)), .val (.int (m0_1 p0 p1 p2 p3 q4)), .val (.int (m0_2 p0 p1 p2 p3 q4)), .val (.int (m0_3 p0 p1 p2 p3 q4)), .val (.int (p3 &&& (3 : Int32))), .val (.long (m0_8 p0 p1 p2 p3 q4)), .second, .val (.ref b67), .val (.int (m0_10 p0 p1 p2 p3 q4))] [(.int (1 : Int32))])) _
            refine XS.goto X81.here hx rfl (pc0 := 301) (pc' := 305) rfl (hb hby at_301) (by decide) (by decide) ?_
            exact kt
          obtain ⟨fs, hr, hrun, hended, hEnd⟩ := Stand.leaveW (s := s) X81 hS78 (by rw [e81]; exact (Nat.le_refl _)) (v := some (.int (1 : Int32))) (fun h => by rw [Bd.returns] at h; cases h) (BodyLoose.notSynchronized Bd)
          refine ⟨_, _, ?_, hrun, hended, _, _, rfl, ?_, own_endW hEnd (by decide) (by decide)⟩
          · show Steps p.tables e below (T81.setTop (mkF m 305 #[.val (.int p0), .val (.int p1), .val (.int p2), .val (.int p3), .val (.long q4), .second, .val (.int (m0_0 p0 p1 p2 p3 q4)), .val (.int (m0_1 p0 p1 p2 p3 q4)), .val (.int (m0_2 p0 p1 p2 p3 q4)), .val (.int (m0_3 p0 p1 p2 p3 q4)), .val (.int (p3 &&& (3 : Int32))), .val (.long (m0_8 p0 p1 p2 p3 q4)), .second, .val (.ref b67), .val (.int (m0_10 p0 p1 p2 p3 q4))] [(.int (1 : Int32))])) _
            exact retN X81 hx (t := .boolean) Bd.returns (by simp) (hb hby at_305) hr
          · show Q0 Z p0 p1 p2 p3 q4 h0 n0 _ T81.heap _
            rw [e81]
            exact ⟨by rw [show f0 p0 p1 p2 p3 q4 = (1 : Int32) from by unfold f0; rw [if_neg hc51_1, if_neg hc114_54, if_pos hc147_66, if_pos hc297_82]], N81⟩
        · refine own_back (b := T81.setTop (mkF m 305 #[.val (.int p0), .val (.int p1), .val (.int p2), .val (.int p3), .val (.long q4), .second, .val (.int (m0_0 p0 p1 p2 p3 q4)), .val (.int (m0_1 p0 p1 p2 p3 q4)), .val (.int (m0_2 p0 p1 p2 p3 q4)), .val (.int (m0_3 p0 p1 p2 p3 q4)), .val (.int (p3 &&& (3 : Int32))), .val (.long (m0_8 p0 p1 p2 p3 q4)), .second, .val (.ref b67), .val (.int (m0_10 p0 p1 p2 p3 q4))] [(.int (0 : Int32))])) (fun t kt => ?_) ?_
          · show Steps p.tables e below (T81.setTop (mkF m 297 #[.val (.int p0), .val (.int p1), .val (.int p2), .val (.int p3), .val (.long q4), .second, .val (.int (m0_0 p0 p1 p2 p3 q4)), .val (.int (m0_1 p0 p1 p2 p3 q4)), .val (.int (m0_2 p0 p1 p2 p3 q4)), .val (.int (m0_3 p0 p1 p2 p3 q4)), .val (.int (p3 &&& (3 : Int32))), .val (.long (m0_8 p0 p1 p2 p3 q4)), .second, .val (.ref b67), .val (.int (m0_10 p0 p1 p2 p3 q4))] [(.int (m0_10 p0 p1 p2 p3 q4)), (.int (f4b (m0_8 p0 p1 p2 p3 q4) (m0_0 p0 p1 p2 p3 q4) (m0_1 p0 p1 p2 p3 q4)))])) _
            refine XS.icmpYes X81.here hx rfl (pc0 := 297) (pc' := 304) rfl (hb hby at_297) rfl (feq hc297_82).2 (by decide) (by decide) ?_
            show Steps p.tables e below (T81.setTop (mkF m 304 #[.val (.int p0), .val (.int p1), .val (.int p2), .val (.int p3), .val (.long q4), .second, .val (.int (m0_0 p0 p1 p2 p3 q4)), .val (.int (m0_1 p0 p1 p2 p3 q4)), .val (.int (m0_2 p0 p1 p2 p3 q4)), .val (.int (m0_3 p0 p1 p2 p3 q4)), .val (.int (p3 &&& (3 : Int32))), .val (.long (m0_8 p0 p1 p2 p3 q4)), .second, .val (.ref b67), .val (.int (m0_10 p0 p1 p2 p3 q4))] [])) _
            refine XS.iconst X81.here hx rfl (hb hby at_304) ?_
            exact kt
          obtain ⟨fs, hr, hrun, hended, hEnd⟩ := Stand.leaveW (s := s) X81 hS78 (by rw [e81]; exact (Nat.le_refl _)) (v := some (.int (0 : Int32))) (fun h => by rw [Bd.returns] at h; cases h) (BodyLoose.notSynchronized Bd)
          refine ⟨_, _, ?_, hrun, hended, _, _, rfl, ?_, own_endW hEnd (by decide) (by decide)⟩
          · show Steps p.tables e below (T81.setTop (mkF m 305 #[.val (.int p0), .val (.int p1), .val (.int p2), .val (.int p3), .val (.long q4), .second, .val (.int (m0_0 p0 p1 p2 p3 q4)), .val (.int (m0_1 p0 p1 p2 p3 q4)), .val (.int (m0_2 p0 p1 p2 p3 q4)), .val (.int (m0_3 p0 p1 p2 p3 q4)), .val (.int (p3 &&& (3 : Int32))), .val (.long (m0_8 p0 p1 p2 p3 q4)), .second, .val (.ref b67), .val (.int (m0_10 p0 p1 p2 p3 q4))] [(.int (0 : Int32))])) _
            exact retN X81 hx (t := .boolean) Bd.returns (by simp) (hb hby at_305) hr
          · show Q0 Z p0 p1 p2 p3 q4 h0 n0 _ T81.heap _
            rw [e81]
            exact ⟨by rw [show f0 p0 p1 p2 p3 q4 = (0 : Int32) from by unfold f0; rw [if_neg hc51_1, if_neg hc114_54, if_pos hc147_66, if_neg hc297_82]], N81⟩
      · obtain ⟨T83, h83, X83, e83, E83, A83, D83, -, st83⟩ := newO X0 hx hZ hown (hw _ (List.mem_of_getElem? (i := 4) rfl)) (hw _ (List.mem_of_getElem? (i := 5) rfl)) (hw _ (List.mem_of_getElem? (i := 6) rfl)) e0 (g := (mkF m 186 #[.val (.int p0), .val (.int p1), .val (.int p2), .val (.int p3), .val (.long q4), .second, .val (.int (m0_0 p0 p1 p2 p3 q4)), .val (.int (m0_1 p0 p1 p2 p3 q4)), .val (.int (m0_2 p0 p1 p2 p3 q4)), .val (.int (m0_3 p0 p1 p2 p3 q4)), .val (.int (p3 &&& (3 : Int32))), .val (.long (m0_8 p0 p1 p2 p3 q4)), .second, .val (.int (m0_7 p0 p1 p2 p3 q4)), .val (.int (((q4 &&& (3 : Int64)).toInt32) - (1 : Int32)))] [])) rfl (hb hby at_186) (by decide) (by decide)
        obtain ⟨b83, g83⟩ : ∃ z, z = h0.size := ⟨_, rfl⟩
        rw [← g83] at A83 D83 st83
        have lo83 : n0 ≤ b83 := Nat.le_trans Z0 (Nat.le_of_eq g83.symm)
        have sz83 : h0.size ≤ b83 := Nat.le_trans (Nat.le_refl _) (Nat.le_of_eq g83.symm)
        have K83 : Keep h0 h83 [] := (Keep.refl h0 _).ext E83
        have Z83 : n0 ≤ h83.size := Nat.le_trans Z0 E83.1
        have F83_blockSizes : Fld Z h83 b83 "com/example/byteloom/byteloom/SectionLayout" "blockSizes" "[I" .null := D83 (Or.inr (hw _ (List.mem_of_getElem? (i := 37) rfl))) (ty := (.array .int)) (by decide)
        have F83_blockCounts : Fld Z h83 b83 "com/example/byteloom/byteloom/SectionLayout" "blockCounts" "[I" .null := D83 (Or.inr (hw _ (List.mem_of_getElem? (i := 39) rfl))) (ty := (.array .int)) (by decide)
        have F83_reservedBytes : Fld Z h83 b83 "com/example/byteloom/byteloom/SectionLayout" "reservedBytes" "J" (.long (0 : Int64)) := D83 (Or.inr (hw _ (List.mem_of_getElem? (i := 41) rfl))) (ty := .long) (by decide)
        obtain ⟨T84, h84, k84, X84, e84, E84, A84, B84, st84⟩ := newPE X83 hx hZ (hw _ (List.mem_of_getElem? (i := 7) rfl)) e83 (g := (mkF m 191 #[.val (.int p0), .val (.int p1), .val (.int p2), .val (.int p3), .val (.long q4), .second, .val (.int (m0_0 p0 p1 p2 p3 q4)), .val (.int (m0_1 p0 p1 p2 p3 q4)), .val (.int (m0_2 p0 p1 p2 p3 q4)), .val (.int (m0_3 p0 p1 p2 p3 q4)), .val (.int (p3 &&& (3 : Int32))), .val (.long (m0_8 p0 p1 p2 p3 q4)), .second, .val (.int (m0_7 p0 p1 p2 p3 q4)), .val (.int (((q4 &&& (3 : Int64)).toInt32) - (1 : Int32)))] [(.int (3 : Int32)), (.ref b83), (.ref b83)])) rfl (hb hby at_191) rfl (by decide) (cap := 3) (by decide) (by decide) (by decide) (by decide) (ad := "[I") (by decide)
        obtain ⟨b84, g84⟩ : ∃ z, z = h83.size := ⟨_, rfl⟩
        rw [← g84] at A84 B84 st84
        have ne84_b83 : b83 ≠ b84 := Nat.ne_of_lt (Nat.lt_of_lt_of_le A83.lt (Nat.le_of_eq g84.symm))
        have lo84 : n0 ≤ b84 := Nat.le_trans Z83 (Nat.le_of_eq g84.symm)
        have sz84 : h0.size ≤ b84 := Nat.le_trans K83.1 (Nat.le_of_eq g84.symm)
        have f84_0 := A83.ext E84
        have f84_1 := F83_blockSizes.ext E84
        have f84_2 := F83_blockCounts.ext E84
        have f84_3 := F83_reservedBytes.ext E84
        have K84 := K83.ext E84
        have Z84 : n0 ≤ h84.size := Nat.le_trans Z83 E84.1
        have V84 : Arv Z h84 b84 k84 .int (3 : Int32) [(.int (0 : Int32)), (.int (0 : Int32)), (.int (0 : Int32))] (.int (0 : Int32)) := (Arv.new A84 (by decide)).pad (pad_rep [] (.int (0 : Int32)) 3)
        obtain ⟨cl85, Ar85, qk85, S85, N85', Hh85, G85⟩ := own_same V84
        have hin85 : ¬ ((0 : Int32) < 0 ∨ cl85.slots.size ≤ ((0 : Int32)).toNatClampNeg) := inb_of S85 ⟨by decide, by decide⟩
        obtain ⟨T86, h86, X86, e86, W86, st86⟩ := stI X84 hx hZ e84 Ar85 (j := (0 : Int32)) hin85 (g := (mkF m 197 #[.val (.int p0), .val (.int p1), .val (.int p2), .val (.int p3), .val (.long q4), .second, .val (.int (m0_0 p0 p1 p2 p3 q4)), .val (.int (m0_1 p0 p1 p2 p3 q4)), .val (.int (m0_2 p0 p1 p2 p3 q4)), .val (.int (m0_3 p0 p1 p2 p3 q4)), .val (.int (p3 &&& (3 : Int32))), .val (.long (m0_8 p0 p1 p2 p3 q4)), .second, .val (.int (m0_7 p0 p1 p2 p3 q4)), .val (.int (((q4 &&& (3 : Int64)).toInt32) - (1 : Int32)))] [(.int (m0_0 p0 p1 p2 p3 q4)), (.int (0 : Int32)), (.ref b84), (.ref b84), (.ref b83), (.ref b83)])) rfl rfl (hb hby at_197)
        have V86 : Arv Z h86 b84 k84 .int (3 : Int32) [(.int (m0_0 p0 p1 p2 p3 q4)), (.int (0 : Int32)), (.int (0 : Int32))] (.int (0 : Int32)) := Arv.set Ar85 qk85 S85 N85' Hh85 G85 rfl W86 0 rfl (Nat.le_of_ble_eq_true rfl)
        have f86_0 := f84_0.wr W86
        have f86_1 := f84_1.other W86 (Or.inl ne84_b83)
        have f86_2 := f84_2.other W86 (Or.inl ne84_b83)
        have f86_3 := f84_3.other W86 (Or.inl ne84_b83)
        have f86_4 := B84.wr W86
        have K86 : Keep h0 h86 [] := K84.wr W86 (Or.inr sz84)
        have Z86 : n0 ≤ h86.size := Nat.le_trans Z84 (Keep.of_wr W86).1
        have N86 := Fr.snoc X86 N0 lo84
        obtain ⟨cl87, Ar87, qk87, S87, N87', Hh87, G87⟩ := own_same V86
        have hin87 : ¬ ((1 : Int32) < 0 ∨ cl87.slots.size ≤ ((1 : Int32)).toNatClampNeg) := inb_of S87 ⟨by decide, by decide⟩
        obtain ⟨T88, h88, X88, e88, W88, st88⟩ := stI X86 hx hZ e86 Ar87 (j := (1 : Int32)) hin87 (g := (mkF m 202 #[.val (.int p0), .val (.int p1), .val (.int p2), .val (.int p3), .val (.long q4), .second, .val (.int (m0_0 p0 p1 p2 p3 q4)), .val (.int (m0_1 p0 p1 p2 p3 q4)), .val (.int (m0_2 p0 p1 p2 p3 q4)), .val (.int (m0_3 p0 p1 p2 p3 q4)), .val (.int (p3 &&& (3 : Int32))), .val (.long (m0_8 p0 p1 p2 p3 q4)), .second, .val (.int (m0_7 p0 p1 p2 p3 q4)), .val (.int (((q4 &&& (3 : Int64)).toInt32) - (1 : Int32)))] [(.int (m0_1 p0 p1 p2 p3 q4)), (.int (1 : Int32)), (.ref b84), (.ref b84), (.ref b83), (.ref b83)])) rfl rfl (hb hby at_202)
        have V88 : Arv Z h88 b84 k84 .int (3 : Int32) [(.int (m0_0 p0 p1 p2 p3 q4)), (.int (m0_1 p0 p1 p2 p3 q4)), (.int (0 : Int32))] (.int (0 : Int32)) := Arv.set Ar87 qk87 S87 N87' Hh87 G87 rfl W88 1 rfl (Nat.le_of_ble_eq_true rfl)
        have f88_0 := f86_0.wr W88
        have f88_1 := f86_1.other W88 (Or.inl ne84_b83)
        have f88_2 := f86_2.other W88 (Or.inl ne84_b83)
        have f88_3 := f86_3.other W88 (Or.inl ne84_b83)
        have f88_4 := f86_4.wr W88
        have K88 : Keep h0 h88 [] := K86.wr W88 (Or.inr sz84)
        have Z88 : n0 ≤ h88.size := Nat.le_trans Z86 (Keep.of_wr W88).1
        have N88 := Fr.snoc X88 N86 lo84
        obtain ⟨cl89, Ar89, qk89, S89, N89', Hh89, G89⟩ := own_same V88
        have hin89 : ¬ ((2 : Int32) < 0 ∨ cl89.slots.size ≤ ((2 : Int32)).toNatClampNeg) := inb_of S89 ⟨by decide, by decide⟩
        obtain ⟨T90, h90, X90, e90, W90, st90⟩ := stI X88 hx hZ e88 Ar89 (j := (2 : Int32)) hin89 (g := (mkF m 207 #[.val (.int p0), .val (.int p1), .val (.int p2), .val (.int p3), .val (.long q4), .second, .val (.int (m0_0 p0 p1 p2 p3 q4)), .val (.int (m0_1 p0 p1 p2 p3 q4)), .val (.int (m0_2 p0 p1 p2 p3 q4)), .val (.int (m0_3 p0 p1 p2 p3 q4)), .val (.int (p3 &&& (3 : Int32))), .val (.long (m0_8 p0 p1 p2 p3 q4)), .second, .val (.int (m0_7 p0 p1 p2 p3 q4)), .val (.int (((q4 &&& (3 : Int64)).toInt32) - (1 : Int32)))] [(.int (m0_2 p0 p1 p2 p3 q4)), (.int (2 : Int32)), (.ref b84), (.ref b84), (.ref b83), (.ref b83)])) rfl rfl (hb hby at_207)
        have V90 : Arv Z h90 b84 k84 .int (3 : Int32) [(.int (m0_0 p0 p1 p2 p3 q4)), (.int (m0_1 p0 p1 p2 p3 q4)), (.int (m0_2 p0 p1 p2 p3 q4))] (.int (0 : Int32)) := Arv.set Ar89 qk89 S89 N89' Hh89 G89 rfl W90 2 rfl (Nat.le_of_ble_eq_true rfl)
        have f90_0 := f88_0.wr W90
        have f90_1 := f88_1.other W90 (Or.inl ne84_b83)
        have f90_2 := f88_2.other W90 (Or.inl ne84_b83)
        have f90_3 := f88_3.other W90 (Or.inl ne84_b83)
        have f90_4 := f88_4.wr W90
        have K90 : Keep h0 h90 [] := K88.wr W90 (Or.inr sz84)
        have Z90 : n0 ≤ h90.size := Nat.le_trans Z88 (Keep.of_wr W90).1
        have N90 := Fr.snoc X90 N88 lo84
        obtain ⟨T91, h91, k91, X91, e91, E91, A91, B91, st91⟩ := newPE X90 hx hZ (hw _ (List.mem_of_getElem? (i := 7) rfl)) e90 (g := (mkF m 209 #[.val (.int p0), .val (.int p1), .val (.int p2), .val (.int p3), .val (.long q4), .second, .val (.int (m0_0 p0 p1 p2 p3 q4)), .val (.int (m0_1 p0 p1 p2 p3 q4)), .val (.int (m0_2 p0 p1 p2 p3 q4)), .val (.int (m0_3 p0 p1 p2 p3 q4)), .val (.int (p3 &&& (3 : Int32))), .val (.long (m0_8 p0 p1 p2 p3 q4)), .second, .val (.int (m0_7 p0 p1 p2 p3 q4)), .val (.int (((q4 &&& (3 : Int64)).toInt32) - (1 : Int32)))] [(.int (3 : Int32)), (.ref b84), (.ref b83), (.ref b83)])) rfl (hb hby at_209) rfl (by decide) (cap := 3) (by decide) (by decide) (by decide) (by decide) (ad := "[I") (by decide)
        obtain ⟨b91, g91⟩ : ∃ z, z = h90.size := ⟨_, rfl⟩
        rw [← g91] at A91 B91 st91
        have ne91_b83 : b83 ≠ b91 := Nat.ne_of_lt (Nat.lt_of_lt_of_le f90_0.lt (Nat.le_of_eq g91.symm))
        have ne91_b84 : b84 ≠ b91 := Nat.ne_of_lt (Nat.lt_of_lt_of_le f90_4.lt (Nat.le_of_eq g91.symm))
        have lo91 : n0 ≤ b91 := Nat.le_trans Z90 (Nat.le_of_eq g91.symm)
        have sz91 : h0.size ≤ b91 := Nat.le_trans K90.1 (Nat.le_of_eq g91.symm)
        have f91_0 := f90_0.ext E91
        have f91_1 := f90_1.ext E91
        have f91_2 := f90_2.ext E91
        have f91_3 := f90_3.ext E91
        have f91_4 := f90_4.ext E91
        have f91_5 := V90.ext E91
        have K91 := K90.ext E91
        have Z91 : n0 ≤ h91.size := Nat.le_trans Z90 E91.1
        have V91 : Arv Z h91 b91 k91 .int (3 : Int32) [(.int (0 : Int32)), (.int (0 : Int32)), (.int (0 : Int32))] (.int (0 : Int32)) := (Arv.new A91 (by decide)).pad (pad_rep [] (.int (0 : Int32)) 3)
        obtain ⟨cl92, Ar92, qk92, S92, N92', Hh92, G92⟩ := own_same V91
        have hin92 : ¬ ((0 : Int32) < 0 ∨ cl92.slots.size ≤ ((0 : Int32)).toNatClampNeg) := inb_of S92 ⟨by decide, by decide⟩
        obtain ⟨T93, h93, X93, e93, W93, st93⟩ := stI X91 hx hZ e91 Ar92 (j := (0 : Int32)) hin92 (g := (mkF m 214 #[.val (.int p0), .val (.int p1), .val (.int p2), .val (.int p3), .val (.long q4), .second, .val (.int (m0_0 p0 p1 p2 p3 q4)), .val (.int (m0_1 p0 p1 p2 p3 q4)), .val (.int (m0_2 p0 p1 p2 p3 q4)), .val (.int (m0_3 p0 p1 p2 p3 q4)), .val (.int (p3 &&& (3 : Int32))), .val (.long (m0_8 p0 p1 p2 p3 q4)), .second, .val (.int (m0_7 p0 p1 p2 p3 q4)), .val (.int (((q4 &&& (3 : Int64)).toInt32) - (1 : Int32)))] [(.int (1 : Int32)), (.int (0 : Int32)), (.ref b91), (.ref b91), (.ref b84), (.ref b83), (.ref b83)])) rfl rfl (hb hby at_214)
        have V93 : Arv Z h93 b91 k91 .int (3 : Int32) [(.int (1 : Int32)), (.int (0 : Int32)), (.int (0 : Int32))] (.int (0 : Int32)) := Arv.set Ar92 qk92 S92 N92' Hh92 G92 rfl W93 0 rfl (Nat.le_of_ble_eq_true rfl)
        have f93_0 := f91_0.wr W93
        have f93_1 := f91_1.other W93 (Or.inl ne91_b83)
        have f93_2 := f91_2.other W93 (Or.inl ne91_b83)
        have f93_3 := f91_3.other W93 (Or.inl ne91_b83)
        have f93_4 := f91_4.wr W93
        have f93_5 := f91_5.other W93 ne91_b84
        have f93_6 := B91.wr W93
        have K93 : Keep h0 h93 [] := K91.wr W93 (Or.inr sz91)
        have Z93 : n0 ≤ h93.size := Nat.le_trans Z91 (Keep.of_wr W93).1
        have N93 := Fr.snoc X93 N90 lo91
        obtain ⟨cl94, Ar94, qk94, S94, N94', Hh94, G94⟩ := own_same V93
        have hin94 : ¬ ((1 : Int32) < 0 ∨ cl94.slots.size ≤ ((1 : Int32)).toNatClampNeg) := inb_of S94 ⟨by decide, by decide⟩
        obtain ⟨T95, h95, X95, e95, W95, st95⟩ := stI X93 hx hZ e93 Ar94 (j := (1 : Int32)) hin94 (g := (mkF m 218 #[.val (.int p0), .val (.int p1), .val (.int p2), .val (.int p3), .val (.long q4), .second, .val (.int (m0_0 p0 p1 p2 p3 q4)), .val (.int (m0_1 p0 p1 p2 p3 q4)), .val (.int (m0_2 p0 p1 p2 p3 q4)), .val (.int (m0_3 p0 p1 p2 p3 q4)), .val (.int (p3 &&& (3 : Int32))), .val (.long (m0_8 p0 p1 p2 p3 q4)), .second, .val (.int (m0_7 p0 p1 p2 p3 q4)), .val (.int (((q4 &&& (3 : Int64)).toInt32) - (1 : Int32)))] [(.int (1 : Int32)), (.int (1 : Int32)), (.ref b91), (.ref b91), (.ref b84), (.ref b83), (.ref b83)])) rfl rfl (hb hby at_218)
        have V95 : Arv Z h95 b91 k91 .int (3 : Int32) [(.int (1 : Int32)), (.int (1 : Int32)), (.int (0 : Int32))] (.int (0 : Int32)) := Arv.set Ar94 qk94 S94 N94' Hh94 G94 rfl W95 1 rfl (Nat.le_of_ble_eq_true rfl)
        have f95_0 := f93_0.wr W95
        have f95_1 := f93_1.other W95 (Or.inl ne91_b83)
        have f95_2 := f93_2.other W95 (Or.inl ne91_b83)
        have f95_3 := f93_3.other W95 (Or.inl ne91_b83)
        have f95_4 := f93_4.wr W95
        have f95_5 := f93_5.other W95 ne91_b84
        have f95_6 := f93_6.wr W95
        have K95 : Keep h0 h95 [] := K93.wr W95 (Or.inr sz91)
        have Z95 : n0 ≤ h95.size := Nat.le_trans Z93 (Keep.of_wr W95).1
        have N95 := Fr.snoc X95 N93 lo91
        obtain ⟨cl96, Ar96, qk96, S96, N96', Hh96, G96⟩ := own_same V95
        have hin96 : ¬ ((2 : Int32) < 0 ∨ cl96.slots.size ≤ ((2 : Int32)).toNatClampNeg) := inb_of S96 ⟨by decide, by decide⟩
        obtain ⟨T97, h97, X97, e97, W97, st97⟩ := stI X95 hx hZ e95 Ar96 (j := (2 : Int32)) hin96 (g := (mkF m 222 #[.val (.int p0), .val (.int p1), .val (.int p2), .val (.int p3), .val (.long q4), .second, .val (.int (m0_0 p0 p1 p2 p3 q4)), .val (.int (m0_1 p0 p1 p2 p3 q4)), .val (.int (m0_2 p0 p1 p2 p3 q4)), .val (.int (m0_3 p0 p1 p2 p3 q4)), .val (.int (p3 &&& (3 : Int32))), .val (.long (m0_8 p0 p1 p2 p3 q4)), .second, .val (.int (m0_7 p0 p1 p2 p3 q4)), .val (.int (((q4 &&& (3 : Int64)).toInt32) - (1 : Int32)))] [(.int (1 : Int32)), (.int (2 : Int32)), (.ref b91), (.ref b91), (.ref b84), (.ref b83), (.ref b83)])) rfl rfl (hb hby at_222)
        have V97 : Arv Z h97 b91 k91 .int (3 : Int32) [(.int (1 : Int32)), (.int (1 : Int32)), (.int (1 : Int32))] (.int (0 : Int32)) := Arv.set Ar96 qk96 S96 N96' Hh96 G96 rfl W97 2 rfl (Nat.le_of_ble_eq_true rfl)
        have f97_0 := f95_0.wr W97
        have f97_1 := f95_1.other W97 (Or.inl ne91_b83)
        have f97_2 := f95_2.other W97 (Or.inl ne91_b83)
        have f97_3 := f95_3.other W97 (Or.inl ne91_b83)
        have f97_4 := f95_4.wr W97
        have f97_5 := f95_5.other W97 ne91_b84
        have f97_6 := f95_6.wr W97
        have K97 : Keep h0 h97 [] := K95.wr W97 (Or.inr sz91)
        have Z97 : n0 ≤ h97.size := Nat.le_trans Z95 (Keep.of_wr W97).1
        have N97 := Fr.snoc X97 N95 lo91
        obtain ⟨_, _, ⟨T98, L98, k98, n98⟩, -, X98, hS98, hg98, ⟨Lc98, hQ98, l98, y98, z98⟩, st98⟩ := X97.specialBackS hx (y := (⟨"com/example/byteloom/byteloom/SectionLayout", "<init>", "([I[I)V"⟩ : MethodName)) rfl hown (mvT hZ (hw _ (List.mem_of_getElem? (i := 8) rfl))) (mvT hZ (hw _ (List.mem_of_getElem? (i := 9) rfl))) (mvT hZ (hw _ (List.mem_of_getElem? (i := 10) rfl))) (by decide) (backOfS (W := 1) (rm1c l Z aw hw [] b83 b84 b91 k84 k91 (m0_0 p0 p1 p2 p3 q4) (m0_1 p0 p1 p2 p3 q4) (m0_2 p0 p1 p2 p3 q4) h97 n0 Z97 f97_1 f97_2 f97_3 f97_0 lo83 f97_5 V97 f97_4 f97_6 (Ne.symm ne84_b83) (Ne.symm ne91_b83) (own_g0 p0 p1 p2 p3 q4) (own_g1 p0 p1 p2 p3 q4) (own_g2 p0 p1 p2 p3 q4) (own_l01 p0 p1 p2 p3 q4) (own_l12 p0 p1 p2 p3 q4)) hZ (hw _ (List.mem_of_getElem? (i := 10) rfl)) (hw _ (List.mem_of_getElem? (i := 6) rfl)) (by decide) (by decide)) (g := (mkF m 223 #[.val (.int p0), .val (.int p1), .val (.int p2), .val (.int p3), .val (.long q4), .second, .val (.int (m0_0 p0 p1 p2 p3 q4)), .val (.int (m0_1 p0 p1 p2 p3 q4)), .val (.int (m0_2 p0 p1 p2 p3 q4)), .val (.int (m0_3 p0 p1 p2 p3 q4)), .val (.int (p3 &&& (3 : Int32))), .val (.long (m0_8 p0 p1 p2 p3 q4)), .second, .val (.int (m0_7 p0 p1 p2 p3 q4)), .val (.int (((q4 &&& (3 : Int64)).toInt32) - (1 : Int32)))] [(.ref b91), (.ref b84), (.ref b83), (.ref b83)])) rfl (by rw [hml]; rfl) (Steps.refl _) (a := b83) (argsL := [(.ref b84), (.ref b91)]) (rest := [(.ref b83)]) (lenOf pd_0_0 rfl) rfl (by show 2 * 0 + _ ≤ _; exact Nat.le_of_eq rfl) (hb hby at_223) (fun _ _ => ⟨rfl, e97, (by decide : 3 + 6 ≤ _), (by decide : 9 + 98 ≤ _)⟩)
        dsimp only [Pt.U, Pt.locs, Pt.cells, Pt.slots] at X98 l98 y98 z98 st98 hQ98
        rw [l98, y98, z98] at X98
        dsimp only [Pt.U, Pt.locs, Pt.cells, Pt.slots] at hS98 hg98
        have hZ : Z.Warmed39 (s.setVm T98.vm).vm := State.Warmed39.trans hZ hS98.1
        have hown : (s.setVm T98.vm).vm.findClass "com/example/byteloom/byteloom/SectionLayoutSectionForPinLaw" = some m.cls := by rw [show (s.setVm T98.vm).vm = T98.vm from rfl, hS98.1.alike.findClass]; exact hown
        obtain ⟨bb98, hQ98⟩ := hQ98
        obtain ⟨rfl, Nq98, Kq98, P98_0, P98_1, P98_2⟩ := hQ98
        have N98 := Fr.app N97 Nq98
        have f98_0 := f97_4.keep Kq98
        have f98_1 := f97_5.keep Kq98 (ninS (Ne.symm ne84_b83) nin0)
        have f98_2 := f97_6.keep Kq98
        have f98_3 := V97.keep Kq98 (ninS (Ne.symm ne91_b83) nin0)
        have K98 : Keep h0 T98.heap [] := K97.trans Kq98 (allS (Or.inr sz83) all0)
        have Z98 : n0 ≤ T98.heap.size := Nat.le_trans Z97 Kq98.1
        refine own_back (b := T98.setTop (mkF m 234 #[.val (.int p0), .val (.int p1), .val (.int p2), .val (.int p3), .val (.long q4), .second, .val (.int (m0_0 p0 p1 p2 p3 q4)), .val (.int (m0_1 p0 p1 p2 p3 q4)), .val (.int (m0_2 p0 p1 p2 p3 q4)), .val (.int (m0_3 p0 p1 p2 p3 q4)), .val (.int (p3 &&& (3 : Int32))), .val (.long (m0_8 p0 p1 p2 p3 q4)), .second, .val (.ref b83), .val (.int (((q4 &&& (3 : Int64)).toInt32) - (1 : Int32)))] [(.int (lcmpW (m0_8 p0 p1 p2 p3 q4) ((m0_0 p0 p1 p2 p3 q4).toInt64)))])) (fun t kt => ?_) ?_
        · show Steps p.tables e below (s₁.setTop (mkF m 147 #[.val (.int p0), .val (.int p1), .val (.int p2), .val (.int p3), .val (.long q4), .second, .val (.int (m0_0 p0 p1 p2 p3 q4)), .val (.int (m0_1 p0 p1 p2 p3 q4)), .val (.int (m0_2 p0 p1 p2 p3 q4)), .val (.int (m0_3 p0 p1 p2 p3 q4)), .val (.int (p3 &&& (3 : Int32))), .val (.long (m0_8 p0 p1 p2 p3 q4)), .second, .val (.int (m0_7 p0 p1 p2 p3 q4)), .val (.int (((q4 &&& (3 : Int64)).toInt32) - (1 : Int32)))] [(.int (2 : Int32)), (.int (m0_3 p0 p1 p2 p3 q4))])) _
          refine XS.icmpYes X0.here hx rfl (pc0 := 147) (pc' := 186) rfl (hb hby at_147) rfl (feq hc147_66).2 (by decide) (by decide) ?_
          show Steps p.tables e below (s₁.setTop (mkF m 186 #[.val (.int p0), .val (.int p1), .val (.int p2), .val (.int p3), .val (.long q4), .second, .val (.int (m0_0 p0 p1 p2 p3 q4)), .val (.int (m0_1 p0 p1 p2 p3 q4)), .val (.int (m0_2 p0 p1 p2 p3 q4)), .val (.int (m0_3 p0 p1 p2 p3 q4)), .val (.int (p3 &&& (3 : Int32))), .val (.long (m0_8 p0 p1 p2 p3 q4)), .second, .val (.int (m0_7 p0 p1 p2 p3 q4)), .val (.int (((q4 &&& (3 : Int64)).toInt32) - (1 : Int32)))] [])) _
          refine st83 _ ?_
          show Steps p.tables e below (T83.setTop (mkF m 189 #[.val (.int p0), .val (.int p1), .val (.int p2), .val (.int p3), .val (.long q4), .second, .val (.int (m0_0 p0 p1 p2 p3 q4)), .val (.int (m0_1 p0 p1 p2 p3 q4)), .val (.int (m0_2 p0 p1 p2 p3 q4)), .val (.int (m0_3 p0 p1 p2 p3 q4)), .val (.int (p3 &&& (3 : Int32))), .val (.long (m0_8 p0 p1 p2 p3 q4)), .second, .val (.int (m0_7 p0 p1 p2 p3 q4)), .val (.int (((q4 &&& (3 : Int64)).toInt32) - (1 : Int32)))] [(.ref b83)])) _
          refine XS.dup X83.here hx rfl (hb hby at_189) rfl rfl ?_
          show Steps p.tables e below (T83.setTop (mkF m 190 #[.val (.int p0), .val (.int p1), .val (.int p2), .val (.int p3), .val (.long q4), .second, .val (.int (m0_0 p0 p1 p2 p3 q4)), .val (.int (m0_1 p0 p1 p2 p3 q4)), .val (.int (m0_2 p0 p1 p2 p3 q4)), .val (.int (m0_3 p0 p1 p2 p3 q4)), .val (.int (p3 &&& (3 : Int32))), .val (.long (m0_8 p0 p1 p2 p3 q4)), .second, .val (.int (m0_7 p0 p1 p2 p3 q4)), .val (.int (((q4 &&& (3 : Int64)).toInt32) - (1 : Int32)))] [(.ref b83), (.ref b83)])) _
          refine XS.iconst X83.here hx rfl (hb hby at_190) ?_
          show Steps p.tables e below (T83.setTop (mkF m 191 #[.val (.int p0), .val (.int p1), .val (.int p2), .val (.int p3), .val (.long q4), .second, .val (.int (m0_0 p0 p1 p2 p3 q4)), .val (.int (m0_1 p0 p1 p2 p3 q4)), .val (.int (m0_2 p0 p1 p2 p3 q4)), .val (.int (m0_3 p0 p1 p2 p3 q4)), .val (.int (p3 &&& (3 : Int32))), .val (.long (m0_8 p0 p1 p2 p3 q4)), .second, .val (.int (m0_7 p0 p1 p2 p3 q4)), .val (.int (((q4 &&& (3 : Int64)).toInt32) - (1 : Int32)))] [(.int (3 : Int32)), (.ref b83), (.ref b83)])) _
          refine st84 _ ?_
          show Steps p.tables e below (T84.setTop (mkF m 193 #[.val (.int p0), .val (.int p1), .val (.int p2), .val (.int p3), .val (.long q4), .second, .val (.int (m0_0 p0 p1 p2 p3 q4)), .val (.int (m0_1 p0 p1 p2 p3 q4)), .val (.int (m0_2 p0 p1 p2 p3 q4)), .val (.int (m0_3 p0 p1 p2 p3 q4)), .val (.int (p3 &&& (3 : Int32))), .val (.long (m0_8 p0 p1 p2 p3 q4)), .second, .val (.int (m0_7 p0 p1 p2 p3 q4)), .val (.int (((q4 &&& (3 : Int64)).toInt32) - (1 : Int32)))] [(.ref b84), (.ref b83), (.ref b83)])) _
          refine XS.dup X84.here hx rfl (hb hby at_193) rfl rfl ?_
          show Steps p.tables e below (T84.setTop (mkF m 194 #[.val (.int p0), .val (.int p1), .val (.int p2), .val (.int p3), .val (.long q4), .second, .val (.int (m0_0 p0 p1 p2 p3 q4)), .val (.int (m0_1 p0 p1 p2 p3 q4)), .val (.int (m0_2 p0 p1 p2 p3 q4)), .val (.int (m0_3 p0 p1 p2 p3 q4)), .val (.int (p3 &&& (3 : Int32))), .val (.long (m0_8 p0 p1 p2 p3 q4)), .second, .val (.int (m0_7 p0 p1 p2 p3 q4)), .val (.int (((q4 &&& (3 : Int64)).toInt32) - (1 : Int32)))] [(.ref b84), (.ref b84), (.ref b83), (.ref b83)])) _
          refine XS.iconst X84.here hx rfl (hb hby at_194) ?_
          show Steps p.tables e below (T84.setTop (mkF m 195 #[.val (.int p0), .val (.int p1), .val (.int p2), .val (.int p3), .val (.long q4), .second, .val (.int (m0_0 p0 p1 p2 p3 q4)), .val (.int (m0_1 p0 p1 p2 p3 q4)), .val (.int (m0_2 p0 p1 p2 p3 q4)), .val (.int (m0_3 p0 p1 p2 p3 q4)), .val (.int (p3 &&& (3 : Int32))), .val (.long (m0_8 p0 p1 p2 p3 q4)), .second, .val (.int (m0_7 p0 p1 p2 p3 q4)), .val (.int (((q4 &&& (3 : Int64)).toInt32) - (1 : Int32)))] [(.int (0 : Int32)), (.ref b84), (.ref b84), (.ref b83), (.ref b83)])) _
          refine XS.iload X84.here hx rfl (hb hby at_195) rfl ?_
          show Steps p.tables e below (T84.setTop (mkF m 197 #[.val (.int p0), .val (.int p1), .val (.int p2), .val (.int p3), .val (.long q4), .second, .val (.int (m0_0 p0 p1 p2 p3 q4)), .val (.int (m0_1 p0 p1 p2 p3 q4)), .val (.int (m0_2 p0 p1 p2 p3 q4)), .val (.int (m0_3 p0 p1 p2 p3 q4)), .val (.int (p3 &&& (3 : Int32))), .val (.long (m0_8 p0 p1 p2 p3 q4)), .second, .val (.int (m0_7 p0 p1 p2 p3 q4)), .val (.int (((q4 &&& (3 : Int64)).toInt32) - (1 : Int32)))] [(.int (m0_0 p0 p1 p2 p3 q4)), (.int (0 : Int32)), (.ref b84), (.ref b84), (.ref b83), (.ref b83)])) _
          refine st86 _ ?_
          show Steps p.tables e below (T86.setTop (mkF m 198 #[.val (.int p0), .val (.int p1), .val (.int p2), .val (.int p3), .val (.long q4), .second, .val (.int (m0_0 p0 p1 p2 p3 q4)), .val (.int (m0_1 p0 p1 p2 p3 q4)), .val (.int (m0_2 p0 p1 p2 p3 q4)), .val (.int (m0_3 p0 p1 p2 p3 q4)), .val (.int (p3 &&& (3 : Int32))), .val (.long (m0_8 p0 p1 p2 p3 q4)), .second, .val (.int (m0_7 p0 p1 p2 p3 q4)), .val (.int (((q4 &&& (3 : Int64)).toInt32) - (1 : Int32)))] [(.ref b84), (.ref b83), (.ref b83)])) _
          refine XS.dup X86.here hx rfl (hb hby at_198) rfl rfl ?_
          show Steps p.tables e below (T86.setTop (mkF m 199 #[.val (.int p0), .val (.int p1), .val (.int p2), .val (.int p3), .val (.long q4), .second, .val (.int (m0_0 p0 p1 p2 p3 q4)), .val (.int (m0_1 p0 p1 p2 p3 q4)), .val (.int (m0_2 p0 p1 p2 p3 q4)), .val (.int (m0_3 p0 p1 p2 p3 q4)), .val (.int (p3 &&& (3 : Int32))), .val (.long (m0_8 p0 p1 p2 p3 q4)), .second, .val (.int (m0_7 p0 p1 p2 p3 q4)), .val (.int (((q4 &&& (3 : Int64)).toInt32) - (1 : Int32)))] [(.ref b84), (.ref b84), (.ref b83), (.ref b83)])) _
          refine XS.iconst X86.here hx rfl (hb hby at_199) ?_
          show Steps p.tables e below (T86.setTop (mkF m 200 #[.val (.int p0), .val (.int p1), .val (.int p2), .val (.int p3), .val (.long q4), .second, .val (.int (m0_0 p0 p1 p2 p3 q4)), .val (.int (m0_1 p0 p1 p2 p3 q4)), .val (.int (m0_2 p0 p1 p2 p3 q4)), .val (.int (m0_3 p0 p1 p2 p3 q4)), .val (.int (p3 &&& (3 : Int32))), .val (.long (m0_8 p0 p1 p2 p3 q4)), .second, .val (.int (m0_7 p0 p1 p2 p3 q4)), .val (.int (((q4 &&& (3 : Int64)).toInt32) - (1 : Int32)))] [(.int (1 : Int32)), (.ref b84), (.ref b84), (.ref b83), (.ref b83)])) _
          refine XS.iload X86.here hx rfl (hb hby at_200) rfl ?_
          show Steps p.tables e below (T86.setTop (mkF m 202 #[.val (.int p0), .val (.int p1), .val (.int p2), .val (.int p3), .val (.long q4), .second, .val (.int (m0_0 p0 p1 p2 p3 q4)), .val (.int (m0_1 p0 p1 p2 p3 q4)), .val (.int (m0_2 p0 p1 p2 p3 q4)), .val (.int (m0_3 p0 p1 p2 p3 q4)), .val (.int (p3 &&& (3 : Int32))), .val (.long (m0_8 p0 p1 p2 p3 q4)), .second, .val (.int (m0_7 p0 p1 p2 p3 q4)), .val (.int (((q4 &&& (3 : Int64)).toInt32) - (1 : Int32)))] [(.int (m0_1 p0 p1 p2 p3 q4)), (.int (1 : Int32)), (.ref b84), (.ref b84), (.ref b83), (.ref b83)])) _
          refine st88 _ ?_
          show Steps p.tables e below (T88.setTop (mkF m 203 #[.val (.int p0), .val (.int p1), .val (.int p2), .val (.int p3), .val (.long q4), .second, .val (.int (m0_0 p0 p1 p2 p3 q4)), .val (.int (m0_1 p0 p1 p2 p3 q4)), .val (.int (m0_2 p0 p1 p2 p3 q4)), .val (.int (m0_3 p0 p1 p2 p3 q4)), .val (.int (p3 &&& (3 : Int32))), .val (.long (m0_8 p0 p1 p2 p3 q4)), .second, .val (.int (m0_7 p0 p1 p2 p3 q4)), .val (.int (((q4 &&& (3 : Int64)).toInt32) - (1 : Int32)))] [(.ref b84), (.ref b83), (.ref b83)])) _
          refine XS.dup X88.here hx rfl (hb hby at_203) rfl rfl ?_
          show Steps p.tables e below (T88.setTop (mkF m 204 #[.val (.int p0), .val (.int p1), .val (.int p2), .val (.int p3), .val (.long q4), .second, .val (.int (m0_0 p0 p1 p2 p3 q4)), .val (.int (m0_1 p0 p1 p2 p3 q4)), .val (.int (m0_2 p0 p1 p2 p3 q4)), .val (.int (m0_3 p0 p1 p2 p3 q4)), .val (.int (p3 &&& (3 : Int32))), .val (.long (m0_8 p0 p1 p2 p3 q4)), .second, .val (.int (m0_7 p0 p1 p2 p3 q4)), .val (.int (((q4 &&& (3 : Int64)).toInt32) - (1 : Int32)))] [(.ref b84), (.ref b84), (.ref b83), (.ref b83)])) _
          refine XS.iconst X88.here hx rfl (hb hby at_204) ?_
          show Steps p.tables e below (T88.setTop (mkF m 205 #[.val (.int p0), .val (.int p1), .val (.int p2), .val (.int p3), .val (.long q4), .second, .val (.int (m0_0 p0 p1 p2 p3 q4)), .val (.int (m0_1 p0 p1 p2 p3 q4)), .val (.int (m0_2 p0 p1 p2 p3 q4)), .val (.int (m0_3 p0 p1 p2 p3 q4)), .val (.int (p3 &&& (3 : Int32))), .val (.long (m0_8 p0 p1 p2 p3 q4)), .second, .val (.int (m0_7 p0 p1 p2 p3 q4)), .val (.int (((q4 &&& (3 : Int64)).toInt32) - (1 : Int32)))] [(.int (2 : Int32)), (.ref b84), (.ref b84), (.ref b83), (.ref b83)])) _
          refine XS.iload X88.here hx rfl (hb hby at_205) rfl ?_
          show Steps p.tables e below (T88.setTop (mkF m 207 #[.val (.int p0), .val (.int p1), .val (.int p2), .val (.int p3), .val (.long q4), .second, .val (.int (m0_0 p0 p1 p2 p3 q4)), .val (.int (m0_1 p0 p1 p2 p3 q4)), .val (.int (m0_2 p0 p1 p2 p3 q4)), .val (.int (m0_3 p0 p1 p2 p3 q4)), .val (.int (p3 &&& (3 : Int32))), .val (.long (m0_8 p0 p1 p2 p3 q4)), .second, .val (.int (m0_7 p0 p1 p2 p3 q4)), .val (.int (((q4 &&& (3 : Int64)).toInt32) - (1 : Int32)))] [(.int (m0_2 p0 p1 p2 p3 q4)), (.int (2 : Int32)), (.ref b84), (.ref b84), (.ref b83), (.ref b83)])) _
          refine st90 _ ?_
          show Steps p.tables e below (T90.setTop (mkF m 208 #[.val (.int p0), .val (.int p1), .val (.int p2), .val (.int p3), .val (.long q4), .second, .val (.int (m0_0 p0 p1 p2 p3 q4)), .val (.int (m0_1 p0 p1 p2 p3 q4)), .val (.int (m0_2 p0 p1 p2 p3 q4)), .val (.int (m0_3 p0 p1 p2 p3 q4)), .val (.int (p3 &&& (3 : Int32))), .val (.long (m0_8 p0 p1 p2 p3 q4)), .second, .val (.int (m0_7 p0 p1 p2 p3 q4)), .val (.int (((q4 &&& (3 : Int64)).toInt32) - (1 : Int32)))] [(.ref b84), (.ref b83), (.ref b83)])) _
          refine XS.iconst X90.here hx rfl (hb hby at_208) ?_
          show Steps p.tables e below (T90.setTop (mkF m 209 #[.val (.int p0), .val (.int p1), .val (.int p2), .val (.int p3), .val (.long q4), .second, .val (.int (m0_0 p0 p1 p2 p3 q4)), .val (.int (m0_1 p0 p1 p2 p3 q4)), .val (.int (m0_2 p0 p1 p2 p3 q4)), .val (.int (m0_3 p0 p1 p2 p3 q4)), .val (.int (p3 &&& (3 : Int32))), .val (.long (m0_8 p0 p1 p2 p3 q4)), .second, .val (.int (m0_7 p0 p1 p2 p3 q4)), .val (.int (((q4 &&& (3 : Int64)).toInt32) - (1 : Int32)))] [(.int (3 : Int32)), (.ref b84), (.ref b83), (.ref b83)])) _
          refine st91 _ ?_
          show Steps p.tables e below (T91.setTop (mkF m 211 #[.val (.int p0), .val (.int p1), .val (.int p2), .val (.int p3), .val (.long q4), .second, .val (.int (m0_0 p0 p1 p2 p3 q4)), .val (.int (m0_1 p0 p1 p2 p3 q4)), .val (.int (m0_2 p0 p1 p2 p3 q4)), .val (.int (m0_3 p0 p1 p2 p3 q4)), .val (.int (p3 &&& (3 : Int32))), .val (.long (m0_8 p0 p1 p2 p3 q4)), .second, .val (.int (m0_7 p0 p1 p2 p3 q4)), .val (.int (((q4 &&& (3 : Int64)).toInt32) - (1 : Int32)))] [(.ref b91), (.ref b84), (.ref b83), (.ref b83)])) _
          refine XS.dup X91.here hx rfl (hb hby at_211) rfl rfl ?_
          show Steps p.tables e below (T91.setTop (mkF m 212 #[.val (.int p0), .val (.int p1), .val (.int p2), .val (.int p3), .val (.long q4), .second, .val (.int (m0_0 p0 p1 p2 p3 q4)), .val (.int (m0_1 p0 p1 p2 p3 q4)), .val (.int (m0_2 p0 p1 p2 p3 q4)), .val (.int (m0_3 p0 p1 p2 p3 q4)), .val (.int (p3 &&& (3 : Int32))), .val (.long (m0_8 p0 p1 p2 p3 q4)), .second, .val (.int (m0_7 p0 p1 p2 p3 q4)), .val (.int (((q4 &&& (3 : Int64)).toInt32) - (1 : Int32)))] [(.ref b91), (.ref b91), (.ref b84), (.ref b83), (.ref b83)])) _
          refine XS.iconst X91.here hx rfl (hb hby at_212) ?_
          show Steps p.tables e below (T91.setTop (mkF m 213 #[.val (.int p0), .val (.int p1), .val (.int p2), .val (.int p3), .val (.long q4), .second, .val (.int (m0_0 p0 p1 p2 p3 q4)), .val (.int (m0_1 p0 p1 p2 p3 q4)), .val (.int (m0_2 p0 p1 p2 p3 q4)), .val (.int (m0_3 p0 p1 p2 p3 q4)), .val (.int (p3 &&& (3 : Int32))), .val (.long (m0_8 p0 p1 p2 p3 q4)), .second, .val (.int (m0_7 p0 p1 p2 p3 q4)), .val (.int (((q4 &&& (3 : Int64)).toInt32) - (1 : Int32)))] [(.int (0 : Int32)), (.ref b91), (.ref b91), (.ref b84), (.ref b83), (.ref b83)])) _
          refine XS.iconst X91.here hx rfl (hb hby at_213) ?_
          show Steps p.tables e below (T91.setTop (mkF m 214 #[.val (.int p0), .val (.int p1), .val (.int p2), .val (.int p3), .val (.long q4), .second, .val (.int (m0_0 p0 p1 p2 p3 q4)), .val (.int (m0_1 p0 p1 p2 p3 q4)), .val (.int (m0_2 p0 p1 p2 p3 q4)), .val (.int (m0_3 p0 p1 p2 p3 q4)), .val (.int (p3 &&& (3 : Int32))), .val (.long (m0_8 p0 p1 p2 p3 q4)), .second, .val (.int (m0_7 p0 p1 p2 p3 q4)), .val (.int (((q4 &&& (3 : Int64)).toInt32) - (1 : Int32)))] [(.int (1 : Int32)), (.int (0 : Int32)), (.ref b91), (.ref b91), (.ref b84), (.ref b83), (.ref b83)])) _
          refine st93 _ ?_
          show Steps p.tables e below (T93.setTop (mkF m 215 #[.val (.int p0), .val (.int p1), .val (.int p2), .val (.int p3), .val (.long q4), .second, .val (.int (m0_0 p0 p1 p2 p3 q4)), .val (.int (m0_1 p0 p1 p2 p3 q4)), .val (.int (m0_2 p0 p1 p2 p3 q4)), .val (.int (m0_3 p0 p1 p2 p3 q4)), .val (.int (p3 &&& (3 : Int32))), .val (.long (m0_8 p0 p1 p2 p3 q4)), .second, .val (.int (m0_7 p0 p1 p2 p3 q4)), .val (.int (((q4 &&& (3 : Int64)).toInt32) - (1 : Int32)))] [(.ref b91), (.ref b84), (.ref b83), (.ref b83)])) _
          refine XS.dup X93.here hx rfl (hb hby at_215) rfl rfl ?_
          show Steps p.tables e below (T93.setTop (mkF m 216 #[.val (.int p0), .val (.int p1), .val (.int p2), .val (.int p3), .val (.long q4), .second, .val (.int (m0_0 p0 p1 p2 p3 q4)), .val (.int (m0_1 p0 p1 p2 p3 q4)), .val (.int (m0_2 p0 p1 p2 p3 q4)), .val (.int (m0_3 p0 p1 p2 p3 q4)), .val (.int (p3 &&& (3 : Int32))), .val (.long (m0_8 p0 p1 p2 p3 q4)), .second, .val (.int (m0_7 p0 p1 p2 p3 q4)), .val (.int (((q4 &&& (3 : Int64)).toInt32) - (1 : Int32)))] [(.ref b91), (.ref b91), (.ref b84), (.ref b83), (.ref b83)])) _
          refine XS.iconst X93.here hx rfl (hb hby at_216) ?_
          show Steps p.tables e below (T93.setTop (mkF m 217 #[.val (.int p0), .val (.int p1), .val (.int p2), .val (.int p3), .val (.long q4), .second, .val (.int (m0_0 p0 p1 p2 p3 q4)), .val (.int (m0_1 p0 p1 p2 p3 q4)), .val (.int (m0_2 p0 p1 p2 p3 q4)), .val (.int (m0_3 p0 p1 p2 p3 q4)), .val (.int (p3 &&& (3 : Int32))), .val (.long (m0_8 p0 p1 p2 p3 q4)), .second, .val (.int (m0_7 p0 p1 p2 p3 q4)), .val (.int (((q4 &&& (3 : Int64)).toInt32) - (1 : Int32)))] [(.int (1 : Int32)), (.ref b91), (.ref b91), (.ref b84), (.ref b83), (.ref b83)])) _
          refine XS.iconst X93.here hx rfl (hb hby at_217) ?_
          show Steps p.tables e below (T93.setTop (mkF m 218 #[.val (.int p0), .val (.int p1), .val (.int p2), .val (.int p3), .val (.long q4), .second, .val (.int (m0_0 p0 p1 p2 p3 q4)), .val (.int (m0_1 p0 p1 p2 p3 q4)), .val (.int (m0_2 p0 p1 p2 p3 q4)), .val (.int (m0_3 p0 p1 p2 p3 q4)), .val (.int (p3 &&& (3 : Int32))), .val (.long (m0_8 p0 p1 p2 p3 q4)), .second, .val (.int (m0_7 p0 p1 p2 p3 q4)), .val (.int (((q4 &&& (3 : Int64)).toInt32) - (1 : Int32)))] [(.int (1 : Int32)), (.int (1 : Int32)), (.ref b91), (.ref b91), (.ref b84), (.ref b83), (.ref b83)])) _
          refine st95 _ ?_
          show Steps p.tables e below (T95.setTop (mkF m 219 #[.val (.int p0), .val (.int p1), .val (.int p2), .val (.int p3), .val (.long q4), .second, .val (.int (m0_0 p0 p1 p2 p3 q4)), .val (.int (m0_1 p0 p1 p2 p3 q4)), .val (.int (m0_2 p0 p1 p2 p3 q4)), .val (.int (m0_3 p0 p1 p2 p3 q4)), .val (.int (p3 &&& (3 : Int32))), .val (.long (m0_8 p0 p1 p2 p3 q4)), .second, .val (.int (m0_7 p0 p1 p2 p3 q4)), .val (.int (((q4 &&& (3 : Int64)).toInt32) - (1 : Int32)))] [(.ref b91), (.ref b84), (.ref b83), (.ref b83)])) _
          refine XS.dup X95.here hx rfl (hb hby at_219) rfl rfl ?_
          show Steps p.tables e below (T95.setTop (mkF m 220 #[.val (.int p0), .val (.int p1), .val (.int p2), .val (.int p3), .val (.long q4), .second, .val (.int (m0_0 p0 p1 p2 p3 q4)), .val (.int (m0_1 p0 p1 p2 p3 q4)), .val (.int (m0_2 p0 p1 p2 p3 q4)), .val (.int (m0_3 p0 p1 p2 p3 q4)), .val (.int (p3 &&& (3 : Int32))), .val (.long (m0_8 p0 p1 p2 p3 q4)), .second, .val (.int (m0_7 p0 p1 p2 p3 q4)), .val (.int (((q4 &&& (3 : Int64)).toInt32) - (1 : Int32)))] [(.ref b91), (.ref b91), (.ref b84), (.ref b83), (.ref b83)])) _
          refine XS.iconst X95.here hx rfl (hb hby at_220) ?_
          show Steps p.tables e below (T95.setTop (mkF m 221 #[.val (.int p0), .val (.int p1), .val (.int p2), .val (.int p3), .val (.long q4), .second, .val (.int (m0_0 p0 p1 p2 p3 q4)), .val (.int (m0_1 p0 p1 p2 p3 q4)), .val (.int (m0_2 p0 p1 p2 p3 q4)), .val (.int (m0_3 p0 p1 p2 p3 q4)), .val (.int (p3 &&& (3 : Int32))), .val (.long (m0_8 p0 p1 p2 p3 q4)), .second, .val (.int (m0_7 p0 p1 p2 p3 q4)), .val (.int (((q4 &&& (3 : Int64)).toInt32) - (1 : Int32)))] [(.int (2 : Int32)), (.ref b91), (.ref b91), (.ref b84), (.ref b83), (.ref b83)])) _
          refine XS.iconst X95.here hx rfl (hb hby at_221) ?_
          show Steps p.tables e below (T95.setTop (mkF m 222 #[.val (.int p0), .val (.int p1), .val (.int p2), .val (.int p3), .val (.long q4), .second, .val (.int (m0_0 p0 p1 p2 p3 q4)), .val (.int (m0_1 p0 p1 p2 p3 q4)), .val (.int (m0_2 p0 p1 p2 p3 q4)), .val (.int (m0_3 p0 p1 p2 p3 q4)), .val (.int (p3 &&& (3 : Int32))), .val (.long (m0_8 p0 p1 p2 p3 q4)), .second, .val (.int (m0_7 p0 p1 p2 p3 q4)), .val (.int (((q4 &&& (3 : Int64)).toInt32) - (1 : Int32)))] [(.int (1 : Int32)), (.int (2 : Int32)), (.ref b91), (.ref b91), (.ref b84), (.ref b83), (.ref b83)])) _
          refine st97 _ ?_
          show Steps p.tables e below (T97.setTop (mkF m 223 #[.val (.int p0), .val (.int p1), .val (.int p2), .val (.int p3), .val (.long q4), .second, .val (.int (m0_0 p0 p1 p2 p3 q4)), .val (.int (m0_1 p0 p1 p2 p3 q4)), .val (.int (m0_2 p0 p1 p2 p3 q4)), .val (.int (m0_3 p0 p1 p2 p3 q4)), .val (.int (p3 &&& (3 : Int32))), .val (.long (m0_8 p0 p1 p2 p3 q4)), .second, .val (.int (m0_7 p0 p1 p2 p3 q4)), .val (.int (((q4 &&& (3 : Int64)).toInt32) - (1 : Int32)))] [(.ref b91), (.ref b84), (.ref b83), (.ref b83)])) _
          refine st98.trans ?_
          show Steps p.tables e below (T98.setTop (mkF m 226 #[.val (.int p0), .val (.int p1), .val (.int p2), .val (.int p3), .val (.long q4), .second, .val (.int (m0_0 p0 p1 p2 p3 q4)), .val (.int (m0_1 p0 p1 p2 p3 q4)), .val (.int (m0_2 p0 p1 p2 p3 q4)), .val (.int (m0_3 p0 p1 p2 p3 q4)), .val (.int (p3 &&& (3 : Int32))), .val (.long (m0_8 p0 p1 p2 p3 q4)), .second, .val (.int (m0_7 p0 p1 p2 p3 q4)), .val (.int (((q4 &&& (3 : Int64)).toInt32) - (1 : Int32)))] [(.ref b83)])) _
          refine XS.astore X98.here hx rfl (hb hby at_226) rfl rfl (l' := #[.val (.int p0), .val (.int p1), .val (.int p2), .val (.int p3), .val (.long q4), .second, .val (.int (m0_0 p0 p1 p2 p3 q4)), .val (.int (m0_1 p0 p1 p2 p3 q4)), .val (.int (m0_2 p0 p1 p2 p3 q4)), .val (.int (m0_3 p0 p1 p2 p3 q4)), .val (.int (p3 &&& (3 : Int32))), .val (.long (m0_8 p0 p1 p2 p3 q4)), .second, .val (.ref b83), .val (.int (((q4 &&& (3 : Int64)).toInt32) - (1 : Int32)))]) rfl ?_
          show Steps p.tables e below (T98.setTop (mkF m 228 #[.val (.int p0), .val (.int p1), .val (.int p2), .val (.int p3), .val (.long q4), .second, .val (.int (m0_0 p0 p1 p2 p3 q4)), .val (.int (m0_1 p0 p1 p2 p3 q4)), .val (.int (m0_2 p0 p1 p2 p3 q4)), .val (.int (m0_3 p0 p1 p2 p3 q4)), .val (.int (p3 &&& (3 : Int32))), .val (.long (m0_8 p0 p1 p2 p3 q4)), .second, .val (.ref b83), .val (.int (((q4 &&& (3 : Int64)).toInt32) - (1 : Int32)))] [])) _
          refine XS.lload X98.here hx rfl (hb hby at_228) rfl ?_
          show Steps p.tables e below (T98.setTop (mkF m 230 #[.val (.int p0), .val (.int p1), .val (.int p2), .val (.int p3), .val (.long q4), .second, .val (.int (m0_0 p0 p1 p2 p3 q4)), .val (.int (m0_1 p0 p1 p2 p3 q4)), .val (.int (m0_2 p0 p1 p2 p3 q4)), .val (.int (m0_3 p0 p1 p2 p3 q4)), .val (.int (p3 &&& (3 : Int32))), .val (.long (m0_8 p0 p1 p2 p3 q4)), .second, .val (.ref b83), .val (.int (((q4 &&& (3 : Int64)).toInt32) - (1 : Int32)))] [(.long (m0_8 p0 p1 p2 p3 q4))])) _
          refine XS.iload X98.here hx rfl (hb hby at_230) rfl ?_
          show Steps p.tables e below (T98.setTop (mkF m 232 #[.val (.int p0), .val (.int p1), .val (.int p2), .val (.int p3), .val (.long q4), .second, .val (.int (m0_0 p0 p1 p2 p3 q4)), .val (.int (m0_1 p0 p1 p2 p3 q4)), .val (.int (m0_2 p0 p1 p2 p3 q4)), .val (.int (m0_3 p0 p1 p2 p3 q4)), .val (.int (p3 &&& (3 : Int32))), .val (.long (m0_8 p0 p1 p2 p3 q4)), .second, .val (.ref b83), .val (.int (((q4 &&& (3 : Int64)).toInt32) - (1 : Int32)))] [(.int (m0_0 p0 p1 p2 p3 q4)), (.long (m0_8 p0 p1 p2 p3 q4))])) _
          refine XS.i2l X98.here hx rfl (hb hby at_232) rfl ?_
          show Steps p.tables e below (T98.setTop (mkF m 233 #[.val (.int p0), .val (.int p1), .val (.int p2), .val (.int p3), .val (.long q4), .second, .val (.int (m0_0 p0 p1 p2 p3 q4)), .val (.int (m0_1 p0 p1 p2 p3 q4)), .val (.int (m0_2 p0 p1 p2 p3 q4)), .val (.int (m0_3 p0 p1 p2 p3 q4)), .val (.int (p3 &&& (3 : Int32))), .val (.long (m0_8 p0 p1 p2 p3 q4)), .second, .val (.ref b83), .val (.int (((q4 &&& (3 : Int64)).toInt32) - (1 : Int32)))] [(.long ((m0_0 p0 p1 p2 p3 q4).toInt64)), (.long (m0_8 p0 p1 p2 p3 q4))])) _
          refine XS.lcmp X98.here hx rfl (hb hby at_233) rfl ?_
          exact kt
        refine own_back (b := T98.setTop (mkF m 288 #[.val (.int p0), .val (.int p1), .val (.int p2), .val (.int p3), .val (.long q4), .second, .val (.int (m0_0 p0 p1 p2 p3 q4)), .val (.int (m0_1 p0 p1 p2 p3 q4)), .val (.int (m0_2 p0 p1 p2 p3 q4)), .val (.int (m0_3 p0 p1 p2 p3 q4)), .val (.int (p3 &&& (3 : Int32))), .val (.long (m0_8 p0 p1 p2 p3 q4)), .second, .val (.ref b83), .val (.int (m0_11 p0 p1 p2 p3 q4))] [])) (fun t kt => ?_) ?_
        · by_cases hm234_99 : ((m0_0 p0 p1 p2 p3 q4).toInt64) < (m0_8 p0 p1 p2 p3 q4)
          · by_cases hm255_100 : ((m0_1 p0 p1 p2 p3 q4).toInt64) < (m0_8 p0 p1 p2 p3 q4)
            · by_cases hm276_101 : ((m0_2 p0 p1 p2 p3 q4).toInt64) < (m0_8 p0 p1 p2 p3 q4)
              · rw [show (m0_11 p0 p1 p2 p3 q4) = (-1 : Int32) from by unfold m0_11; rw [if_pos hm234_99, if_pos hm255_100, if_pos hm276_101]] at kt
                show Steps p.tables e below (T98.setTop (mkF m 234 #[.val (.int p0), .val (.int p1), .val (.int p2), .val (.int p3), .val (.long q4), .second, .val (.int (m0_0 p0 p1 p2 p3 q4)), .val (.int (m0_1 p0 p1 p2 p3 q4)), .val (.int (m0_2 p0 p1 p2 p3 q4)), .val (.int (m0_3 p0 p1 p2 p3 q4)), .val (.int (p3 &&& (3 : Int32))), .val (.long (m0_8 p0 p1 p2 p3 q4)), .second, .val (.ref b83), .val (.int (((q4 &&& (3 : Int64)).toInt32) - (1 : Int32)))] [(.int (lcmpW (m0_8 p0 p1 p2 p3 q4) ((m0_0 p0 p1 p2 p3 q4).toInt64)))])) _
                refine XS.ifYes X98.here hx rfl (pc0 := 234) (pc' := 243) rfl (hb hby at_234) rfl ((if0 _ _).trans (tlt ((lw_gt _ _).mpr hm234_99)).2.2.1) (by decide) (by decide) ?_
                show Steps p.tables e below (T98.setTop (mkF m 243 #[.val (.int p0), .val (.int p1), .val (.int p2), .val (.int p3), .val (.long q4), .second, .val (.int (m0_0 p0 p1 p2 p3 q4)), .val (.int (m0_1 p0 p1 p2 p3 q4)), .val (.int (m0_2 p0 p1 p2 p3 q4)), .val (.int (m0_3 p0 p1 p2 p3 q4)), .val (.int (p3 &&& (3 : Int32))), .val (.long (m0_8 p0 p1 p2 p3 q4)), .second, .val (.ref b83), .val (.int (((q4 &&& (3 : Int64)).toInt32) - (1 : Int32)))] [])) _
                refine XS.iload X98.here hx rfl (hb hby at_243) rfl ?_
                show Steps p.tables e below (T98.setTop (mkF m 245 #[.val (.int p0), .val (.int p1), .val (.int p2), .val (.int p3), .val (.long q4), .second, .val (.int (m0_0 p0 p1 p2 p3 q4)), .val (.int (m0_1 p0 p1 p2 p3 q4)), .val (.int (m0_2 p0 p1 p2 p3 q4)), .val (.int (m0_3 p0 p1 p2 p3 q4)), .val (.int (p3 &&& (3 : Int32))), .val (.long (m0_8 p0 p1 p2 p3 q4)), .second, .val (.ref b83), .val (.int (((q4 &&& (3 : Int64)).toInt32) - (1 : Int32)))] [(.int (m0_3 p0 p1 p2 p3 q4))])) _
                refine XS.iconst X98.here hx rfl (hb hby at_245) ?_
                show Steps p.tables e below (T98.setTop (mkF m 246 #[.val (.int p0), .val (.int p1), .val (.int p2), .val (.int p3), .val (.long q4), .second, .val (.int (m0_0 p0 p1 p2 p3 q4)), .val (.int (m0_1 p0 p1 p2 p3 q4)), .val (.int (m0_2 p0 p1 p2 p3 q4)), .val (.int (m0_3 p0 p1 p2 p3 q4)), .val (.int (p3 &&& (3 : Int32))), .val (.long (m0_8 p0 p1 p2 p3 q4)), .second, .val (.ref b83), .val (.int (((q4 &&& (3 : Int64)).toInt32) - (1 : Int32)))] [(.int (2 : Int32)), (.int (m0_3 p0 p1 p2 p3 q4))])) _
                refine XS.icmpNo X98.here hx rfl (hb hby at_246) rfl (flt (by rw [(own_n3 p0 p1 p2 p3 q4 hc114_54 hc147_66)]; decide)).1 ?_
                show Steps p.tables e below (T98.setTop (mkF m 249 #[.val (.int p0), .val (.int p1), .val (.int p2), .val (.int p3), .val (.long q4), .second, .val (.int (m0_0 p0 p1 p2 p3 q4)), .val (.int (m0_1 p0 p1 p2 p3 q4)), .val (.int (m0_2 p0 p1 p2 p3 q4)), .val (.int (m0_3 p0 p1 p2 p3 q4)), .val (.int (p3 &&& (3 : Int32))), .val (.long (m0_8 p0 p1 p2 p3 q4)), .second, .val (.ref b83), .val (.int (((q4 &&& (3 : Int64)).toInt32) - (1 : Int32)))] [])) _
                refine XS.lload X98.here hx rfl (hb hby at_249) rfl ?_
                show Steps p.tables e below (T98.setTop (mkF m 251 #[.val (.int p0), .val (.int p1), .val (.int p2), .val (.int p3), .val (.long q4), .second, .val (.int (m0_0 p0 p1 p2 p3 q4)), .val (.int (m0_1 p0 p1 p2 p3 q4)), .val (.int (m0_2 p0 p1 p2 p3 q4)), .val (.int (m0_3 p0 p1 p2 p3 q4)), .val (.int (p3 &&& (3 : Int32))), .val (.long (m0_8 p0 p1 p2 p3 q4)), .second, .val (.ref b83), .val (.int (((q4 &&& (3 : Int64)).toInt32) - (1 : Int32)))] [(.long (m0_8 p0 p1 p2 p3 q4))])) _
                refine XS.iload X98.here hx rfl (hb hby at_251) rfl ?_
                show Steps p.tables e below (T98.setTop (mkF m 253 #[.val (.int p0), .val (.int p1), .val (.int p2), .val (.int p3), .val (.long q4), .second, .val (.int (m0_0 p0 p1 p2 p3 q4)), .val (.int (m0_1 p0 p1 p2 p3 q4)), .val (.int (m0_2 p0 p1 p2 p3 q4)), .val (.int (m0_3 p0 p1 p2 p3 q4)), .val (.int (p3 &&& (3 : Int32))), .val (.long (m0_8 p0 p1 p2 p3 q4)), .second, .val (.ref b83), .val (.int (((q4 &&& (3 : Int64)).toInt32) - (1 : Int32)))] [(.int (m0_1 p0 p1 p2 p3 q4)), (.long (m0_8 p0 p1 p2 p3 q4))])) _
                refine XS.i2l X98.here hx rfl (hb hby at_253) rfl ?_
                show Steps p.tables e below (T98.setTop (mkF m 254 #[.val (.int p0), .val (.int p1), .val (.int p2), .val (.int p3), .val (.long q4), .second, .val (.int (m0_0 p0 p1 p2 p3 q4)), .val (.int (m0_1 p0 p1 p2 p3 q4)), .val (.int (m0_2 p0 p1 p2 p3 q4)), .val (.int (m0_3 p0 p1 p2 p3 q4)), .val (.int (p3 &&& (3 : Int32))), .val (.long (m0_8 p0 p1 p2 p3 q4)), .second, .val (.ref b83), .val (.int (((q4 &&& (3 : Int64)).toInt32) - (1 : Int32)))] [(.long ((m0_1 p0 p1 p2 p3 q4).toInt64)), (.long (m0_8 p0 p1 p2 p3 q4))])) _
                refine XS.lcmp X98.here hx rfl (hb hby at_254) rfl ?_
                show Steps p.tables e below (T98.setTop (mkF m 255 #[.val (.int p0), .val (.int p1), .val (.int p2), .val (.int p3), .val (.long q4), .second, .val (.int (m0_0 p0 p1 p2 p3 q4)), .val (.int (m0_1 p0 p1 p2 p3 q4)), .val (.int (m0_2 p0 p1 p2 p3 q4)), .val (.int (m0_3 p0 p1 p2 p3 q4)), .val (.int (p3 &&& (3 : Int32))), .val (.long (m0_8 p0 p1 p2 p3 q4)), .second, .val (.ref b83), .val (.int (((q4 &&& (3 : Int64)).toInt32) - (1 : Int32)))] [(.int (lcmpW (m0_8 p0 p1 p2 p3 q4) ((m0_1 p0 p1 p2 p3 q4).toInt64)))])) _
                refine XS.ifYes X98.here hx rfl (pc0 := 255) (pc' := 264) rfl (hb hby at_255) rfl ((if0 _ _).trans (tlt ((lw_gt _ _).mpr hm255_100)).2.2.1) (by decide) (by decide) ?_
                show Steps p.tables e below (T98.setTop (mkF m 264 #[.val (.int p0), .val (.int p1), .val (.int p2), .val (.int p3), .val (.long q4), .second, .val (.int (m0_0 p0 p1 p2 p3 q4)), .val (.int (m0_1 p0 p1 p2 p3 q4)), .val (.int (m0_2 p0 p1 p2 p3 q4)), .val (.int (m0_3 p0 p1 p2 p3 q4)), .val (.int (p3 &&& (3 : Int32))), .val (.long (m0_8 p0 p1 p2 p3 q4)), .second, .val (.ref b83), .val (.int (((q4 &&& (3 : Int64)).toInt32) - (1 : Int32)))] [])) _
                refine XS.iload X98.here hx rfl (hb hby at_264) rfl ?_
                show Steps p.tables e below (T98.setTop (mkF m 266 #[.val (.int p0), .val (.int p1), .val (.int p2), .val (.int p3), .val (.long q4), .second, .val (.int (m0_0 p0 p1 p2 p3 q4)), .val (.int (m0_1 p0 p1 p2 p3 q4)), .val (.int (m0_2 p0 p1 p2 p3 q4)), .val (.int (m0_3 p0 p1 p2 p3 q4)), .val (.int (p3 &&& (3 : Int32))), .val (.long (m0_8 p0 p1 p2 p3 q4)), .second, .val (.ref b83), .val (.int (((q4 &&& (3 : Int64)).toInt32) - (1 : Int32)))] [(.int (m0_3 p0 p1 p2 p3 q4))])) _
                refine XS.iconst X98.here hx rfl (hb hby at_266) ?_
                show Steps p.tables e below (T98.setTop (mkF m 267 #[.val (.int p0), .val (.int p1), .val (.int p2), .val (.int p3), .val (.long q4), .second, .val (.int (m0_0 p0 p1 p2 p3 q4)), .val (.int (m0_1 p0 p1 p2 p3 q4)), .val (.int (m0_2 p0 p1 p2 p3 q4)), .val (.int (m0_3 p0 p1 p2 p3 q4)), .val (.int (p3 &&& (3 : Int32))), .val (.long (m0_8 p0 p1 p2 p3 q4)), .second, .val (.ref b83), .val (.int (((q4 &&& (3 : Int64)).toInt32) - (1 : Int32)))] [(.int (3 : Int32)), (.int (m0_3 p0 p1 p2 p3 q4))])) _
                refine XS.icmpNo X98.here hx rfl (hb hby at_267) rfl (flt (by rw [(own_n3 p0 p1 p2 p3 q4 hc114_54 hc147_66)]; decide)).1 ?_
                show Steps p.tables e below (T98.setTop (mkF m 270 #[.val (.int p0), .val (.int p1), .val (.int p2), .val (.int p3), .val (.long q4), .second, .val (.int (m0_0 p0 p1 p2 p3 q4)), .val (.int (m0_1 p0 p1 p2 p3 q4)), .val (.int (m0_2 p0 p1 p2 p3 q4)), .val (.int (m0_3 p0 p1 p2 p3 q4)), .val (.int (p3 &&& (3 : Int32))), .val (.long (m0_8 p0 p1 p2 p3 q4)), .second, .val (.ref b83), .val (.int (((q4 &&& (3 : Int64)).toInt32) - (1 : Int32)))] [])) _
                refine XS.lload X98.here hx rfl (hb hby at_270) rfl ?_
                show Steps p.tables e below (T98.setTop (mkF m 272 #[.val (.int p0), .val (.int p1), .val (.int p2), .val (.int p3), .val (.long q4), .second, .val (.int (m0_0 p0 p1 p2 p3 q4)), .val (.int (m0_1 p0 p1 p2 p3 q4)), .val (.int (m0_2 p0 p1 p2 p3 q4)), .val (.int (m0_3 p0 p1 p2 p3 q4)), .val (.int (p3 &&& (3 : Int32))), .val (.long (m0_8 p0 p1 p2 p3 q4)), .second, .val (.ref b83), .val (.int (((q4 &&& (3 : Int64)).toInt32) - (1 : Int32)))] [(.long (m0_8 p0 p1 p2 p3 q4))])) _
                refine XS.iload X98.here hx rfl (hb hby at_272) rfl ?_
                show Steps p.tables e below (T98.setTop (mkF m 274 #[.val (.int p0), .val (.int p1), .val (.int p2), .val (.int p3), .val (.long q4), .second, .val (.int (m0_0 p0 p1 p2 p3 q4)), .val (.int (m0_1 p0 p1 p2 p3 q4)), .val (.int (m0_2 p0 p1 p2 p3 q4)), .val (.int (m0_3 p0 p1 p2 p3 q4)), .val (.int (p3 &&& (3 : Int32))), .val (.long (m0_8 p0 p1 p2 p3 q4)), .second, .val (.ref b83), .val (.int (((q4 &&& (3 : Int64)).toInt32) - (1 : Int32)))] [(.int (m0_2 p0 p1 p2 p3 q4)), (.long (m0_8 p0 p1 p2 p3 q4))])) _
                refine XS.i2l X98.here hx rfl (hb hby at_274) rfl ?_
                show Steps p.tables e below (T98.setTop (mkF m 275 #[.val (.int p0), .val (.int p1), .val (.int p2), .val (.int p3), .val (.long q4), .second, .val (.int (m0_0 p0 p1 p2 p3 q4)), .val (.int (m0_1 p0 p1 p2 p3 q4)), .val (.int (m0_2 p0 p1 p2 p3 q4)), .val (.int (m0_3 p0 p1 p2 p3 q4)), .val (.int (p3 &&& (3 : Int32))), .val (.long (m0_8 p0 p1 p2 p3 q4)), .second, .val (.ref b83), .val (.int (((q4 &&& (3 : Int64)).toInt32) - (1 : Int32)))] [(.long ((m0_2 p0 p1 p2 p3 q4).toInt64)), (.long (m0_8 p0 p1 p2 p3 q4))])) _
                refine XS.lcmp X98.here hx rfl (hb hby at_275) rfl ?_
                show Steps p.tables e below (T98.setTop (mkF m 276 #[.val (.int p0), .val (.int p1), .val (.int p2), .val (.int p3), .val (.long q4), .second, .val (.int (m0_0 p0 p1 p2 p3 q4)), .val (.int (m0_1 p0 p1 p2 p3 q4)), .val (.int (m0_2 p0 p1 p2 p3 q4)), .val (.int (m0_3 p0 p1 p2 p3 q4)), .val (.int (p3 &&& (3 : Int32))), .val (.long (m0_8 p0 p1 p2 p3 q4)), .second, .val (.ref b83), .val (.int (((q4 &&& (3 : Int64)).toInt32) - (1 : Int32)))] [(.int (lcmpW (m0_8 p0 p1 p2 p3 q4) ((m0_2 p0 p1 p2 p3 q4).toInt64)))])) _
                refine XS.ifYes X98.here hx rfl (pc0 := 276) (pc' := 285) rfl (hb hby at_276) rfl ((if0 _ _).trans (tlt ((lw_gt _ _).mpr hm276_101)).2.2.1) (by decide) (by decide) ?_
                show Steps p.tables e below (T98.setTop (mkF m 285 #[.val (.int p0), .val (.int p1), .val (.int p2), .val (.int p3), .val (.long q4), .second, .val (.int (m0_0 p0 p1 p2 p3 q4)), .val (.int (m0_1 p0 p1 p2 p3 q4)), .val (.int (m0_2 p0 p1 p2 p3 q4)), .val (.int (m0_3 p0 p1 p2 p3 q4)), .val (.int (p3 &&& (3 : Int32))), .val (.long (m0_8 p0 p1 p2 p3 q4)), .second, .val (.ref b83), .val (.int (((q4 &&& (3 : Int64)).toInt32) - (1 : Int32)))] [])) _
                refine XS.iconst X98.here hx rfl (hb hby at_285) ?_
                show Steps p.tables e below (T98.setTop (mkF m 286 #[.val (.int p0), .val (.int p1), .val (.int p2), .val (.int p3), .val (.long q4), .second, .val (.int (m0_0 p0 p1 p2 p3 q4)), .val (.int (m0_1 p0 p1 p2 p3 q4)), .val (.int (m0_2 p0 p1 p2 p3 q4)), .val (.int (m0_3 p0 p1 p2 p3 q4)), .val (.int (p3 &&& (3 : Int32))), .val (.long (m0_8 p0 p1 p2 p3 q4)), .second, .val (.ref b83), .val (.int (((q4 &&& (3 : Int64)).toInt32) - (1 : Int32)))] [(.int (-1 : Int32))])) _
                refine XS.istore X98.here hx rfl (hb hby at_286) rfl (l' := #[.val (.int p0), .val (.int p1), .val (.int p2), .val (.int p3), .val (.long q4), .second, .val (.int (m0_0 p0 p1 p2 p3 q4)), .val (.int (m0_1 p0 p1 p2 p3 q4)), .val (.int (m0_2 p0 p1 p2 p3 q4)), .val (.int (m0_3 p0 p1 p2 p3 q4)), .val (.int (p3 &&& (3 : Int32))), .val (.long (m0_8 p0 p1 p2 p3 q4)), .second, .val (.ref b83), .val (.int (-1 : Int32))]) rfl ?_
                exact kt
              · rw [show (m0_11 p0 p1 p2 p3 q4) = (2 : Int32) from by unfold m0_11; rw [if_pos hm234_99, if_pos hm255_100, if_neg hm276_101]] at kt
                show Steps p.tables e below (T98.setTop (mkF m 234 #[.val (.int p0), .val (.int p1), .val (.int p2), .val (.int p3), .val (.long q4), .second, .val (.int (m0_0 p0 p1 p2 p3 q4)), .val (.int (m0_1 p0 p1 p2 p3 q4)), .val (.int (m0_2 p0 p1 p2 p3 q4)), .val (.int (m0_3 p0 p1 p2 p3 q4)), .val (.int (p3 &&& (3 : Int32))), .val (.long (m0_8 p0 p1 p2 p3 q4)), .second, .val (.ref b83), .val (.int (((q4 &&& (3 : Int64)).toInt32) - (1 : Int32)))] [(.int (lcmpW (m0_8 p0 p1 p2 p3 q4) ((m0_0 p0 p1 p2 p3 q4).toInt64)))])) _
                refine XS.ifYes X98.here hx rfl (pc0 := 234) (pc' := 243) rfl (hb hby at_234) rfl ((if0 _ _).trans (tlt ((lw_gt _ _).mpr hm234_99)).2.2.1) (by decide) (by decide) ?_
                show Steps p.tables e below (T98.setTop (mkF m 243 #[.val (.int p0), .val (.int p1), .val (.int p2), .val (.int p3), .val (.long q4), .second, .val (.int (m0_0 p0 p1 p2 p3 q4)), .val (.int (m0_1 p0 p1 p2 p3 q4)), .val (.int (m0_2 p0 p1 p2 p3 q4)), .val (.int (m0_3 p0 p1 p2 p3 q4)), .val (.int (p3 &&& (3 : Int32))), .val (.long (m0_8 p0 p1 p2 p3 q4)), .second, .val (.ref b83), .val (.int (((q4 &&& (3 : Int64)).toInt32) - (1 : Int32)))] [])) _
                refine XS.iload X98.here hx rfl (hb hby at_243) rfl ?_
                show Steps p.tables e below (T98.setTop (mkF m 245 #[.val (.int p0), .val (.int p1), .val (.int p2), .val (.int p3), .val (.long q4), .second, .val (.int (m0_0 p0 p1 p2 p3 q4)), .val (.int (m0_1 p0 p1 p2 p3 q4)), .val (.int (m0_2 p0 p1 p2 p3 q4)), .val (.int (m0_3 p0 p1 p2 p3 q4)), .val (.int (p3 &&& (3 : Int32))), .val (.long (m0_8 p0 p1 p2 p3 q4)), .second, .val (.ref b83), .val (.int (((q4 &&& (3 : Int64)).toInt32) - (1 : Int32)))] [(.int (m0_3 p0 p1 p2 p3 q4))])) _
                refine XS.iconst X98.here hx rfl (hb hby at_245) ?_
                show Steps p.tables e below (T98.setTop (mkF m 246 #[.val (.int p0), .val (.int p1), .val (.int p2), .val (.int p3), .val (.long q4), .second, .val (.int (m0_0 p0 p1 p2 p3 q4)), .val (.int (m0_1 p0 p1 p2 p3 q4)), .val (.int (m0_2 p0 p1 p2 p3 q4)), .val (.int (m0_3 p0 p1 p2 p3 q4)), .val (.int (p3 &&& (3 : Int32))), .val (.long (m0_8 p0 p1 p2 p3 q4)), .second, .val (.ref b83), .val (.int (((q4 &&& (3 : Int64)).toInt32) - (1 : Int32)))] [(.int (2 : Int32)), (.int (m0_3 p0 p1 p2 p3 q4))])) _
                refine XS.icmpNo X98.here hx rfl (hb hby at_246) rfl (flt (by rw [(own_n3 p0 p1 p2 p3 q4 hc114_54 hc147_66)]; decide)).1 ?_
                show Steps p.tables e below (T98.setTop (mkF m 249 #[.val (.int p0), .val (.int p1), .val (.int p2), .val (.int p3), .val (.long q4), .second, .val (.int (m0_0 p0 p1 p2 p3 q4)), .val (.int (m0_1 p0 p1 p2 p3 q4)), .val (.int (m0_2 p0 p1 p2 p3 q4)), .val (.int (m0_3 p0 p1 p2 p3 q4)), .val (.int (p3 &&& (3 : Int32))), .val (.long (m0_8 p0 p1 p2 p3 q4)), .second, .val (.ref b83), .val (.int (((q4 &&& (3 : Int64)).toInt32) - (1 : Int32)))] [])) _
                refine XS.lload X98.here hx rfl (hb hby at_249) rfl ?_
                show Steps p.tables e below (T98.setTop (mkF m 251 #[.val (.int p0), .val (.int p1), .val (.int p2), .val (.int p3), .val (.long q4), .second, .val (.int (m0_0 p0 p1 p2 p3 q4)), .val (.int (m0_1 p0 p1 p2 p3 q4)), .val (.int (m0_2 p0 p1 p2 p3 q4)), .val (.int (m0_3 p0 p1 p2 p3 q4)), .val (.int (p3 &&& (3 : Int32))), .val (.long (m0_8 p0 p1 p2 p3 q4)), .second, .val (.ref b83), .val (.int (((q4 &&& (3 : Int64)).toInt32) - (1 : Int32)))] [(.long (m0_8 p0 p1 p2 p3 q4))])) _
                refine XS.iload X98.here hx rfl (hb hby at_251) rfl ?_
                show Steps p.tables e below (T98.setTop (mkF m 253 #[.val (.int p0), .val (.int p1), .val (.int p2), .val (.int p3), .val (.long q4), .second, .val (.int (m0_0 p0 p1 p2 p3 q4)), .val (.int (m0_1 p0 p1 p2 p3 q4)), .val (.int (m0_2 p0 p1 p2 p3 q4)), .val (.int (m0_3 p0 p1 p2 p3 q4)), .val (.int (p3 &&& (3 : Int32))), .val (.long (m0_8 p0 p1 p2 p3 q4)), .second, .val (.ref b83), .val (.int (((q4 &&& (3 : Int64)).toInt32) - (1 : Int32)))] [(.int (m0_1 p0 p1 p2 p3 q4)), (.long (m0_8 p0 p1 p2 p3 q4))])) _
                refine XS.i2l X98.here hx rfl (hb hby at_253) rfl ?_
                show Steps p.tables e below (T98.setTop (mkF m 254 #[.val (.int p0), .val (.int p1), .val (.int p2), .val (.int p3), .val (.long q4), .second, .val (.int (m0_0 p0 p1 p2 p3 q4)), .val (.int (m0_1 p0 p1 p2 p3 q4)), .val (.int (m0_2 p0 p1 p2 p3 q4)), .val (.int (m0_3 p0 p1 p2 p3 q4)), .val (.int (p3 &&& (3 : Int32))), .val (.long (m0_8 p0 p1 p2 p3 q4)), .second, .val (.ref b83), .val (.int (((q4 &&& (3 : Int64)).toInt32) - (1 : Int32)))] [(.long ((m0_1 p0 p1 p2 p3 q4).toInt64)), (.long (m0_8 p0 p1 p2 p3 q4))])) _
                refine XS.lcmp X98.here hx rfl (hb hby at_254) rfl ?_
                show Steps p.tables e below (T98.setTop (mkF m 255 #[.val (.int p0), .val (.int p1), .val (.int p2), .val (.int p3), .val (.long q4), .second, .val (.int (m0_0 p0 p1 p2 p3 q4)), .val (.int (m0_1 p0 p1 p2 p3 q4)), .val (.int (m0_2 p0 p1 p2 p3 q4)), .val (.int (m0_3 p0 p1 p2 p3 q4)), .val (.int (p3 &&& (3 : Int32))), .val (.long (m0_8 p0 p1 p2 p3 q4)), .second, .val (.ref b83), .val (.int (((q4 &&& (3 : Int64)).toInt32) - (1 : Int32)))] [(.int (lcmpW (m0_8 p0 p1 p2 p3 q4) ((m0_1 p0 p1 p2 p3 q4).toInt64)))])) _
                refine XS.ifYes X98.here hx rfl (pc0 := 255) (pc' := 264) rfl (hb hby at_255) rfl ((if0 _ _).trans (tlt ((lw_gt _ _).mpr hm255_100)).2.2.1) (by decide) (by decide) ?_
                show Steps p.tables e below (T98.setTop (mkF m 264 #[.val (.int p0), .val (.int p1), .val (.int p2), .val (.int p3), .val (.long q4), .second, .val (.int (m0_0 p0 p1 p2 p3 q4)), .val (.int (m0_1 p0 p1 p2 p3 q4)), .val (.int (m0_2 p0 p1 p2 p3 q4)), .val (.int (m0_3 p0 p1 p2 p3 q4)), .val (.int (p3 &&& (3 : Int32))), .val (.long (m0_8 p0 p1 p2 p3 q4)), .second, .val (.ref b83), .val (.int (((q4 &&& (3 : Int64)).toInt32) - (1 : Int32)))] [])) _
                refine XS.iload X98.here hx rfl (hb hby at_264) rfl ?_
                show Steps p.tables e below (T98.setTop (mkF m 266 #[.val (.int p0), .val (.int p1), .val (.int p2), .val (.int p3), .val (.long q4), .second, .val (.int (m0_0 p0 p1 p2 p3 q4)), .val (.int (m0_1 p0 p1 p2 p3 q4)), .val (.int (m0_2 p0 p1 p2 p3 q4)), .val (.int (m0_3 p0 p1 p2 p3 q4)), .val (.int (p3 &&& (3 : Int32))), .val (.long (m0_8 p0 p1 p2 p3 q4)), .second, .val (.ref b83), .val (.int (((q4 &&& (3 : Int64)).toInt32) - (1 : Int32)))] [(.int (m0_3 p0 p1 p2 p3 q4))])) _
                refine XS.iconst X98.here hx rfl (hb hby at_266) ?_
                show Steps p.tables e below (T98.setTop (mkF m 267 #[.val (.int p0), .val (.int p1), .val (.int p2), .val (.int p3), .val (.long q4), .second, .val (.int (m0_0 p0 p1 p2 p3 q4)), .val (.int (m0_1 p0 p1 p2 p3 q4)), .val (.int (m0_2 p0 p1 p2 p3 q4)), .val (.int (m0_3 p0 p1 p2 p3 q4)), .val (.int (p3 &&& (3 : Int32))), .val (.long (m0_8 p0 p1 p2 p3 q4)), .second, .val (.ref b83), .val (.int (((q4 &&& (3 : Int64)).toInt32) - (1 : Int32)))] [(.int (3 : Int32)), (.int (m0_3 p0 p1 p2 p3 q4))])) _
                refine XS.icmpNo X98.here hx rfl (hb hby at_267) rfl (flt (by rw [(own_n3 p0 p1 p2 p3 q4 hc114_54 hc147_66)]; decide)).1 ?_
                show Steps p.tables e below (T98.setTop (mkF m 270 #[.val (.int p0), .val (.int p1), .val (.int p2), .val (.int p3), .val (.long q4), .second, .val (.int (m0_0 p0 p1 p2 p3 q4)), .val (.int (m0_1 p0 p1 p2 p3 q4)), .val (.int (m0_2 p0 p1 p2 p3 q4)), .val (.int (m0_3 p0 p1 p2 p3 q4)), .val (.int (p3 &&& (3 : Int32))), .val (.long (m0_8 p0 p1 p2 p3 q4)), .second, .val (.ref b83), .val (.int (((q4 &&& (3 : Int64)).toInt32) - (1 : Int32)))] [])) _
                refine XS.lload X98.here hx rfl (hb hby at_270) rfl ?_
                show Steps p.tables e below (T98.setTop (mkF m 272 #[.val (.int p0), .val (.int p1), .val (.int p2), .val (.int p3), .val (.long q4), .second, .val (.int (m0_0 p0 p1 p2 p3 q4)), .val (.int (m0_1 p0 p1 p2 p3 q4)), .val (.int (m0_2 p0 p1 p2 p3 q4)), .val (.int (m0_3 p0 p1 p2 p3 q4)), .val (.int (p3 &&& (3 : Int32))), .val (.long (m0_8 p0 p1 p2 p3 q4)), .second, .val (.ref b83), .val (.int (((q4 &&& (3 : Int64)).toInt32) - (1 : Int32)))] [(.long (m0_8 p0 p1 p2 p3 q4))])) _
                refine XS.iload X98.here hx rfl (hb hby at_272) rfl ?_
                show Steps p.tables e below (T98.setTop (mkF m 274 #[.val (.int p0), .val (.int p1), .val (.int p2), .val (.int p3), .val (.long q4), .second, .val (.int (m0_0 p0 p1 p2 p3 q4)), .val (.int (m0_1 p0 p1 p2 p3 q4)), .val (.int (m0_2 p0 p1 p2 p3 q4)), .val (.int (m0_3 p0 p1 p2 p3 q4)), .val (.int (p3 &&& (3 : Int32))), .val (.long (m0_8 p0 p1 p2 p3 q4)), .second, .val (.ref b83), .val (.int (((q4 &&& (3 : Int64)).toInt32) - (1 : Int32)))] [(.int (m0_2 p0 p1 p2 p3 q4)), (.long (m0_8 p0 p1 p2 p3 q4))])) _
                refine XS.i2l X98.here hx rfl (hb hby at_274) rfl ?_
                show Steps p.tables e below (T98.setTop (mkF m 275 #[.val (.int p0), .val (.int p1), .val (.int p2), .val (.int p3), .val (.long q4), .second, .val (.int (m0_0 p0 p1 p2 p3 q4)), .val (.int (m0_1 p0 p1 p2 p3 q4)), .val (.int (m0_2 p0 p1 p2 p3 q4)), .val (.int (m0_3 p0 p1 p2 p3 q4)), .val (.int (p3 &&& (3 : Int32))), .val (.long (m0_8 p0 p1 p2 p3 q4)), .second, .val (.ref b83), .val (.int (((q4 &&& (3 : Int64)).toInt32) - (1 : Int32)))] [(.long ((m0_2 p0 p1 p2 p3 q4).toInt64)), (.long (m0_8 p0 p1 p2 p3 q4))])) _
                refine XS.lcmp X98.here hx rfl (hb hby at_275) rfl ?_
                show Steps p.tables e below (T98.setTop (mkF m 276 #[.val (.int p0), .val (.int p1), .val (.int p2), .val (.int p3), .val (.long q4), .second, .val (.int (m0_0 p0 p1 p2 p3 q4)), .val (.int (m0_1 p0 p1 p2 p3 q4)), .val (.int (m0_2 p0 p1 p2 p3 q4)), .val (.int (m0_3 p0 p1 p2 p3 q4)), .val (.int (p3 &&& (3 : Int32))), .val (.long (m0_8 p0 p1 p2 p3 q4)), .second, .val (.ref b83), .val (.int (((q4 &&& (3 : Int64)).toInt32) - (1 : Int32)))] [(.int (lcmpW (m0_8 p0 p1 p2 p3 q4) ((m0_2 p0 p1 p2 p3 q4).toInt64)))])) _
                refine XS.ifNo X98.here hx rfl (hb hby at_276) rfl ((if0 _ _).trans (flt (fun q => hm276_101 ((lw_gt _ _).mp q))).2.2.1) ?_
                show Steps p.tables e below (T98.setTop (mkF m 279 #[.val (.int p0), .val (.int p1), .val (.int p2), .val (.int p3), .val (.long q4), .second, .val (.int (m0_0 p0 p1 p2 p3 q4)), .val (.int (m0_1 p0 p1 p2 p3 q4)), .val (.int (m0_2 p0 p1 p2 p3 q4)), .val (.int (m0_3 p0 p1 p2 p3 q4)), .val (.int (p3 &&& (3 : Int32))), .val (.long (m0_8 p0 p1 p2 p3 q4)), .second, .val (.ref b83), .val (.int (((q4 &&& (3 : Int64)).toInt32) - (1 : Int32)))] [])) _
                refine XS.iconst X98.here hx rfl (hb hby at_279) ?_
                show Steps p.tables e below (T98.setTop (mkF m 280 #[.val (.int p0), .val (.int p1), .val (.int p2), .val (.int p3), .val (.long q4), .second, .val (.int (m0_0 p0 p1 p2 p3 q4)), .val (.int (m0_1 p0 p1 p2 p3 q4)), .val (.int (m0_2 p0 p1 p2 p3 q4)), .val (.int (m0_3 p0 p1 p2 p3 q4)), .val (.int (p3 &&& (3 : Int32))), .val (.long (m0_8 p0 p1 p2 p3 q4)), .second, .val (.ref b83), .val (.int (((q4 &&& (3 : Int64)).toInt32) - (1 : Int32)))] [(.int (2 : Int32))])) _
                refine XS.istore X98.here hx rfl (hb hby at_280) rfl (l' := #[.val (.int p0), .val (.int p1), .val (.int p2), .val (.int p3), .val (.long q4), .second, .val (.int (m0_0 p0 p1 p2 p3 q4)), .val (.int (m0_1 p0 p1 p2 p3 q4)), .val (.int (m0_2 p0 p1 p2 p3 q4)), .val (.int (m0_3 p0 p1 p2 p3 q4)), .val (.int (p3 &&& (3 : Int32))), .val (.long (m0_8 p0 p1 p2 p3 q4)), .second, .val (.ref b83), .val (.int (2 : Int32))]) rfl ?_
                show Steps p.tables e below (T98.setTop (mkF m 282 #[.val (.int p0), .val (.int p1), .val (.int p2), .val (.int p3), .val (.long q4), .second, .val (.int (m0_0 p0 p1 p2 p3 q4)), .val (.int (m0_1 p0 p1 p2 p3 q4)), .val (.int (m0_2 p0 p1 p2 p3 q4)), .val (.int (m0_3 p0 p1 p2 p3 q4)), .val (.int (p3 &&& (3 : Int32))), .val (.long (m0_8 p0 p1 p2 p3 q4)), .second, .val (.ref b83), .val (.int (2 : Int32))] [])) _
                refine XS.goto X98.here hx rfl (pc0 := 282) (pc' := 288) rfl (hb hby at_282) (by decide) (by decide) ?_
                exact kt
            · rw [show (m0_11 p0 p1 p2 p3 q4) = (1 : Int32) from by unfold m0_11; rw [if_pos hm234_99, if_neg hm255_100]] at kt
              show Steps p.tables e below (T98.setTop (mkF m 234 #[.val (.int p0), .val (.int p1), .val (.int p2), .val (.int p3), .val (.long q4), .second, .val (.int (m0_0 p0 p1 p2 p3 q4)), .val (.int (m0_1 p0 p1 p2 p3 q4)), .val (.int (m0_2 p0 p1 p2 p3 q4)), .val (.int (m0_3 p0 p1 p2 p3 q4)), .val (.int (p3 &&& (3 : Int32))), .val (.long (m0_8 p0 p1 p2 p3 q4)), .second, .val (.ref b83), .val (.int (((q4 &&& (3 : Int64)).toInt32) - (1 : Int32)))] [(.int (lcmpW (m0_8 p0 p1 p2 p3 q4) ((m0_0 p0 p1 p2 p3 q4).toInt64)))])) _
              refine XS.ifYes X98.here hx rfl (pc0 := 234) (pc' := 243) rfl (hb hby at_234) rfl ((if0 _ _).trans (tlt ((lw_gt _ _).mpr hm234_99)).2.2.1) (by decide) (by decide) ?_
              show Steps p.tables e below (T98.setTop (mkF m 243 #[.val (.int p0), .val (.int p1), .val (.int p2), .val (.int p3), .val (.long q4), .second, .val (.int (m0_0 p0 p1 p2 p3 q4)), .val (.int (m0_1 p0 p1 p2 p3 q4)), .val (.int (m0_2 p0 p1 p2 p3 q4)), .val (.int (m0_3 p0 p1 p2 p3 q4)), .val (.int (p3 &&& (3 : Int32))), .val (.long (m0_8 p0 p1 p2 p3 q4)), .second, .val (.ref b83), .val (.int (((q4 &&& (3 : Int64)).toInt32) - (1 : Int32)))] [])) _
              refine XS.iload X98.here hx rfl (hb hby at_243) rfl ?_
              show Steps p.tables e below (T98.setTop (mkF m 245 #[.val (.int p0), .val (.int p1), .val (.int p2), .val (.int p3), .val (.long q4), .second, .val (.int (m0_0 p0 p1 p2 p3 q4)), .val (.int (m0_1 p0 p1 p2 p3 q4)), .val (.int (m0_2 p0 p1 p2 p3 q4)), .val (.int (m0_3 p0 p1 p2 p3 q4)), .val (.int (p3 &&& (3 : Int32))), .val (.long (m0_8 p0 p1 p2 p3 q4)), .second, .val (.ref b83), .val (.int (((q4 &&& (3 : Int64)).toInt32) - (1 : Int32)))] [(.int (m0_3 p0 p1 p2 p3 q4))])) _
              refine XS.iconst X98.here hx rfl (hb hby at_245) ?_
              show Steps p.tables e below (T98.setTop (mkF m 246 #[.val (.int p0), .val (.int p1), .val (.int p2), .val (.int p3), .val (.long q4), .second, .val (.int (m0_0 p0 p1 p2 p3 q4)), .val (.int (m0_1 p0 p1 p2 p3 q4)), .val (.int (m0_2 p0 p1 p2 p3 q4)), .val (.int (m0_3 p0 p1 p2 p3 q4)), .val (.int (p3 &&& (3 : Int32))), .val (.long (m0_8 p0 p1 p2 p3 q4)), .second, .val (.ref b83), .val (.int (((q4 &&& (3 : Int64)).toInt32) - (1 : Int32)))] [(.int (2 : Int32)), (.int (m0_3 p0 p1 p2 p3 q4))])) _
              refine XS.icmpNo X98.here hx rfl (hb hby at_246) rfl (flt (by rw [(own_n3 p0 p1 p2 p3 q4 hc114_54 hc147_66)]; decide)).1 ?_
              show Steps p.tables e below (T98.setTop (mkF m 249 #[.val (.int p0), .val (.int p1), .val (.int p2), .val (.int p3), .val (.long q4), .second, .val (.int (m0_0 p0 p1 p2 p3 q4)), .val (.int (m0_1 p0 p1 p2 p3 q4)), .val (.int (m0_2 p0 p1 p2 p3 q4)), .val (.int (m0_3 p0 p1 p2 p3 q4)), .val (.int (p3 &&& (3 : Int32))), .val (.long (m0_8 p0 p1 p2 p3 q4)), .second, .val (.ref b83), .val (.int (((q4 &&& (3 : Int64)).toInt32) - (1 : Int32)))] [])) _
              refine XS.lload X98.here hx rfl (hb hby at_249) rfl ?_
              show Steps p.tables e below (T98.setTop (mkF m 251 #[.val (.int p0), .val (.int p1), .val (.int p2), .val (.int p3), .val (.long q4), .second, .val (.int (m0_0 p0 p1 p2 p3 q4)), .val (.int (m0_1 p0 p1 p2 p3 q4)), .val (.int (m0_2 p0 p1 p2 p3 q4)), .val (.int (m0_3 p0 p1 p2 p3 q4)), .val (.int (p3 &&& (3 : Int32))), .val (.long (m0_8 p0 p1 p2 p3 q4)), .second, .val (.ref b83), .val (.int (((q4 &&& (3 : Int64)).toInt32) - (1 : Int32)))] [(.long (m0_8 p0 p1 p2 p3 q4))])) _
              refine XS.iload X98.here hx rfl (hb hby at_251) rfl ?_
              show Steps p.tables e below (T98.setTop (mkF m 253 #[.val (.int p0), .val (.int p1), .val (.int p2), .val (.int p3), .val (.long q4), .second, .val (.int (m0_0 p0 p1 p2 p3 q4)), .val (.int (m0_1 p0 p1 p2 p3 q4)), .val (.int (m0_2 p0 p1 p2 p3 q4)), .val (.int (m0_3 p0 p1 p2 p3 q4)), .val (.int (p3 &&& (3 : Int32))), .val (.long (m0_8 p0 p1 p2 p3 q4)), .second, .val (.ref b83), .val (.int (((q4 &&& (3 : Int64)).toInt32) - (1 : Int32)))] [(.int (m0_1 p0 p1 p2 p3 q4)), (.long (m0_8 p0 p1 p2 p3 q4))])) _
              refine XS.i2l X98.here hx rfl (hb hby at_253) rfl ?_
              show Steps p.tables e below (T98.setTop (mkF m 254 #[.val (.int p0), .val (.int p1), .val (.int p2), .val (.int p3), .val (.long q4), .second, .val (.int (m0_0 p0 p1 p2 p3 q4)), .val (.int (m0_1 p0 p1 p2 p3 q4)), .val (.int (m0_2 p0 p1 p2 p3 q4)), .val (.int (m0_3 p0 p1 p2 p3 q4)), .val (.int (p3 &&& (3 : Int32))), .val (.long (m0_8 p0 p1 p2 p3 q4)), .second, .val (.ref b83), .val (.int (((q4 &&& (3 : Int64)).toInt32) - (1 : Int32)))] [(.long ((m0_1 p0 p1 p2 p3 q4).toInt64)), (.long (m0_8 p0 p1 p2 p3 q4))])) _
              refine XS.lcmp X98.here hx rfl (hb hby at_254) rfl ?_
              show Steps p.tables e below (T98.setTop (mkF m 255 #[.val (.int p0), .val (.int p1), .val (.int p2), .val (.int p3), .val (.long q4), .second, .val (.int (m0_0 p0 p1 p2 p3 q4)), .val (.int (m0_1 p0 p1 p2 p3 q4)), .val (.int (m0_2 p0 p1 p2 p3 q4)), .val (.int (m0_3 p0 p1 p2 p3 q4)), .val (.int (p3 &&& (3 : Int32))), .val (.long (m0_8 p0 p1 p2 p3 q4)), .second, .val (.ref b83), .val (.int (((q4 &&& (3 : Int64)).toInt32) - (1 : Int32)))] [(.int (lcmpW (m0_8 p0 p1 p2 p3 q4) ((m0_1 p0 p1 p2 p3 q4).toInt64)))])) _
              refine XS.ifNo X98.here hx rfl (hb hby at_255) rfl ((if0 _ _).trans (flt (fun q => hm255_100 ((lw_gt _ _).mp q))).2.2.1) ?_
              show Steps p.tables e below (T98.setTop (mkF m 258 #[.val (.int p0), .val (.int p1), .val (.int p2), .val (.int p3), .val (.long q4), .second, .val (.int (m0_0 p0 p1 p2 p3 q4)), .val (.int (m0_1 p0 p1 p2 p3 q4)), .val (.int (m0_2 p0 p1 p2 p3 q4)), .val (.int (m0_3 p0 p1 p2 p3 q4)), .val (.int (p3 &&& (3 : Int32))), .val (.long (m0_8 p0 p1 p2 p3 q4)), .second, .val (.ref b83), .val (.int (((q4 &&& (3 : Int64)).toInt32) - (1 : Int32)))] [])) _
              refine XS.iconst X98.here hx rfl (hb hby at_258) ?_
              show Steps p.tables e below (T98.setTop (mkF m 259 #[.val (.int p0), .val (.int p1), .val (.int p2), .val (.int p3), .val (.long q4), .second, .val (.int (m0_0 p0 p1 p2 p3 q4)), .val (.int (m0_1 p0 p1 p2 p3 q4)), .val (.int (m0_2 p0 p1 p2 p3 q4)), .val (.int (m0_3 p0 p1 p2 p3 q4)), .val (.int (p3 &&& (3 : Int32))), .val (.long (m0_8 p0 p1 p2 p3 q4)), .second, .val (.ref b83), .val (.int (((q4 &&& (3 : Int64)).toInt32) - (1 : Int32)))] [(.int (1 : Int32))])) _
              refine XS.istore X98.here hx rfl (hb hby at_259) rfl (l' := #[.val (.int p0), .val (.int p1), .val (.int p2), .val (.int p3), .val (.long q4), .second, .val (.int (m0_0 p0 p1 p2 p3 q4)), .val (.int (m0_1 p0 p1 p2 p3 q4)), .val (.int (m0_2 p0 p1 p2 p3 q4)), .val (.int (m0_3 p0 p1 p2 p3 q4)), .val (.int (p3 &&& (3 : Int32))), .val (.long (m0_8 p0 p1 p2 p3 q4)), .second, .val (.ref b83), .val (.int (1 : Int32))]) rfl ?_
              show Steps p.tables e below (T98.setTop (mkF m 261 #[.val (.int p0), .val (.int p1), .val (.int p2), .val (.int p3), .val (.long q4), .second, .val (.int (m0_0 p0 p1 p2 p3 q4)), .val (.int (m0_1 p0 p1 p2 p3 q4)), .val (.int (m0_2 p0 p1 p2 p3 q4)), .val (.int (m0_3 p0 p1 p2 p3 q4)), .val (.int (p3 &&& (3 : Int32))), .val (.long (m0_8 p0 p1 p2 p3 q4)), .second, .val (.ref b83), .val (.int (1 : Int32))] [])) _
              refine XS.goto X98.here hx rfl (pc0 := 261) (pc' := 288) rfl (hb hby at_261) (by decide) (by decide) ?_
              exact kt
          · rw [show (m0_11 p0 p1 p2 p3 q4) = (0 : Int32) from by unfold m0_11; rw [if_neg hm234_99]] at kt
            show Steps p.tables e below (T98.setTop (mkF m 234 #[.val (.int p0), .val (.int p1), .val (.int p2), .val (.int p3), .val (.long q4), .second, .val (.int (m0_0 p0 p1 p2 p3 q4)), .val (.int (m0_1 p0 p1 p2 p3 q4)), .val (.int (m0_2 p0 p1 p2 p3 q4)), .val (.int (m0_3 p0 p1 p2 p3 q4)), .val (.int (p3 &&& (3 : Int32))), .val (.long (m0_8 p0 p1 p2 p3 q4)), .second, .val (.ref b83), .val (.int (((q4 &&& (3 : Int64)).toInt32) - (1 : Int32)))] [(.int (lcmpW (m0_8 p0 p1 p2 p3 q4) ((m0_0 p0 p1 p2 p3 q4).toInt64)))])) _
            refine XS.ifNo X98.here hx rfl (hb hby at_234) rfl ((if0 _ _).trans (flt (fun q => hm234_99 ((lw_gt _ _).mp q))).2.2.1) ?_
            show Steps p.tables e below (T98.setTop (mkF m 237 #[.val (.int p0), .val (.int p1), .val (.int p2), .val (.int p3), .val (.long q4), .second, .val (.int (m0_0 p0 p1 p2 p3 q4)), .val (.int (m0_1 p0 p1 p2 p3 q4)), .val (.int (m0_2 p0 p1 p2 p3 q4)), .val (.int (m0_3 p0 p1 p2 p3 q4)), .val (.int (p3 &&& (3 : Int32))), .val (.long (m0_8 p0 p1 p2 p3 q4)), .second, .val (.ref b83), .val (.int (((q4 &&& (3 : Int64)).toInt32) - (1 : Int32)))] [])) _
            refine XS.iconst X98.here hx rfl (hb hby at_237) ?_
            show Steps p.tables e below (T98.setTop (mkF m 238 #[.val (.int p0), .val (.int p1), .val (.int p2), .val (.int p3), .val (.long q4), .second, .val (.int (m0_0 p0 p1 p2 p3 q4)), .val (.int (m0_1 p0 p1 p2 p3 q4)), .val (.int (m0_2 p0 p1 p2 p3 q4)), .val (.int (m0_3 p0 p1 p2 p3 q4)), .val (.int (p3 &&& (3 : Int32))), .val (.long (m0_8 p0 p1 p2 p3 q4)), .second, .val (.ref b83), .val (.int (((q4 &&& (3 : Int64)).toInt32) - (1 : Int32)))] [(.int (0 : Int32))])) _
            refine XS.istore X98.here hx rfl (hb hby at_238) rfl (l' := #[.val (.int p0), .val (.int p1), .val (.int p2), .val (.int p3), .val (.long q4), .second, .val (.int (m0_0 p0 p1 p2 p3 q4)), .val (.int (m0_1 p0 p1 p2 p3 q4)), .val (.int (m0_2 p0 p1 p2 p3 q4)), .val (.int (m0_3 p0 p1 p2 p3 q4)), .val (.int (p3 &&& (3 : Int32))), .val (.long (m0_8 p0 p1 p2 p3 q4)), .second, .val (.ref b83), .val (.int (0 : Int32))]) rfl ?_
            show Steps p.tables e below (T98.setTop (mkF m 240 #[.val (.int p0), .val (.int p1), .val (.int p2), .val (.int p3), .val (.long q4), .second, .val (.int (m0_0 p0 p1 p2 p3 q4)), .val (.int (m0_1 p0 p1 p2 p3 q4)), .val (.int (m0_2 p0 p1 p2 p3 q4)), .val (.int (m0_3 p0 p1 p2 p3 q4)), .val (.int (p3 &&& (3 : Int32))), .val (.long (m0_8 p0 p1 p2 p3 q4)), .second, .val (.ref b83), .val (.int (0 : Int32))] [])) _
            refine XS.goto X98.here hx rfl (pc0 := 240) (pc' := 288) rfl (hb hby at_240) (by decide) (by decide) ?_
            exact kt
        obtain ⟨cq102, kq102, q102a, q102b, q102c⟩ := isOf hZ rfl P98_0
        obtain ⟨_, _, ⟨T102, L102, k102, n102⟩, -, X102, ⟨Lc102, hQ102, l102, y102, z102⟩, st102⟩ := X98.virtualBack hx (y := (⟨"com/example/byteloom/byteloom/SectionLayout", "sectionFor", "(J)I"⟩ : MethodName)) (z := (⟨"com/example/byteloom/byteloom/SectionLayout", "sectionFor", "(J)I"⟩ : MethodName)) hown (mvT hZ (hw _ (List.mem_of_getElem? (i := 42) rfl))) (mvT hZ (hw _ (List.mem_of_getElem? (i := 43) rfl))) (notFace_of_selects (args := #[]) (mvT hZ (hw _ (List.mem_of_getElem? (i := 45) rfl)))) (mvT hZ (hw _ (List.mem_of_getElem? (i := 45) rfl))) (mvT hZ (hw _ (List.mem_of_getElem? (i := 44) rfl))) (by decide) (backOf (W := 0) (rm4c l Z aw hw [] b83 (m0_8 p0 p1 p2 p3 q4) bb98 k84 (m0_0 p0 p1 p2 p3 q4) (m0_1 p0 p1 p2 p3 q4) (m0_2 p0 p1 p2 p3 q4) T98.heap n0 Z98 P98_1 P98_2 (own_len p0 p1 p2 p3 q4)) hZ (hw _ (List.mem_of_getElem? (i := 46) rfl)) (hw _ (List.mem_of_getElem? (i := 6) rfl)) (by decide) (by decide)) q102a q102c (g := (mkF m 292 #[.val (.int p0), .val (.int p1), .val (.int p2), .val (.int p3), .val (.long q4), .second, .val (.int (m0_0 p0 p1 p2 p3 q4)), .val (.int (m0_1 p0 p1 p2 p3 q4)), .val (.int (m0_2 p0 p1 p2 p3 q4)), .val (.int (m0_3 p0 p1 p2 p3 q4)), .val (.int (p3 &&& (3 : Int32))), .val (.long (m0_8 p0 p1 p2 p3 q4)), .second, .val (.ref b83), .val (.int (m0_11 p0 p1 p2 p3 q4))] [(.long (m0_8 p0 p1 p2 p3 q4)), (.ref b83)])) rfl (by rw [hml]; rfl) (Steps.refl _) (argsL := [(.long (m0_8 p0 p1 p2 p3 q4))]) (rest := []) (lenOf pd_0_1 rfl) rfl (by show 2 * 0 + _ ≤ _; exact Nat.le_of_eq rfl) (hb hby at_292) (fun _ _ => ⟨rfl, rfl, (by decide : 9 + 0 ≤ _), (by decide : 107 + 0 ≤ _)⟩)
        dsimp only [Pt.U, Pt.locs, Pt.cells, Pt.slots] at X102 l102 y102 z102 st102 hQ102
        rw [l102, y102, z102] at X102
        obtain ⟨rfl, Nq102, e102⟩ := hQ102
        have N102 := Fr.app N98 Nq102
        refine own_back (b := T102.setTop (mkF m 297 #[.val (.int p0), .val (.int p1), .val (.int p2), .val (.int p3), .val (.long q4), .second, .val (.int (m0_0 p0 p1 p2 p3 q4)), .val (.int (m0_1 p0 p1 p2 p3 q4)), .val (.int (m0_2 p0 p1 p2 p3 q4)), .val (.int (m0_3 p0 p1 p2 p3 q4)), .val (.int (p3 &&& (3 : Int32))), .val (.long (m0_8 p0 p1 p2 p3 q4)), .second, .val (.ref b83), .val (.int (m0_11 p0 p1 p2 p3 q4))] [(.int (m0_11 p0 p1 p2 p3 q4)), (.int (f4c (m0_8 p0 p1 p2 p3 q4) (m0_0 p0 p1 p2 p3 q4) (m0_1 p0 p1 p2 p3 q4) (m0_2 p0 p1 p2 p3 q4)))])) (fun t kt => ?_) ?_
        · show Steps p.tables e below (T98.setTop (mkF m 288 #[.val (.int p0), .val (.int p1), .val (.int p2), .val (.int p3), .val (.long q4), .second, .val (.int (m0_0 p0 p1 p2 p3 q4)), .val (.int (m0_1 p0 p1 p2 p3 q4)), .val (.int (m0_2 p0 p1 p2 p3 q4)), .val (.int (m0_3 p0 p1 p2 p3 q4)), .val (.int (p3 &&& (3 : Int32))), .val (.long (m0_8 p0 p1 p2 p3 q4)), .second, .val (.ref b83), .val (.int (m0_11 p0 p1 p2 p3 q4))] [])) _
          refine XS.aload X98.here hx rfl (hb hby at_288) rfl rfl ?_
          show Steps p.tables e below (T98.setTop (mkF m 290 #[.val (.int p0), .val (.int p1), .val (.int p2), .val (.int p3), .val (.long q4), .second, .val (.int (m0_0 p0 p1 p2 p3 q4)), .val (.int (m0_1 p0 p1 p2 p3 q4)), .val (.int (m0_2 p0 p1 p2 p3 q4)), .val (.int (m0_3 p0 p1 p2 p3 q4)), .val (.int (p3 &&& (3 : Int32))), .val (.long (m0_8 p0 p1 p2 p3 q4)), .second, .val (.ref b83), .val (.int (m0_11 p0 p1 p2 p3 q4))] [(.ref b83)])) _
          refine XS.lload X98.here hx rfl (hb hby at_290) rfl ?_
          show Steps p.tables e below (T98.setTop (mkF m 292 #[.val (.int p0), .val (.int p1), .val (.int p2), .val (.int p3), .val (.long q4), .second, .val (.int (m0_0 p0 p1 p2 p3 q4)), .val (.int (m0_1 p0 p1 p2 p3 q4)), .val (.int (m0_2 p0 p1 p2 p3 q4)), .val (.int (m0_3 p0 p1 p2 p3 q4)), .val (.int (p3 &&& (3 : Int32))), .val (.long (m0_8 p0 p1 p2 p3 q4)), .second, .val (.ref b83), .val (.int (m0_11 p0 p1 p2 p3 q4))] [(.long (m0_8 p0 p1 p2 p3 q4)), (.ref b83)])) _
          refine st102.trans ?_
          show Steps p.tables e below (T102.setTop (mkF m 295 #[.val (.int p0), .val (.int p1), .val (.int p2), .val (.int p3), .val (.long q4), .second, .val (.int (m0_0 p0 p1 p2 p3 q4)), .val (.int (m0_1 p0 p1 p2 p3 q4)), .val (.int (m0_2 p0 p1 p2 p3 q4)), .val (.int (m0_3 p0 p1 p2 p3 q4)), .val (.int (p3 &&& (3 : Int32))), .val (.long (m0_8 p0 p1 p2 p3 q4)), .second, .val (.ref b83), .val (.int (m0_11 p0 p1 p2 p3 q4))] [(.int (f4c (m0_8 p0 p1 p2 p3 q4) (m0_0 p0 p1 p2 p3 q4) (m0_1 p0 p1 p2 p3 q4) (m0_2 p0 p1 p2 p3 q4)))])) _
          refine XS.iload X102.here hx rfl (hb hby at_295) rfl ?_
          exact kt
        by_cases hc297_103 : (f4c (m0_8 p0 p1 p2 p3 q4) (m0_0 p0 p1 p2 p3 q4) (m0_1 p0 p1 p2 p3 q4) (m0_2 p0 p1 p2 p3 q4)) = (m0_11 p0 p1 p2 p3 q4)
        · refine own_back (b := T102.setTop (mkF m 305 #[.val (.int p0), .val (.int p1), .val (.int p2), .val (.int p3), .val (.long q4), .second, .val (.int (m0_0 p0 p1 p2 p3 q4)), .val (.int (m0_1 p0 p1 p2 p3 q4)), .val (.int (m0_2 p0 p1 p2 p3 q4)), .val (.int (m0_3 p0 p1 p2 p3 q4)), .val (.int (p3 &&& (3 : Int32))), .val (.long (m0_8 p0 p1 p2 p3 q4)), .second, .val (.ref b83), .val (.int (m0_11 p0 p1 p2 p3 q4))] [(.int (1 : Int32))])) (fun t kt => ?_) ?_
          · show Steps p.tables e below (T102.setTop (mkF m 297 #[.val (.int p0), .val (.int p1), .val (.int p2), .val (.int p3), .val (.long q4), .second, .val (.int (m0_0 p0 p1 p2 p3 q4)), .val (.int (m0_1 p0 p1 p2 p3 q4)), .val (.int (m0_2 p0 p1 p2 p3 q4)), .val (.int (m0_3 p0 p1 p2 p3 q4)), .val (.int (p3 &&& (3 : Int32))), .val (.long (m0_8 p0 p1 p2 p3 q4)), .second, .val (.ref b83), .val (.int (m0_11 p0 p1 p2 p3 q4))] [(.int (m0_11 p0 p1 p2 p3 q4)), (.int (f4c (m0_8 p0 p1 p2 p3 q4) (m0_0 p0 p1 p2 p3 q4) (m0_1 p0 p1 p2 p3 q4) (m0_2 p0 p1 p2 p3 q4)))])) _
            refine XS.icmpNo X102.here hx rfl (hb hby at_297) rfl (teq hc297_103).2 ?_
            show Steps p.tables e below (T102.setTop (mkF m 300 #[.val (.int p0), .val (.int p1), .val (.int p2), .val (.int p3), .val (.long q4), .second, .val (.int (m0_0 p0 p1 p2 p3 q4)), .val (.int (m0_1 p0 p1 p2 p3 q4)), .val (.int (m0_2 p0 p1 p2 p3 q4)), .val (.int (m0_3 p0 p1 p2 p3 q4)), .val (.int (p3 &&& (3 : Int32))), .val (.long (m0_8 p0 p1 p2 p3 q4)), .second, .val (.ref b83), .val (.int (m0_11 p0 p1 p2 p3 q4))] [])) _
            refine XS.iconst X102.here hx rfl (hb hby at_300) ?_
            show Steps p.tables e below (T102.setTop (mkF m 301 #[.val (.int p0), .val (.int p1), .val (.int p2), .val (.int p3), .val (.long q4), .second, .val (.int (m0_0 p0 p1 p2 p3 q4)), .val (.int (m0_1 p0 p1 p2 p3 q4)), .val (.int (m0_2 p0 p1 p2 p3 q4)), .val (.int (m0_3 p0 p1 p2 p3 q4)), .val (.int (p3 &&& (3 : Int32))), .val (.long (m0_8 p0 p1 p2 p3 q4)), .second, .val (.ref b83), .val (.int (m0_11 p0 p1 p2 p3 q4))] [(.int (1 : Int32))])) _
            refine XS.goto X102.here hx rfl (pc0 := 301) (pc' := 305) rfl (hb hby at_301) (by decide) (by decide) ?_
            exact kt
          obtain ⟨fs, hr, hrun, hended, hEnd⟩ := Stand.leaveW (s := s) X102 hS98 (by rw [e102]; exact (Nat.le_refl _)) (v := some (.int (1 : Int32))) (fun h => by rw [Bd.returns] at h; cases h) (BodyLoose.notSynchronized Bd)
          refine ⟨_, _, ?_, hrun, hended, _, _, rfl, ?_, own_endW hEnd (by decide) (by decide)⟩
          · show Steps p.tables e below (T102.setTop (mkF m 305 #[.val (.int p0), .val (.int p1), .val (.int p2), .val (.int p3), .val (.long q4), .second, .val (.int (m0_0 p0 p1 p2 p3 q4)), .val (.int (m0_1 p0 p1 p2 p3 q4)), .val (.int (m0_2 p0 p1 p2 p3 q4)), .val (.int (m0_3 p0 p1 p2 p3 q4)), .val (.int (p3 &&& (3 : Int32))), .val (.long (m0_8 p0 p1 p2 p3 q4)), .second, .val (.ref b83), .val (.int (m0_11 p0 p1 p2 p3 q4))] [(.int (1 : Int32))])) _
            exact retN X102 hx (t := .boolean) Bd.returns (by simp) (hb hby at_305) hr
          · show Q0 Z p0 p1 p2 p3 q4 h0 n0 _ T102.heap _
            rw [e102]
            exact ⟨by rw [show f0 p0 p1 p2 p3 q4 = (1 : Int32) from by unfold f0; rw [if_neg hc51_1, if_neg hc114_54, if_neg hc147_66, if_pos hc297_103]], N102⟩
        · refine own_back (b := T102.setTop (mkF m 305 #[.val (.int p0), .val (.int p1), .val (.int p2), .val (.int p3), .val (.long q4), .second, .val (.int (m0_0 p0 p1 p2 p3 q4)), .val (.int (m0_1 p0 p1 p2 p3 q4)), .val (.int (m0_2 p0 p1 p2 p3 q4)), .val (.int (m0_3 p0 p1 p2 p3 q4)), .val (.int (p3 &&& (3 : Int32))), .val (.long (m0_8 p0 p1 p2 p3 q4)), .second, .val (.ref b83), .val (.int (m0_11 p0 p1 p2 p3 q4))] [(.int (0 : Int32))])) (fun t kt => ?_) ?_
          · show Steps p.tables e below (T102.setTop (mkF m 297 #[.val (.int p0), .val (.int p1), .val (.int p2), .val (.int p3), .val (.long q4), .second, .val (.int (m0_0 p0 p1 p2 p3 q4)), .val (.int (m0_1 p0 p1 p2 p3 q4)), .val (.int (m0_2 p0 p1 p2 p3 q4)), .val (.int (m0_3 p0 p1 p2 p3 q4)), .val (.int (p3 &&& (3 : Int32))), .val (.long (m0_8 p0 p1 p2 p3 q4)), .second, .val (.ref b83), .val (.int (m0_11 p0 p1 p2 p3 q4))] [(.int (m0_11 p0 p1 p2 p3 q4)), (.int (f4c (m0_8 p0 p1 p2 p3 q4) (m0_0 p0 p1 p2 p3 q4) (m0_1 p0 p1 p2 p3 q4) (m0_2 p0 p1 p2 p3 q4)))])) _
            refine XS.icmpYes X102.here hx rfl (pc0 := 297) (pc' := 304) rfl (hb hby at_297) rfl (feq hc297_103).2 (by decide) (by decide) ?_
            show Steps p.tables e below (T102.setTop (mkF m 304 #[.val (.int p0), .val (.int p1), .val (.int p2), .val (.int p3), .val (.long q4), .second, .val (.int (m0_0 p0 p1 p2 p3 q4)), .val (.int (m0_1 p0 p1 p2 p3 q4)), .val (.int (m0_2 p0 p1 p2 p3 q4)), .val (.int (m0_3 p0 p1 p2 p3 q4)), .val (.int (p3 &&& (3 : Int32))), .val (.long (m0_8 p0 p1 p2 p3 q4)), .second, .val (.ref b83), .val (.int (m0_11 p0 p1 p2 p3 q4))] [])) _
            refine XS.iconst X102.here hx rfl (hb hby at_304) ?_
            exact kt
          obtain ⟨fs, hr, hrun, hended, hEnd⟩ := Stand.leaveW (s := s) X102 hS98 (by rw [e102]; exact (Nat.le_refl _)) (v := some (.int (0 : Int32))) (fun h => by rw [Bd.returns] at h; cases h) (BodyLoose.notSynchronized Bd)
          refine ⟨_, _, ?_, hrun, hended, _, _, rfl, ?_, own_endW hEnd (by decide) (by decide)⟩
          · show Steps p.tables e below (T102.setTop (mkF m 305 #[.val (.int p0), .val (.int p1), .val (.int p2), .val (.int p3), .val (.long q4), .second, .val (.int (m0_0 p0 p1 p2 p3 q4)), .val (.int (m0_1 p0 p1 p2 p3 q4)), .val (.int (m0_2 p0 p1 p2 p3 q4)), .val (.int (m0_3 p0 p1 p2 p3 q4)), .val (.int (p3 &&& (3 : Int32))), .val (.long (m0_8 p0 p1 p2 p3 q4)), .second, .val (.ref b83), .val (.int (m0_11 p0 p1 p2 p3 q4))] [(.int (0 : Int32))])) _
            exact retN X102 hx (t := .boolean) Bd.returns (by simp) (hb hby at_305) hr
          · show Q0 Z p0 p1 p2 p3 q4 h0 n0 _ T102.heap _
            rw [e102]
            exact ⟨by rw [show f0 p0 p1 p2 p3 q4 = (0 : Int32) from by unfold f0; rw [if_neg hc51_1, if_neg hc114_54, if_neg hc147_66, if_neg hc297_103]], N102⟩
theorem own_law (a b c d : Int32) (e : Int64) : f0 a b c d e = 1 := by
  have e1 : (f4a (e &&& (9223372036854775807 : Int64)) (m0_0 a b c d e)) = (m0_4 a b c d e) := rfl
  have e2 : (f4b (e &&& (9223372036854775807 : Int64)) (m0_0 a b c d e) (m0_1 a b c d e)) = (m0_5 a b c d e) := rfl
  have e3 : (f4c (e &&& (9223372036854775807 : Int64)) (m0_0 a b c d e) (m0_1 a b c d e) (m0_2 a b c d e)) = (m0_6 a b c d e) := rfl
  have e4 : (f4a (m0_8 a b c d e) (m0_0 a b c d e)) = (m0_9 a b c d e) := rfl
  have e5 : (f4b (m0_8 a b c d e) (m0_0 a b c d e) (m0_1 a b c d e)) = (m0_10 a b c d e) := rfl
  have e6 : (f4c (m0_8 a b c d e) (m0_0 a b c d e) (m0_1 a b c d e) (m0_2 a b c d e)) = (m0_11 a b c d e) := rfl
  unfold f0
  simp only [e1, e2, e3, e4, e5, e6, if_true, ite_self]
set_option maxRecDepth 65536 in
set_option maxHeartbeats 40000000 in
theorem comes_1 {Post : Tables → Env → Array Value → State → Outcome → State → Prop} (hpost : ∀ tb e args s v u, (limb_1_1.after args s (.returned v) u = true ∧ limb_1_2.after args s (.returned v) u = true ∧ True) → ReturnedEndW s (.returned v) u (Jvm.fieldLocs frame_1_writes args s ++ Jvm.arrayLocs frame_1_arrays args s ++ Jvm.staticLocs frame_1_statics s) 24 2176 → Post tb e args s (.returned v) u) :
    ArmFor flags0 classFile x code maxLocals ret World_1 tables_1 room_1 Calls_1 rest_1 Pre_1 Post := by
  intro l hfl _ _ p e ha hc hk s m args below hf hA hF happ hP
  obtain ⟨hcalls, hrest, hpre⟩ := hP
  obtain ⟨-, -, -, hnamed, -, -, -, hat⟩ := (Spec.applies_iff hf).mp happ
  obtain ⟨hg, hn⟩ := and_e (Cond.before_iff.mp (show (Jvm.Cond.and given_1 narrow_1).before args s = true from hpre))
  obtain ⟨gc, gr0⟩ := and_e hg
  obtain ⟨ga0, gr1⟩ := and_e gr0
  obtain ⟨ga1, gr2⟩ := and_e gr1
  obtain ⟨ga2, gr3⟩ := and_e gr2
  obtain ⟨ga3, gr4⟩ := and_e gr3
  obtain ⟨w0, w1, w2, w3, w4, rfl⟩ : ∃ w0 w1 w2 w3 w4 : Value, args = #[w0, w1, w2, w3, w4] := by
    have hs : args.size = 5 := by simpa [Cond.value, given_1] using gc
    obtain ⟨L⟩ := args
    match L, hs with
    | [w0, w1, w2, w3, w4], _ => exact ⟨w0, w1, w2, w3, w4, rfl⟩
  have hw := fun d (hd : d ∈ tables_1) => atoms_spec (ws := Jvm.Cond.code x code maxLocals ret :: tables_1) hat d (List.mem_cons_of_mem _ hd)
  have hfit : Fit s := fun {y c} hc i hi => by
    obtain ⟨ha, rfl⟩ := Array.getElem?_eq_some_iff.mp hc
    have q := List.all_eq_true.mp ((Array.all_eq_true_iff_forall_mem.mp hF) _ (Array.getElem_mem ha)) i (List.mem_range.mpr hi)
    simpa [Array.getElem?_eq_getElem hi] using q
  obtain ⟨i0, ei0⟩ := is_v ga0
  obtain rfl : w0 = (.int i0) := Option.some.inj ei0
  obtain ⟨i1, ei1⟩ := is_v ga1
  obtain rfl : w1 = (.int i1) := Option.some.inj ei1
  obtain ⟨i2, ei2⟩ := is_v ga2
  obtain rfl : w2 = (.int i2) := Option.some.inj ei2
  obtain ⟨i3, ei3⟩ := is_v ga3
  obtain rfl : w3 = (.int i3) := Option.some.inj ei3
  obtain ⟨i4, ei4⟩ := isL_v gr4
  obtain rfl : w4 = (.long i4) := Option.some.inj ei4
  obtain ⟨n, o, h1, h2, h3, _, L, rfl, ⟨rfl, N⟩, hq⟩ := rm0 l s _ hw tables_1 i0 i1 i2 i3 i4 s.heap s.heap.size (Nat.le_refl _)  p e ha hc hk s m _ below hf ((Spec.applies_iff_loose hf).mp happ).1 ⟨rfl, State.Warmed39.refl s, rfl⟩ trivial
  refine ⟨n, _, h1, h2, h3, hpost _ _ _ _ _ _ ⟨Cond.after_iff.mpr rfl, Cond.after_iff.mpr (eq_i res_at (Term.int_eval (1)) (congrArg Value.int (own_law i0 i1 i2 i3 i4))), trivial⟩ ⟨hq.1, hq.2.1, hq.2.2.1, (hq.2.2.2.sift fun y hy => Or.inr (N y hy)).mono (by decide) (by decide)⟩⟩
theorem main_1_1 : Claimed_1_1 := comes_1 fun _ _ _ _ _ _ h hF => ⟨h.1, hF⟩
theorem main_1_2 : Claimed_1_2 := comes_1 fun _ _ _ _ _ _ h hF => ⟨h.2.1, hF⟩
end Jvm.Pilot.@@N@@
namespace Jvm.Pilot.@@N@@
open Jvm Jvm.ClassFile Sem Op Lib Jvm.Free Jvm.Stand Jvm.Pilot.@@N@@.Jvm.D
/-! MADE BY PROGRAM (witnessworld.py) out of the Statement's table words and the real class files: 15 classes; the members and pool entries that the words name. The judged class is class 1, her method 1. -/
namespace start1
open Jvm.ClassFile
def u (s : String) : CpInfo := .utf8 (stringToUtf16 s)
/-- a pool by its gaps: so many unusable entries, then the entry; so many at the end -/
def gap : Nat → List CpInfo → List CpInfo
  | 0, r => r
  | n + 1, r => .unusable :: gap n r
def poolList (es : List (Nat × CpInfo)) (last : Nat) : List CpInfo := es.foldr (fun e r => gap e.1 (e.2 :: r)) (gap last [])
def pool (es : List (Nat × CpInfo)) (last : Nat) : Array CpInfo := ⟨poolList es last⟩
def fileOf (pool : Array CpInfo) (this : Nat) (attrs : Array Attribute := #[]) (ms : Array MethodInfo := #[]) (fl : Nat := 33) (sup : Nat := 0) (ifs : Array Nat := #[]) (fds : Array FieldInfo := #[]) : ClassFile where
  minorVersion := 0
  majorVersion := 65
  constantPool := pool
  accessFlags := fl
  thisClass := this
  superClass := sup
  interfaces := ifs
  fields := fds
  methods := ms
  attributes := attrs
def plain (name : String) (sup : Option ClassId) : Class where
  name := name
  kind := .ordinary
  loader := none
  accessFlags := 33
  super := sup
  interfaces := #[]
  cf := none
  fields := #[]
  methods := #[]
  instanceTypes := #[]
  staticTypes := #[]
  resolved := #[]
  callSites := []
  init := .initialized
  statics := none
  mirror := none

def pool0 : Array CpInfo := pool [(5, u "<init>"), (0, u "()V"), (1, .class_ 10), (1, u "java/lang/Object"), (85, u "clone"), (0, u "()Ljava/lang/Object;")] 26

def k0c0 : Code := { maxStack := 0, maxLocals := 1, code := object_method_1_code, exceptionTable := #[], attributes := #[] }
def k0m0 : Method := { name := "<init>", desc := "()V", sig := { parameters := [], returnType := none }, accessFlags := 1, code := some k0c0 }
def k0m1 : Method := { name := "clone", desc := "()Ljava/lang/Object;", sig := { parameters := [], returnType := some (.object "java/lang/Object") }, accessFlags := 260, code := none }
/-- java/lang/Object -/
def k0 : Class := { plain "java/lang/Object" none with
  accessFlags := 33
  interfaces := #[]
  cf := some (fileOf pool0 8 #[] #[{ accessFlags := 1, nameIndex := 5, descriptorIndex := 6, attributes := #[] }, { accessFlags := 260, nameIndex := 96, descriptorIndex := 97, attributes := #[] }] 33 0 #[] #[])
  fields := #[]
  methods := #[k0m0, k0m1]
  instanceTypes := #[]
  staticTypes := #[]
  resolved := Array.replicate 124 none
  statics := none }

def pool1 : Array CpInfo := pool [(2, .class_ 4), (1, u "java/lang/Object"), (0, u "<init>"), (0, u "()V"), (0, .integer 536870911), (0, .integer 1073741823), (0, .integer 1073741822), (2, .long 9223372036854775807), (1, .long 3), (1, .class_ 17), (0, u "com/example/byteloom/byteloom/SectionLayout"), (0, .methodref 16 19), (0, .nameAndType 5 20), (0, u "([I[I)V"), (0, .methodref 16 22), (0, .nameAndType 23 24), (0, u "sectionFor"), (0, u "(J)I"), (0, .class_ 26), (0, u "com/example/byteloom/byteloom/SectionLayoutSectionForPinLaw"), (2, u "law"), (0, u "(IIIIJ)Z")] 3

def k1m0 : Method := { name := "<init>", desc := "()V", sig := { parameters := [], returnType := none }, accessFlags := 2, code := none }
def k1c1 : Code := { maxStack := 7, maxLocals := 15, code := code, exceptionTable := #[], attributes := #[] }
def k1m1 : Method := { name := "law", desc := "(IIIIJ)Z", sig := { parameters := [.int, .int, .int, .int, .long], returnType := some .boolean }, accessFlags := 9, code := some k1c1 }
/-- com/example/byteloom/byteloom/SectionLayoutSectionForPinLaw -/
def k1 : Class := { plain "com/example/byteloom/byteloom/SectionLayoutSectionForPinLaw" (some 0) with
  accessFlags := 49
  interfaces := #[]
  cf := some (fileOf pool1 25 #[] #[{ accessFlags := 2, nameIndex := 5, descriptorIndex := 6, attributes := #[] }, { accessFlags := 9, nameIndex := 29, descriptorIndex := 30, attributes := #[] }] 49 2 #[] #[])
  fields := #[]
  methods := #[k1m0, k1m1]
  instanceTypes := #[]
  staticTypes := #[]
  resolved := Array.replicate 34 none
  statics := none }

def pool2 : Array CpInfo := pool [(1, .methodref 2 3), (0, .class_ 4), (0, .nameAndType 5 6), (0, u "java/lang/Object"), (0, u "<init>"), (0, u "()V"), (0, .string 8), (0, u "blockSizes"), (0, .methodref 10 11), (0, .class_ 12), (0, .nameAndType 13 14), (0, u "java/util/Objects"), (0, u "requireNonNull"), (0, u "(Ljava/lang/Object;Ljava/lang/String;)Ljava/lang/Object;"), (0, .string 16), (0, u "blockCounts"), (16, .methodref 34 35), (0, .class_ 36), (0, .nameAndType 37 38), (0, u "[I"), (0, u "clone"), (0, u "()Ljava/lang/Object;"), (0, .fieldref 40 41), (0, .class_ 42), (0, .nameAndType 8 36), (0, u "com/example/byteloom/byteloom/SectionLayout"), (0, .fieldref 40 44), (0, .nameAndType 16 36), (0, .fieldref 40 46), (0, .nameAndType 47 48), (0, u "reservedBytes"), (0, u "J"), (7, u "([I[I)V"), (9, u "sectionFor"), (0, u "(J)I")] 25

def k2c0 : Code := { maxStack := 7, maxLocals := 8, code := prog_14_method_1_code, exceptionTable := #[], attributes := #[] }
def k2m0 : Method := { name := "<init>", desc := "([I[I)V", sig := { parameters := [(.array .int), (.array .int)], returnType := none }, accessFlags := 0, code := some k2c0 }
def k2c1 : Code := { maxStack := 4, maxLocals := 5, code := prog_14_method_6_code, exceptionTable := #[], attributes := #[] }
def k2m1 : Method := { name := "sectionFor", desc := "(J)I", sig := { parameters := [.long], returnType := some .int }, accessFlags := 0, code := some k2c1 }
/-- com/example/byteloom/byteloom/SectionLayout -/
def k2 : Class := { plain "com/example/byteloom/byteloom/SectionLayout" (some 0) with
  accessFlags := 48
  interfaces := #[]
  cf := some (fileOf pool2 40 #[] #[{ accessFlags := 0, nameIndex := 5, descriptorIndex := 56, attributes := #[] }, { accessFlags := 0, nameIndex := 66, descriptorIndex := 67, attributes := #[] }] 48 2 #[] #[{ accessFlags := 18, nameIndex := 8, descriptorIndex := 36, attributes := #[] }, { accessFlags := 18, nameIndex := 16, descriptorIndex := 36, attributes := #[] }, { accessFlags := 18, nameIndex := 47, descriptorIndex := 48, attributes := #[] }])
  fields := #[{ name := "blockSizes", type := (.array .int), accessFlags := 18, slot := 0, constantValue := 0 }, { name := "blockCounts", type := (.array .int), accessFlags := 18, slot := 1, constantValue := 0 }, { name := "reservedBytes", type := .long, accessFlags := 18, slot := 2, constantValue := 0 }]
  methods := #[k2m0, k2m1]
  instanceTypes := #[(.array .int), (.array .int), .long]
  staticTypes := #[]
  resolved := Array.replicate 93 none
  statics := none }

def pool3 : Array CpInfo := pool [(1, .class_ 2), (0, u "java/io/Serializable"), (0, .class_ 4), (0, u "java/lang/Object")] 2

/-- java/io/Serializable -/
def k3 : Class := { plain "java/io/Serializable" (some 0) with
  accessFlags := 1537
  interfaces := #[]
  cf := some (fileOf pool3 1 #[] #[] 1537 3 #[] #[])
  fields := #[]
  methods := #[]
  instanceTypes := #[]
  staticTypes := #[]
  resolved := Array.replicate 7 none
  statics := none }

def pool4 : Array CpInfo := pool [(1, .class_ 2), (0, u "java/lang/Comparable"), (0, .class_ 4), (0, u "java/lang/Object")] 7

/-- java/lang/Comparable -/
def k4 : Class := { plain "java/lang/Comparable" (some 0) with
  accessFlags := 1537
  interfaces := #[]
  cf := some (fileOf pool4 1 #[] #[] 1537 3 #[] #[])
  fields := #[]
  methods := #[]
  instanceTypes := #[]
  staticTypes := #[]
  resolved := Array.replicate 12 none
  statics := none }

def pool5 : Array CpInfo := pool [(2, .class_ 4), (1, u "java/lang/CharSequence"), (42, .class_ 48), (0, u "java/lang/CharSequence$1CodePointIterator"), (10, .class_ 60), (0, u "java/lang/CharSequence$1CharIterator"), (5, .class_ 67), (0, u "java/lang/Object")] 63

/-- java/lang/CharSequence -/
def k5 : Class := { plain "java/lang/CharSequence" (some 0) with
  accessFlags := 1537
  interfaces := #[]
  cf := some (fileOf pool5 2 #[.nestMembers #[47, 59]] #[] 1537 66 #[] #[])
  fields := #[]
  methods := #[]
  instanceTypes := #[]
  staticTypes := #[]
  resolved := Array.replicate 131 none
  statics := none }

def pool6 : Array CpInfo := pool [(1, .class_ 2), (0, u "java/lang/constant/Constable"), (0, .class_ 4), (0, u "java/lang/Object")] 6

/-- java/lang/constant/Constable -/
def k6 : Class := { plain "java/lang/constant/Constable" (some 0) with
  accessFlags := 1537
  interfaces := #[]
  cf := some (fileOf pool6 1 #[] #[] 1537 3 #[] #[])
  fields := #[]
  methods := #[]
  instanceTypes := #[]
  staticTypes := #[]
  resolved := Array.replicate 11 none
  statics := none }

def pool7 : Array CpInfo := pool [(1, .class_ 2), (0, u "java/lang/constant/ConstantDesc"), (0, .class_ 4), (0, u "java/lang/Object")] 32

/-- java/lang/constant/ConstantDesc -/
def k7 : Class := { plain "java/lang/constant/ConstantDesc" (some 0) with
  accessFlags := 1537
  interfaces := #[]
  cf := some (fileOf pool7 1 #[] #[] 1537 3 #[] #[])
  fields := #[]
  methods := #[]
  instanceTypes := #[]
  staticTypes := #[]
  resolved := Array.replicate 37 none
  statics := none }

def pool8 : Array CpInfo := pool [(2, .class_ 4), (1, u "java/lang/Object"), (0, u "<init>"), (0, u "()V"), (3, .class_ 12), (1, u "java/lang/String"), (0, u "value"), (0, u "[B"), (2, u "coder"), (0, u "B"), (2, u "hash"), (0, u "I"), (2, u "hashIsZero"), (0, u "Z"), (13, u "COMPACT_STRINGS"), (534, .class_ 576), (0, u "java/lang/CharSequence"), (22, u "CASE_INSENSITIVE_ORDER"), (0, u "Ljava/util/Comparator;"), (500, u "serialPersistentFields"), (0, u "[Ljava/io/ObjectStreamField;"), (0, .class_ 1104), (0, u "java/lang/String$CaseInsensitiveComparator"), (1, .class_ 1107), (0, u "java/io/Serializable"), (0, .class_ 1109), (0, u "java/lang/Comparable"), (0, .class_ 1111), (0, u "java/lang/constant/Constable"), (0, .class_ 1113), (0, u "java/lang/constant/ConstantDesc"), (2, u "serialVersionUID"), (0, u "J"), (3, u "REPL"), (0, u "C"), (2, u "LATIN1"), (1, u "UTF16")] 323

def k8m0 : Method := { name := "<init>", desc := "()V", sig := { parameters := [], returnType := none }, accessFlags := 1, code := none }
/-- java/lang/String -/
def k8 : Class := { plain "java/lang/String" (some 0) with
  accessFlags := 49
  interfaces := #[3, 4, 5, 6, 7]
  cf := some (fileOf pool8 10 #[.nestMembers #[1103]] #[{ accessFlags := 1, nameIndex := 5, descriptorIndex := 6, attributes := #[] }] 49 2 #[1106, 1108, 575, 1110, 1112] #[{ accessFlags := 18, nameIndex := 13, descriptorIndex := 14, attributes := #[] }, { accessFlags := 18, nameIndex := 17, descriptorIndex := 18, attributes := #[] }, { accessFlags := 2, nameIndex := 21, descriptorIndex := 22, attributes := #[] }, { accessFlags := 2, nameIndex := 25, descriptorIndex := 26, attributes := #[] }, { accessFlags := 26, nameIndex := 1116, descriptorIndex := 1117, attributes := #[] }, { accessFlags := 24, nameIndex := 40, descriptorIndex := 26, attributes := #[] }, { accessFlags := 26, nameIndex := 1101, descriptorIndex := 1102, attributes := #[] }, { accessFlags := 26, nameIndex := 1121, descriptorIndex := 1122, attributes := #[] }, { accessFlags := 25, nameIndex := 599, descriptorIndex := 600, attributes := #[] }, { accessFlags := 24, nameIndex := 1125, descriptorIndex := 18, attributes := #[] }, { accessFlags := 24, nameIndex := 1127, descriptorIndex := 18, attributes := #[] }])
  fields := #[{ name := "value", type := (.array .byte), accessFlags := 18, slot := 0, constantValue := 0 }, { name := "coder", type := .byte, accessFlags := 18, slot := 1, constantValue := 0 }, { name := "hash", type := .int, accessFlags := 2, slot := 2, constantValue := 0 }, { name := "hashIsZero", type := .boolean, accessFlags := 2, slot := 3, constantValue := 0 }, { name := "serialVersionUID", type := .long, accessFlags := 26, slot := 0, constantValue := 0 }, { name := "COMPACT_STRINGS", type := .boolean, accessFlags := 24, slot := 1, constantValue := 0 }, { name := "serialPersistentFields", type := (.array (.object "java/io/ObjectStreamField")), accessFlags := 26, slot := 2, constantValue := 0 }, { name := "REPL", type := .char, accessFlags := 26, slot := 3, constantValue := 0 }, { name := "CASE_INSENSITIVE_ORDER", type := (.object "java/util/Comparator"), accessFlags := 25, slot := 4, constantValue := 0 }, { name := "LATIN1", type := .byte, accessFlags := 24, slot := 5, constantValue := 0 }, { name := "UTF16", type := .byte, accessFlags := 24, slot := 6, constantValue := 0 }]
  methods := #[k8m0]
  instanceTypes := #[(.array .byte), .byte, .int, .boolean]
  staticTypes := #[.long, .boolean, (.array (.object "java/io/ObjectStreamField")), .char, (.object "java/util/Comparator"), .byte, .byte]
  resolved := Array.replicate 1451 none
  statics := none }

def pool9 : Array CpInfo := pool [(2, .class_ 4), (1, u "java/lang/Object"), (0, u "<init>"), (0, u "()V"), (35, .class_ 44), (1, u "java/util/Objects"), (0, u "requireNonNull"), (48, u "(Ljava/lang/Object;Ljava/lang/String;)Ljava/lang/Object;")] 89

def k9m0 : Method := { name := "<init>", desc := "()V", sig := { parameters := [], returnType := none }, accessFlags := 2, code := none }
def k9c1 : Code := { maxStack := 3, maxLocals := 2, code := jdk_31_method_11_code, exceptionTable := #[], attributes := #[] }
def k9m1 : Method := { name := "requireNonNull", desc := "(Ljava/lang/Object;Ljava/lang/String;)Ljava/lang/Object;", sig := { parameters := [(.object "java/lang/Object"), (.object "java/lang/String")], returnType := some (.object "java/lang/Object") }, accessFlags := 9, code := some k9c1 }
/-- java/util/Objects -/
def k9 : Class := { plain "java/util/Objects" (some 0) with
  accessFlags := 49
  interfaces := #[]
  cf := some (fileOf pool9 42 #[] #[{ accessFlags := 2, nameIndex := 5, descriptorIndex := 6, attributes := #[] }, { accessFlags := 9, nameIndex := 45, descriptorIndex := 94, attributes := #[] }] 49 2 #[] #[])
  fields := #[]
  methods := #[k9m0, k9m1]
  instanceTypes := #[]
  staticTypes := #[]
  resolved := Array.replicate 184 none
  statics := none }

def pool10 : Array CpInfo := pool [(1, .class_ 2), (0, u "java/lang/Cloneable"), (0, .class_ 4), (0, u "java/lang/Object")] 2

/-- java/lang/Cloneable -/
def k10 : Class := { plain "java/lang/Cloneable" (some 0) with
  accessFlags := 1537
  interfaces := #[]
  cf := some (fileOf pool10 1 #[] #[] 1537 3 #[] #[])
  fields := #[]
  methods := #[]
  instanceTypes := #[]
  staticTypes := #[]
  resolved := Array.replicate 7 none
  statics := none }

/-- the primitive byte -/
def k11 : Class := { plain "byte" none with kind := .primitive 'B', accessFlags := 0x411 }
/-- [B -/
def k12 : Class := { plain "[B" (some 0) with kind := .array 11 .byte, interfaces := #[10, 3], accessFlags := 1041 }

/-- the primitive int -/
def k13 : Class := { plain "int" none with kind := .primitive 'I', accessFlags := 0x411 }
/-- [I -/
def k14 : Class := { plain "[I" (some 0) with kind := .array 13 .int, interfaces := #[10, 3], accessFlags := 1041 }

def heap : Heap := #[]
def classes : Array Class := #[k0, k1, k2, k3, k4, k5, k6, k7, k8, k9, k10, k11, k12, k13, k14]
def interned : List (Array UInt16 × Addr) := []
def slotsUsed : Nat := 0
def theMethod : MethodId := ⟨1, 1⟩
def args0 : Array Value := #[.int 10, .int 50, .int 20, .int 8, .long 5]
def aboutOver (below : List Frame) : State where
  vm := { classes := classes, interned := interned.toArray }
  heap := heap
  slotsUsed := slotsUsed
  threads := #[{ frames := .invoking theMethod args0 :: below }]
def below0 : List Frame := [.native { method := ⟨0, 0⟩, args := #[] }]
def about1 : State := aboutOver below0
def p0 : Program := .bare "" "" ""
def e0 : Env := launch0.env 0 0 0
theorem w_frames : about1.frames = Frame.invoking theMethod args0 :: below0 := rfl
set_option maxRecDepth 65536 in
theorem w_args : argsFit about1.vm theMethod args0 = true := by decide +kernel
set_option maxRecDepth 65536 in
theorem w_heap : heapFits about1 = true := by decide +kernel
set_option maxRecDepth 65536 in
theorem w_runnable : about1.curStatus? = some .runnable := by decide +kernel
set_option maxRecDepth 65536 in
theorem w_alone : about1.alone = true := by decide +kernel
set_option maxRecDepth 65536 in
theorem w_named : about1.methodNamed? x = some theMethod := by decide +kernel
set_option maxRecDepth 65536 in
theorem w_hears : about1.hears theMethod below0 = true := by decide +kernel
set_option maxRecDepth 65536 in
theorem w_ripe : about1.ripe theMethod args0 below0 = true := by decide +kernel
theorem w_running : about1.status = .running := rfl
set_option maxRecDepth 65536 in
theorem w_room : about1.hasRoom e0.platform room_1 = true :=
  launch0.hasRoom_least _ room_1 (by decide +kernel) (by decide +kernel) (by decide +kernel) (by decide +kernel) (by decide +kernel) (by decide +kernel)
theorem allAtoms_all (ts : List Jvm.Cond) (a : Array Jvm.Value) (st : Jvm.State) : (allAtoms ts).before a st = ts.all (fun c => c.before a st) := by
  induction ts with
  | nil => rfl
  | cons c t ih =>
    show (Jvm.Cond.and c (allAtoms t)).before a st = _
    rw [Jvm.Cond.before_and, ih, List.all_cons]
def words1 : List Jvm.Cond := Jvm.Cond.code x code maxLocals ret :: tables_1
/-- a 'code' word, met by the world's own term for the bytes: nothing is compared byte by byte -/
theorem code_word {y : MethodName} {bytes : ByteArray} {mx : Nat} {rt : Option FieldType} {a : Array Value} {s : State} {m : MethodId} {meth : Method} {c : Code} (h1 : s.methodNamed? y = some m) (h2 : s.vm.method? m = some meth) (h3 : meth.code = some c) (h4 : c.code = bytes)
    (h5 : (c.maxLocals == mx && c.exceptionTable.isEmpty && decide (c.maxStack ≤ mostOperands) && decide (meth.sig.returnType = rt) && !meth.locks && decide (parseMethodDescriptor y.desc = some meth.sig)) = true) : (Jvm.Cond.code y bytes mx rt).before a s = true := by
  simp only [Bool.and_eq_true, beq_iff_eq, Bool.not_eq_true', decide_eq_true_eq] at h5
  obtain ⟨⟨⟨⟨⟨g1, g2⟩, g3⟩, g4⟩, g5⟩, g6⟩ := h5
  simp [Cond.before, Cond.holds, Cond.value, h1, h2, h3, h4, g1, g2, g3, g4, g5, g6]
def isCode : Jvm.Cond → Bool
  | .code _ _ _ _ => true
  | _ => false
theorem all_split {L : List Jvm.Cond} {P : Jvm.Cond → Bool} (h1 : L.all (fun c => isCode c || P c) = true) (h2 : ∀ c ∈ L.filter isCode, P c = true) : L.all P = true := by
  refine List.all_eq_true.mpr fun c hc => ?_
  have h := List.all_eq_true.mp h1 c hc
  rcases Bool.eq_false_or_eq_true (isCode c) with hi | hi
  · exact h2 c (List.mem_filter.mpr ⟨hc, hi⟩)
  · simpa [hi] using h
set_option maxRecDepth 65536 in
theorem w_c0 : (Jvm.Cond.code x code maxLocals ret).before args0 about1 = true := code_word (m := ⟨1, 1⟩) (meth := k1m1) (c := k1c1) (by decide +kernel) rfl rfl rfl (by decide +kernel)
set_option maxRecDepth 65536 in
theorem w_c1 : (Jvm.Cond.code ({ cls := "com/example/byteloom/byteloom/SectionLayout", name := "<init>", desc := "([I[I)V" } : Jvm.MethodName) prog_14_method_1_code (8 : Nat) (Option.none : Option Jvm.ClassFile.FieldType)).before args0 about1 = true := code_word (m := ⟨2, 0⟩) (meth := k2m0) (c := k2c0) (by decide +kernel) rfl rfl rfl (by decide +kernel)
set_option maxRecDepth 65536 in
theorem w_c2 : (Jvm.Cond.code ({ cls := "java/lang/Object", name := "<init>", desc := "()V" } : Jvm.MethodName) object_method_1_code (1 : Nat) (Option.none : Option Jvm.ClassFile.FieldType)).before args0 about1 = true := code_word (m := ⟨0, 0⟩) (meth := k0m0) (c := k0c0) (by decide +kernel) rfl rfl rfl (by decide +kernel)
set_option maxRecDepth 65536 in
theorem w_c3 : (Jvm.Cond.code ({ cls := "java/util/Objects", name := "requireNonNull", desc := "(Ljava/lang/Object;Ljava/lang/String;)Ljava/lang/Object;" } : Jvm.MethodName) jdk_31_method_11_code (2 : Nat) (Option.some (Jvm.ClassFile.FieldType.object "java/lang/Object"))).before args0 about1 = true := code_word (m := ⟨9, 1⟩) (meth := k9m1) (c := k9c1) (by decide +kernel) rfl rfl rfl (by decide +kernel)
set_option maxRecDepth 65536 in
theorem w_c4 : (Jvm.Cond.code ({ cls := "com/example/byteloom/byteloom/SectionLayout", name := "sectionFor", desc := "(J)I" } : Jvm.MethodName) prog_14_method_6_code (5 : Nat) (Option.some Jvm.ClassFile.FieldType.int)).before args0 about1 = true := code_word (m := ⟨2, 1⟩) (meth := k2m1) (c := k2c1) (by decide +kernel) rfl rfl rfl (by decide +kernel)
def codes1 : List Jvm.Cond := [Jvm.Cond.code x code maxLocals ret, Jvm.Cond.code ({ cls := "com/example/byteloom/byteloom/SectionLayout", name := "<init>", desc := "([I[I)V" } : Jvm.MethodName) prog_14_method_1_code (8 : Nat) (Option.none : Option Jvm.ClassFile.FieldType), Jvm.Cond.code ({ cls := "java/lang/Object", name := "<init>", desc := "()V" } : Jvm.MethodName) object_method_1_code (1 : Nat) (Option.none : Option Jvm.ClassFile.FieldType), Jvm.Cond.code ({ cls := "java/util/Objects", name := "requireNonNull", desc := "(Ljava/lang/Object;Ljava/lang/String;)Ljava/lang/Object;" } : Jvm.MethodName) jdk_31_method_11_code (2 : Nat) (Option.some (Jvm.ClassFile.FieldType.object "java/lang/Object")), Jvm.Cond.code ({ cls := "com/example/byteloom/byteloom/SectionLayout", name := "sectionFor", desc := "(J)I" } : Jvm.MethodName) prog_14_method_6_code (5 : Nat) (Option.some Jvm.ClassFile.FieldType.int)]
set_option maxRecDepth 65536 in
theorem codes_eq : words1.filter isCode = codes1 := rfl
theorem w_codes : ∀ c ∈ words1.filter isCode, c.before args0 about1 = true := by
  rw [codes_eq]
  intro c hc
  simp only [codes1, List.mem_cons, List.not_mem_nil, or_false] at hc
  rcases hc with rfl | rfl | rfl | rfl | rfl
  · exact w_c0
  · exact w_c1
  · exact w_c2
  · exact w_c3
  · exact w_c4
set_option maxRecDepth 65536 in
theorem w_t1 : (words1.take 24).all (fun c => isCode c || c.before args0 about1) = true := by decide +kernel
set_option maxRecDepth 65536 in
theorem w_t2 : ((words1.drop 24).take 24).all (fun c => isCode c || c.before args0 about1) = true := by decide +kernel
set_option maxRecDepth 65536 in
theorem w_t3 : ((words1.drop 24).drop 24).all (fun c => isCode c || c.before args0 about1) = true := by decide +kernel
theorem w_tables : (allAtoms (Jvm.Cond.code x code maxLocals ret :: tables_1)).before args0 about1 = true := by
  rw [allAtoms_all]
  show words1.all (fun c => c.before args0 about1) = true
  refine all_split ?_ w_codes
  rw [← List.take_append_drop 24 words1, List.all_append, w_t1, ← List.take_append_drop 24 (words1.drop 24), List.all_append, w_t2, w_t3]
  rfl
set_option maxRecDepth 65536 in
theorem w_case : (Jvm.Cond.and given_1 narrow_1).before args0 about1 = true := by decide +kernel
theorem w_applies : (headSpec (Jvm.Cond.code x code maxLocals ret :: tables_1) room_1).applies x e0.platform about1 = true :=
  (Spec.applies_iff w_frames).mpr ⟨w_running, w_runnable, w_alone, w_named, w_hears, w_ripe, w_room, w_tables⟩
theorem atStart : AtStart classFile x code maxLocals ret World_1 tables_1 room_1 Calls_1 rest_1 Pre_1 launch0 p0 e0 about1 theMethod args0 below0 :=
  ⟨lists_1, trivial, launch0.admits_env _ _ _, launch0.least_env, fairChoices_fair.cas, fairChoices_fair.clock, w_frames, w_args, w_heap, w_applies, trivial, trivial, w_case⟩
end start1
theorem witness_1 : WitnessClaimed_1 := ⟨start1.p0, start1.e0, start1.about1, start1.theMethod, start1.args0, start1.below0, start1.atStart⟩
end Jvm.Pilot.@@N@@
