import JvmDerived
import JvmDerived.Pilot.@@N@@Statement
import JvmDerived.Pilot.@@N@@Code
set_option linter.unusedVariables false
set_option linter.unusedSimpArgs false

namespace Jvm.RoadKit
open Sem ClassFile Op Lib Jvm.Stand Jvm.Free Jvm.LawKit
section New
variable {p : Program} {l : Launch} {e : Env} {R : Room} {s : State} {m : MethodId} {args : Array Value} {below : List Frame} {meth : Method} {c : Code} {T : State} {locs : List Loc} {cells slots : Nat}
theorem retI (X : Stand p l e R s m args below meth c T locs cells slots) (hx : p.tables.exec = Jvm.exec) {pc : Nat} {Ls : Array Slot} {z : Int32} {rest : List Value} (hret : meth.sig.returnType = some .int) (hd : decode c.code pc = .ok (.ireturn, 1)) {fs : List Frame}
    (hl : ∀ (f : JFrame) (acts : List Action), f.method = m → f.locked = none → f.entered = [] → (doReturn e (T.setTop f) acts (some (.int z))).1 = T.setFrames fs) : Steps p.tables e below (T.setTop (mkF m pc Ls (.int z :: rest))) (T.setFrames fs) :=
  retOut X hx hret rfl (Or.inl ⟨rfl, Or.inl rfl, z, rfl⟩) hd hl
theorem own_retL (X : Stand p l e R s m args below meth c T locs cells slots) (hx : p.tables.exec = Jvm.exec) {pc : Nat} {Ls : Array Slot} {z : Int64} {rest : List Value} (hret : meth.sig.returnType = some .long) (hd : decode c.code pc = .ok (.lreturn, 1)) {fs : List Frame}
    (hl : ∀ (f : JFrame) (acts : List Action), f.method = m → f.locked = none → f.entered = [] → (doReturn e (T.setTop f) acts (some (.long z))).1 = T.setFrames fs) : Steps p.tables e below (T.setTop (mkF m pc Ls (.long z :: rest))) (T.setFrames fs) :=
  retOut X hx hret rfl (Or.inr (Or.inl ⟨rfl, rfl, z, rfl⟩)) hd hl
theorem own_retA (X : Stand p l e R s m args below meth c T locs cells slots) (hx : p.tables.exec = Jvm.exec) {pc : Nat} {Ls : Array Slot} {w : Value} {t : FieldType} {rest : List Value} (hret : meth.sig.returnType = some t) (ht : t.isReference = true) (hw : w.isRef = true) (hd : decode c.code pc = .ok (.areturn, 1)) {fs : List Frame}
    (hl : ∀ (f : JFrame) (acts : List Action), f.method = m → f.locked = none → f.entered = [] → (doReturn e (T.setTop f) acts (some w)).1 = T.setFrames fs) : Steps p.tables e below (T.setTop (mkF m pc Ls (w :: rest))) (T.setFrames fs) :=
  retOut X hx hret (by cases t <;> first | (cases ht; done) | (cases w <;> first | rfl | cases hw)) (Or.inr (Or.inr (Or.inr (Or.inr ⟨rfl, ht, hw⟩)))) hd hl
theorem own_back {tb : Tables} {e : Env} {below : List Frame} {a b : State} {P : State → Outcome → Prop} (h : ∀ t, Steps tb e below b t → Steps tb e below a t) (k : ∃ t o, Steps tb e below b t ∧ P t o) : ∃ t o, Steps tb e below a t ∧ P t o := by
  obtain ⟨t, o, k1, k2⟩ := k
  exact ⟨t, o, h t k1, k2⟩
theorem own_sta_keep {Z : State} {h h' : Heap} {C n d : String} {v : Value} (F : Sta Z h C n d v) (K : Keep h h' []) : Sta Z h' C n d v := by
  obtain ⟨cf, i, k, f, st, cell, h1, h2, h3, h4, h5, r⟩ := F
  exact ⟨cf, i, k, f, st, cell, h1, h2, h3, h4, K.2.1 _ _ h5 nin0, r⟩
def ElA (Z : State) (h : Heap) (a : Addr) (ty : FieldType) (j : Int32) (v : Value) : Prop := ∃ c : Cell, Arr Z h a c ty ∧ ¬ (j < 0 ∨ c.slots.size ≤ j.toNatClampNeg) ∧ c.slots[j.toNatClampNeg]? = some v
theorem ElA.lt {Z : State} {h : Heap} {a : Addr} {ty : FieldType} {j : Int32} {v : Value} (F : ElA Z h a ty j v) : a < h.size := by obtain ⟨c, A, -⟩ := F; exact A.lt
theorem ElA.ext {Z : State} {h h' : Heap} {a : Addr} {ty : FieldType} {j : Int32} {v : Value} (F : ElA Z h a ty j v) (E : Ext h h') : ElA Z h' a ty j v := by obtain ⟨c, A, r⟩ := F; exact ⟨c, A.ext E, r⟩
theorem ElA.other {Z : State} {h h' : Heap} {a b : Addr} {ty : FieldType} {j : Int32} {v w : Value} {sl : Nat} (F : ElA Z h b ty j v) (W : Wr h h' a sl w) (q : b ≠ a) : ElA Z h' b ty j v := by obtain ⟨c, A, r⟩ := F; exact ⟨c, A.other W q, r⟩
theorem ElA.keep {Z : State} {h h' : Heap} {a : Addr} {ty : FieldType} {j : Int32} {v : Value} {ws : List Addr} (F : ElA Z h a ty j v) (K : Keep h h' ws) (q : a ∉ ws) : ElA Z h' a ty j v := by obtain ⟨c, A, r⟩ := F; exact ⟨c, ⟨K.2.1 a c A.1 q, A.2⟩, r⟩
theorem ElA.store {Z : State} {h h' : Heap} {a : Addr} {ty : FieldType} {j : Int32} {v : Value} {c : Cell} (A : Arr Z h a c ty) (hj : ¬ (j < 0 ∨ c.slots.size ≤ j.toNatClampNeg)) (W : Wr h h' a j.toNatClampNeg v) : ElA Z h' a ty j v :=
  ⟨_, A.same W, by rw [sz_set]; exact hj, get_hit hj rfl⟩
theorem own_same {P : Prop} (h : P) : P := h
theorem own_irr (x : Int32) : ¬ x < x := by rw [Int32.lt_iff_toInt_lt]; omega
theorem own_irrL (x : Int64) : ¬ x < x := by rw [Int64.lt_iff_toInt_lt]; omega
end New
end Jvm.RoadKit
namespace Jvm.Pilot.@@N@@
open Jvm Jvm.ClassFile Sem Op Lib Jvm.Free Jvm.Stand Jvm.LawKit Jvm.RoadKit Bundle Jvm.Pilot.@@N@@.Jvm.D

theorem d1_0 : decode method_2_code 0 = .ok (.iload_n 0, 1) := by decide +kernel
theorem d1_1 : decode method_2_code 1 = .ok (.ifCond .ne 7, 3) := by decide +kernel
theorem d1_4 : decode method_2_code 4 = .ok (.getstatic 7, 3) := by decide +kernel
theorem d1_7 : decode method_2_code 7 = .ok (.areturn, 1) := by decide +kernel
theorem d1_8 : decode method_2_code 8 = .ok (.iload_n 0, 1) := by decide +kernel
theorem d1_9 : decode method_2_code 9 = .ok (.iconst 1, 1) := by decide +kernel
theorem d1_10 : decode method_2_code 10 = .ok (.if_icmp .ne 7, 3) := by decide +kernel
theorem d1_13 : decode method_2_code 13 = .ok (.getstatic 13, 3) := by decide +kernel
theorem d1_16 : decode method_2_code 16 = .ok (.areturn, 1) := by decide +kernel
theorem d1_17 : decode method_2_code 17 = .ok (.iload_n 0, 1) := by decide +kernel
theorem d1_18 : decode method_2_code 18 = .ok (.iconst 2, 1) := by decide +kernel
theorem d1_19 : decode method_2_code 19 = .ok (.if_icmp .ne 7, 3) := by decide +kernel
theorem d1_22 : decode method_2_code 22 = .ok (.getstatic 16, 3) := by decide +kernel
theorem d1_25 : decode method_2_code 25 = .ok (.areturn, 1) := by decide +kernel
theorem d1_26 : decode method_2_code 26 = .ok (.iload_n 0, 1) := by decide +kernel
theorem d1_27 : decode method_2_code 27 = .ok (.iconst 3, 1) := by decide +kernel
theorem d1_28 : decode method_2_code 28 = .ok (.if_icmp .ne 7, 3) := by decide +kernel
theorem d1_31 : decode method_2_code 31 = .ok (.getstatic 19, 3) := by decide +kernel
theorem d1_34 : decode method_2_code 34 = .ok (.areturn, 1) := by decide +kernel
theorem d1_35 : decode method_2_code 35 = .ok (.iload_n 0, 1) := by decide +kernel
theorem d1_36 : decode method_2_code 36 = .ok (.iconst 4, 1) := by decide +kernel
theorem d1_37 : decode method_2_code 37 = .ok (.if_icmp .ne 7, 3) := by decide +kernel
theorem d1_40 : decode method_2_code 40 = .ok (.getstatic 22, 3) := by decide +kernel
theorem d1_43 : decode method_2_code 43 = .ok (.areturn, 1) := by decide +kernel
theorem d1_44 : decode method_2_code 44 = .ok (.iload_n 0, 1) := by decide +kernel
theorem d1_45 : decode method_2_code 45 = .ok (.iconst 5, 1) := by decide +kernel
theorem d1_46 : decode method_2_code 46 = .ok (.if_icmp .ne 7, 3) := by decide +kernel
theorem d1_49 : decode method_2_code 49 = .ok (.getstatic 25, 3) := by decide +kernel
theorem d1_52 : decode method_2_code 52 = .ok (.areturn, 1) := by decide +kernel
theorem d1_53 : decode method_2_code 53 = .ok (.iload_n 0, 1) := by decide +kernel
theorem d1_54 : decode method_2_code 54 = .ok (.bipush 6, 2) := by decide +kernel
theorem d1_56 : decode method_2_code 56 = .ok (.if_icmp .ne 7, 3) := by decide +kernel
theorem d1_59 : decode method_2_code 59 = .ok (.getstatic 28, 3) := by decide +kernel
theorem d1_62 : decode method_2_code 62 = .ok (.areturn, 1) := by decide +kernel
theorem d1_63 : decode method_2_code 63 = .ok (.iload_n 0, 1) := by decide +kernel
theorem d1_64 : decode method_2_code 64 = .ok (.bipush 7, 2) := by decide +kernel
theorem d1_66 : decode method_2_code 66 = .ok (.if_icmp .ne 7, 3) := by decide +kernel
theorem d1_69 : decode method_2_code 69 = .ok (.getstatic 31, 3) := by decide +kernel
theorem d1_72 : decode method_2_code 72 = .ok (.areturn, 1) := by decide +kernel
theorem d1_73 : decode method_2_code 73 = .ok (.iload_n 0, 1) := by decide +kernel
theorem d1_74 : decode method_2_code 74 = .ok (.bipush 8, 2) := by decide +kernel
theorem d1_76 : decode method_2_code 76 = .ok (.if_icmp .ne 7, 3) := by decide +kernel
theorem d1_79 : decode method_2_code 79 = .ok (.getstatic 34, 3) := by decide +kernel
theorem d1_82 : decode method_2_code 82 = .ok (.areturn, 1) := by decide +kernel
theorem d1_83 : decode method_2_code 83 = .ok (.iload_n 0, 1) := by decide +kernel
theorem d1_84 : decode method_2_code 84 = .ok (.bipush 9, 2) := by decide +kernel
theorem d1_86 : decode method_2_code 86 = .ok (.if_icmp .ne 7, 3) := by decide +kernel
theorem d1_89 : decode method_2_code 89 = .ok (.getstatic 37, 3) := by decide +kernel
theorem d1_92 : decode method_2_code 92 = .ok (.areturn, 1) := by decide +kernel
theorem d1_93 : decode method_2_code 93 = .ok (.iload_n 0, 1) := by decide +kernel
theorem d1_94 : decode method_2_code 94 = .ok (.bipush 10, 2) := by decide +kernel
theorem d1_96 : decode method_2_code 96 = .ok (.if_icmp .ne 7, 3) := by decide +kernel
theorem d1_99 : decode method_2_code 99 = .ok (.getstatic 40, 3) := by decide +kernel
theorem d1_102 : decode method_2_code 102 = .ok (.areturn, 1) := by decide +kernel
theorem d1_103 : decode method_2_code 103 = .ok (.iload_n 0, 1) := by decide +kernel
theorem d1_104 : decode method_2_code 104 = .ok (.bipush 11, 2) := by decide +kernel
theorem d1_106 : decode method_2_code 106 = .ok (.if_icmp .ne 7, 3) := by decide +kernel
theorem d1_109 : decode method_2_code 109 = .ok (.getstatic 43, 3) := by decide +kernel
theorem d1_112 : decode method_2_code 112 = .ok (.areturn, 1) := by decide +kernel
theorem d1_113 : decode method_2_code 113 = .ok (.iload_n 0, 1) := by decide +kernel
theorem d1_114 : decode method_2_code 114 = .ok (.bipush 12, 2) := by decide +kernel
theorem d1_116 : decode method_2_code 116 = .ok (.if_icmp .ne 7, 3) := by decide +kernel
theorem d1_119 : decode method_2_code 119 = .ok (.getstatic 46, 3) := by decide +kernel
theorem d1_122 : decode method_2_code 122 = .ok (.areturn, 1) := by decide +kernel
theorem d1_123 : decode method_2_code 123 = .ok (.iload_n 0, 1) := by decide +kernel
theorem d1_124 : decode method_2_code 124 = .ok (.bipush 13, 2) := by decide +kernel
theorem d1_126 : decode method_2_code 126 = .ok (.if_icmp .ne 7, 3) := by decide +kernel
theorem d1_129 : decode method_2_code 129 = .ok (.getstatic 49, 3) := by decide +kernel
theorem d1_132 : decode method_2_code 132 = .ok (.areturn, 1) := by decide +kernel
theorem d1_133 : decode method_2_code 133 = .ok (.getstatic 52, 3) := by decide +kernel
theorem d1_136 : decode method_2_code 136 = .ok (.areturn, 1) := by decide +kernel
theorem pn_1 : plainName "com/example/keptlog/keptlog/protocol/ApiKeySupportsPinLaw" = true := by first | (simp [plainName, overriddenIn]; done) | decide +kernel
theorem ef_1 (m : MethodId) (x0 : Int32) : entryFrame m #[(.int x0)] 1 = mkF m 0 #[.val (.int x0)] [] := by first | (simp [entryFrame, mkF, argsToLocals, Value.category]; done) | rfl
def f1 (p0 : Int32) (w_PRODUCE : Addr) (w_FETCH : Addr) (w_LIST_OFFSETS : Addr) (w_METADATA : Addr) (w_OFFSET_COMMIT : Addr) (w_OFFSET_FETCH : Addr) (w_FIND_COORDINATOR : Addr) (w_JOIN_GROUP : Addr) (w_HEARTBEAT : Addr) (w_LEAVE_GROUP : Addr) (w_SYNC_GROUP : Addr) (w_DESCRIBE_GROUPS : Addr) (w_LIST_GROUPS : Addr) (w_API_VERSIONS : Addr) (w_CREATE_TOPICS : Addr) : Addr := (if p0 = (0 : Int32) then w_PRODUCE else (if p0 = (1 : Int32) then w_FETCH else (if p0 = (2 : Int32) then w_LIST_OFFSETS else (if p0 = (3 : Int32) then w_METADATA else (if p0 = (4 : Int32) then w_OFFSET_COMMIT else (if p0 = (5 : Int32) then w_OFFSET_FETCH else (if p0 = (6 : Int32) then w_FIND_COORDINATOR else (if p0 = (7 : Int32) then w_JOIN_GROUP else (if p0 = (8 : Int32) then w_HEARTBEAT else (if p0 = (9 : Int32) then w_LEAVE_GROUP else (if p0 = (10 : Int32) then w_SYNC_GROUP else (if p0 = (11 : Int32) then w_DESCRIBE_GROUPS else (if p0 = (12 : Int32) then w_LIST_GROUPS else (if p0 = (13 : Int32) then w_API_VERSIONS else w_CREATE_TOPICS))))))))))))))
def Q1 (Z : State) (p0 : Int32) (w_PRODUCE : Addr) (w_FETCH : Addr) (w_LIST_OFFSETS : Addr) (w_METADATA : Addr) (w_OFFSET_COMMIT : Addr) (w_OFFSET_FETCH : Addr) (w_FIND_COORDINATOR : Addr) (w_JOIN_GROUP : Addr) (w_HEARTBEAT : Addr) (w_LEAVE_GROUP : Addr) (w_SYNC_GROUP : Addr) (w_DESCRIBE_GROUPS : Addr) (w_LIST_GROUPS : Addr) (w_API_VERSIONS : Addr) (w_CREATE_TOPICS : Addr) (h0 : Heap) (n0 : Nat) (v : Option Value) (h : Heap) (L : List Loc) : Prop := v = some (.ref (f1 p0 w_PRODUCE w_FETCH w_LIST_OFFSETS w_METADATA w_OFFSET_COMMIT w_OFFSET_FETCH w_FIND_COORDINATOR w_JOIN_GROUP w_HEARTBEAT w_LEAVE_GROUP w_SYNC_GROUP w_DESCRIBE_GROUPS w_LIST_GROUPS w_API_VERSIONS w_CREATE_TOPICS)) ∧ Fr n0 L ∧ h = h0
set_option maxRecDepth 65536 in
set_option maxHeartbeats 40000000 in
theorem rm1 (l : Launch) (Z : State) (aw : Array Value) (hw : ∀ d ∈ tables_1, d.before aw Z = true) (ws : List Jvm.Cond) (p0 : Int32) (w_PRODUCE : Addr) (w_FETCH : Addr) (w_LIST_OFFSETS : Addr) (w_METADATA : Addr) (w_OFFSET_COMMIT : Addr) (w_OFFSET_FETCH : Addr) (w_FIND_COORDINATOR : Addr) (w_JOIN_GROUP : Addr) (w_HEARTBEAT : Addr) (w_LEAVE_GROUP : Addr) (w_SYNC_GROUP : Addr) (w_DESCRIBE_GROUPS : Addr) (w_LIST_GROUPS : Addr) (w_API_VERSIONS : Addr) (w_CREATE_TOPICS : Addr) (h0 : Heap) (n0 : Nat) (Z0 : n0 ≤ h0.size) (S_PRODUCE : Sta Z h0 "com/example/keptlog/keptlog/protocol/ApiKey" "PRODUCE" "Lcom/example/keptlog/keptlog/protocol/ApiKey;" (.ref w_PRODUCE)) (S_FETCH : Sta Z h0 "com/example/keptlog/keptlog/protocol/ApiKey" "FETCH" "Lcom/example/keptlog/keptlog/protocol/ApiKey;" (.ref w_FETCH)) (S_LIST_OFFSETS : Sta Z h0 "com/example/keptlog/keptlog/protocol/ApiKey" "LIST_OFFSETS" "Lcom/example/keptlog/keptlog/protocol/ApiKey;" (.ref w_LIST_OFFSETS)) (S_METADATA : Sta Z h0 "com/example/keptlog/keptlog/protocol/ApiKey" "METADATA" "Lcom/example/keptlog/keptlog/protocol/ApiKey;" (.ref w_METADATA)) (S_OFFSET_COMMIT : Sta Z h0 "com/example/keptlog/keptlog/protocol/ApiKey" "OFFSET_COMMIT" "Lcom/example/keptlog/keptlog/protocol/ApiKey;" (.ref w_OFFSET_COMMIT)) (S_OFFSET_FETCH : Sta Z h0 "com/example/keptlog/keptlog/protocol/ApiKey" "OFFSET_FETCH" "Lcom/example/keptlog/keptlog/protocol/ApiKey;" (.ref w_OFFSET_FETCH)) (S_FIND_COORDINATOR : Sta Z h0 "com/example/keptlog/keptlog/protocol/ApiKey" "FIND_COORDINATOR" "Lcom/example/keptlog/keptlog/protocol/ApiKey;" (.ref w_FIND_COORDINATOR)) (S_JOIN_GROUP : Sta Z h0 "com/example/keptlog/keptlog/protocol/ApiKey" "JOIN_GROUP" "Lcom/example/keptlog/keptlog/protocol/ApiKey;" (.ref w_JOIN_GROUP)) (S_HEARTBEAT : Sta Z h0 "com/example/keptlog/keptlog/protocol/ApiKey" "HEARTBEAT" "Lcom/example/keptlog/keptlog/protocol/ApiKey;" (.ref w_HEARTBEAT)) (S_LEAVE_GROUP : Sta Z h0 "com/example/keptlog/keptlog/protocol/ApiKey" "LEAVE_GROUP" "Lcom/example/keptlog/keptlog/protocol/ApiKey;" (.ref w_LEAVE_GROUP)) (S_SYNC_GROUP : Sta Z h0 "com/example/keptlog/keptlog/protocol/ApiKey" "SYNC_GROUP" "Lcom/example/keptlog/keptlog/protocol/ApiKey;" (.ref w_SYNC_GROUP)) (S_DESCRIBE_GROUPS : Sta Z h0 "com/example/keptlog/keptlog/protocol/ApiKey" "DESCRIBE_GROUPS" "Lcom/example/keptlog/keptlog/protocol/ApiKey;" (.ref w_DESCRIBE_GROUPS)) (S_LIST_GROUPS : Sta Z h0 "com/example/keptlog/keptlog/protocol/ApiKey" "LIST_GROUPS" "Lcom/example/keptlog/keptlog/protocol/ApiKey;" (.ref w_LIST_GROUPS)) (S_API_VERSIONS : Sta Z h0 "com/example/keptlog/keptlog/protocol/ApiKey" "API_VERSIONS" "Lcom/example/keptlog/keptlog/protocol/ApiKey;" (.ref w_API_VERSIONS)) (S_CREATE_TOPICS : Sta Z h0 "com/example/keptlog/keptlog/protocol/ApiKey" "CREATE_TOPICS" "Lcom/example/keptlog/keptlog/protocol/ApiKey;" (.ref w_CREATE_TOPICS)) :
    MetFree l (⟨"com/example/keptlog/keptlog/protocol/ApiKeySupportsPinLaw", "key", "(I)Lcom/example/keptlog/keptlog/protocol/ApiKey;"⟩ : MethodName) (head1 (Jvm.Cond.code (⟨"com/example/keptlog/keptlog/protocol/ApiKeySupportsPinLaw", "key", "(I)Lcom/example/keptlog/keptlog/protocol/ApiKey;"⟩ : MethodName) method_2_code 1 (some (.object "com/example/keptlog/keptlog/protocol/ApiKey")) :: ws) ({ frames := 0, cells := 0, slots := 0, locals := 0 } : Room)) (fun a U => a = #[(.int p0)] ∧ Z.Warmed39 U.vm ∧ U.heap = h0) (fun _ _ _ _ _ => True) (fun _ U o U' => ∃ v L, o = .returned v ∧ Q1 Z p0 w_PRODUCE w_FETCH w_LIST_OFFSETS w_METADATA w_OFFSET_COMMIT w_OFFSET_FETCH w_FIND_COORDINATOR w_JOIN_GROUP w_HEARTBEAT w_LEAVE_GROUP w_SYNC_GROUP w_DESCRIBE_GROUPS w_LIST_GROUPS w_API_VERSIONS w_CREATE_TOPICS h0 n0 v U'.heap L ∧ FrameEnd U o U' L ({ frames := 0, cells := 0, slots := 0, locals := 0 } : Room).cells ({ frames := 0, cells := 0, slots := 0, locals := 0 } : Room).slots) := by
  refine MetFree.of_bodySF (plainFor_of_name pn_1) hisR ?_
  intro p e s m args below meth c s₁ Bd hml0 hP hK
  obtain ⟨rfl, hZ, hh⟩ := hP
  have hx := Bd.exec
  have hby := Bd.bytes
  have hml : c.maxLocals = 1 := hml0
  have hown : s.vm.findClass "com/example/keptlog/keptlog/protocol/ApiKeySupportsPinLaw" = some m.cls := findClass_of_methodNamed Bd.named
  have hnm := (name_of_methodNamed Bd.named Bd.method).1
  have X0 : Stand p l e ({ frames := 0, cells := 0, slots := 0, locals := 0 } : Room) s m #[(.int p0)] below meth c s₁ [] 0 0 := Stand.of_body Bd
  have e0 : s₁.heap = h0 := by rw [← hh, Bd.state]; rfl
  have N0 := Fr.nil n0
  refine own_back (b := s₁.setTop (mkF m 0 #[.val (.int p0)] [])) (fun t kt => castTop (ef_1 m p0) kt) ?_
  refine own_back (b := s₁.setTop (mkF m 1 #[.val (.int p0)] [(.int p0)])) (fun t kt => ?_) ?_
  · show Steps p.tables e below (s₁.setTop (mkF m 0 #[.val (.int p0)] [])) _
    refine XS.iloadN X0.here hx rfl (hb hby d1_0) rfl ?_
    exact kt
  by_cases hc1_1 : p0 = (0 : Int32)
  · obtain ⟨T2, X2, e2, st2⟩ := getS2 X0 hx hZ hown (host := "") (Or.inl (hw _ (List.mem_of_getElem? (i := 6) rfl))) Via.refl e0 S_PRODUCE (g := (mkF m 4 #[.val (.int p0)] [])) rfl (hb hby d1_4)
    refine own_back (b := T2.setTop (mkF m 7 #[.val (.int p0)] [(.ref w_PRODUCE)])) (fun t kt => ?_) ?_
    · show Steps p.tables e below (s₁.setTop (mkF m 1 #[.val (.int p0)] [(.int p0)])) _
      refine XS.ifNo X0.here hx rfl (hb hby d1_1) rfl ((if0 _ _).trans (teq hc1_1).2) ?_
      show Steps p.tables e below (s₁.setTop (mkF m 4 #[.val (.int p0)] [])) _
      refine st2 _ ?_
      exact kt
    obtain ⟨fs, hr, hrun, hended, hW, hsame⟩ := X2.leave (v := some (.ref w_PRODUCE)) (fun h => by rw [Bd.returns] at h; cases h) (BodyLoose.notSynchronized Bd)
    refine ⟨_, _, ?_, hrun, hended, _, _, rfl, ?_, ⟨_, rfl⟩, hW, hsame.mono (by decide) (by decide)⟩
    · show Steps p.tables e below (T2.setTop (mkF m 7 #[.val (.int p0)] [(.ref w_PRODUCE)])) _
      exact own_retA X2 hx Bd.returns rfl rfl (hb hby d1_7) hr
    · show Q1 Z p0 w_PRODUCE w_FETCH w_LIST_OFFSETS w_METADATA w_OFFSET_COMMIT w_OFFSET_FETCH w_FIND_COORDINATOR w_JOIN_GROUP w_HEARTBEAT w_LEAVE_GROUP w_SYNC_GROUP w_DESCRIBE_GROUPS w_LIST_GROUPS w_API_VERSIONS w_CREATE_TOPICS h0 n0 _ T2.heap _
      rw [e2]
      exact ⟨by rw [show f1 p0 w_PRODUCE w_FETCH w_LIST_OFFSETS w_METADATA w_OFFSET_COMMIT w_OFFSET_FETCH w_FIND_COORDINATOR w_JOIN_GROUP w_HEARTBEAT w_LEAVE_GROUP w_SYNC_GROUP w_DESCRIBE_GROUPS w_LIST_GROUPS w_API_VERSIONS w_CREATE_TOPICS = w_PRODUCE from by unfold f1; rw [if_pos hc1_1]], N0, rfl⟩
  · refine own_back (b := s₁.setTop (mkF m 10 #[.val (.int p0)] [(.int (1 : Int32)), (.int p0)])) (fun t kt => ?_) ?_
    · show Steps p.tables e below (s₁.setTop (mkF m 1 #[.val (.int p0)] [(.int p0)])) _
      refine XS.ifYes X0.here hx rfl (pc0 := 1) (pc' := 8) rfl (hb hby d1_1) rfl ((if0 _ _).trans (feq hc1_1).2) (by decide) (by decide) ?_
      show Steps p.tables e below (s₁.setTop (mkF m 8 #[.val (.int p0)] [])) _
      refine XS.iloadN X0.here hx rfl (hb hby d1_8) rfl ?_
      show Steps p.tables e below (s₁.setTop (mkF m 9 #[.val (.int p0)] [(.int p0)])) _
      refine XS.iconst X0.here hx rfl (hb hby d1_9) ?_
      exact kt
    by_cases hc10_3 : p0 = (1 : Int32)
    · obtain ⟨T4, X4, e4, st4⟩ := getS2 X0 hx hZ hown (host := "") (Or.inl (hw _ (List.mem_of_getElem? (i := 22) rfl))) Via.refl e0 S_FETCH (g := (mkF m 13 #[.val (.int p0)] [])) rfl (hb hby d1_13)
      refine own_back (b := T4.setTop (mkF m 16 #[.val (.int p0)] [(.ref w_FETCH)])) (fun t kt => ?_) ?_
      · show Steps p.tables e below (s₁.setTop (mkF m 10 #[.val (.int p0)] [(.int (1 : Int32)), (.int p0)])) _
        refine XS.icmpNo X0.here hx rfl (hb hby d1_10) rfl (teq hc10_3).2 ?_
        show Steps p.tables e below (s₁.setTop (mkF m 13 #[.val (.int p0)] [])) _
        refine st4 _ ?_
        exact kt
      obtain ⟨fs, hr, hrun, hended, hW, hsame⟩ := X4.leave (v := some (.ref w_FETCH)) (fun h => by rw [Bd.returns] at h; cases h) (BodyLoose.notSynchronized Bd)
      refine ⟨_, _, ?_, hrun, hended, _, _, rfl, ?_, ⟨_, rfl⟩, hW, hsame.mono (by decide) (by decide)⟩
      · show Steps p.tables e below (T4.setTop (mkF m 16 #[.val (.int p0)] [(.ref w_FETCH)])) _
        exact own_retA X4 hx Bd.returns rfl rfl (hb hby d1_16) hr
      · show Q1 Z p0 w_PRODUCE w_FETCH w_LIST_OFFSETS w_METADATA w_OFFSET_COMMIT w_OFFSET_FETCH w_FIND_COORDINATOR w_JOIN_GROUP w_HEARTBEAT w_LEAVE_GROUP w_SYNC_GROUP w_DESCRIBE_GROUPS w_LIST_GROUPS w_API_VERSIONS w_CREATE_TOPICS h0 n0 _ T4.heap _
        rw [e4]
        exact ⟨by rw [show f1 p0 w_PRODUCE w_FETCH w_LIST_OFFSETS w_METADATA w_OFFSET_COMMIT w_OFFSET_FETCH w_FIND_COORDINATOR w_JOIN_GROUP w_HEARTBEAT w_LEAVE_GROUP w_SYNC_GROUP w_DESCRIBE_GROUPS w_LIST_GROUPS w_API_VERSIONS w_CREATE_TOPICS = w_FETCH from by unfold f1; rw [if_neg hc1_1, if_pos hc10_3]], N0, rfl⟩
    · refine own_back (b := s₁.setTop (mkF m 19 #[.val (.int p0)] [(.int (2 : Int32)), (.int p0)])) (fun t kt => ?_) ?_
      · show Steps p.tables e below (s₁.setTop (mkF m 10 #[.val (.int p0)] [(.int (1 : Int32)), (.int p0)])) _
        refine XS.icmpYes X0.here hx rfl (pc0 := 10) (pc' := 17) rfl (hb hby d1_10) rfl (feq hc10_3).2 (by decide) (by decide) ?_
        show Steps p.tables e below (s₁.setTop (mkF m 17 #[.val (.int p0)] [])) _
        refine XS.iloadN X0.here hx rfl (hb hby d1_17) rfl ?_
        show Steps p.tables e below (s₁.setTop (mkF m 18 #[.val (.int p0)] [(.int p0)])) _
        refine XS.iconst X0.here hx rfl (hb hby d1_18) ?_
        exact kt
      by_cases hc19_5 : p0 = (2 : Int32)
      · obtain ⟨T6, X6, e6, st6⟩ := getS2 X0 hx hZ hown (host := "") (Or.inl (hw _ (List.mem_of_getElem? (i := 32) rfl))) Via.refl e0 S_LIST_OFFSETS (g := (mkF m 22 #[.val (.int p0)] [])) rfl (hb hby d1_22)
        refine own_back (b := T6.setTop (mkF m 25 #[.val (.int p0)] [(.ref w_LIST_OFFSETS)])) (fun t kt => ?_) ?_
        · show Steps p.tables e below (s₁.setTop (mkF m 19 #[.val (.int p0)] [(.int (2 : Int32)), (.int p0)])) _
          refine XS.icmpNo X0.here hx rfl (hb hby d1_19) rfl (teq hc19_5).2 ?_
          show Steps p.tables e below (s₁.setTop (mkF m 22 #[.val (.int p0)] [])) _
          refine st6 _ ?_
          exact kt
        obtain ⟨fs, hr, hrun, hended, hW, hsame⟩ := X6.leave (v := some (.ref w_LIST_OFFSETS)) (fun h => by rw [Bd.returns] at h; cases h) (BodyLoose.notSynchronized Bd)
        refine ⟨_, _, ?_, hrun, hended, _, _, rfl, ?_, ⟨_, rfl⟩, hW, hsame.mono (by decide) (by decide)⟩
        · show Steps p.tables e below (T6.setTop (mkF m 25 #[.val (.int p0)] [(.ref w_LIST_OFFSETS)])) _
          exact own_retA X6 hx Bd.returns rfl rfl (hb hby d1_25) hr
        · show Q1 Z p0 w_PRODUCE w_FETCH w_LIST_OFFSETS w_METADATA w_OFFSET_COMMIT w_OFFSET_FETCH w_FIND_COORDINATOR w_JOIN_GROUP w_HEARTBEAT w_LEAVE_GROUP w_SYNC_GROUP w_DESCRIBE_GROUPS w_LIST_GROUPS w_API_VERSIONS w_CREATE_TOPICS h0 n0 _ T6.heap _
          rw [e6]
          exact ⟨by rw [show f1 p0 w_PRODUCE w_FETCH w_LIST_OFFSETS w_METADATA w_OFFSET_COMMIT w_OFFSET_FETCH w_FIND_COORDINATOR w_JOIN_GROUP w_HEARTBEAT w_LEAVE_GROUP w_SYNC_GROUP w_DESCRIBE_GROUPS w_LIST_GROUPS w_API_VERSIONS w_CREATE_TOPICS = w_LIST_OFFSETS from by unfold f1; rw [if_neg hc1_1, if_neg hc10_3, if_pos hc19_5]], N0, rfl⟩
      · refine own_back (b := s₁.setTop (mkF m 28 #[.val (.int p0)] [(.int (3 : Int32)), (.int p0)])) (fun t kt => ?_) ?_
        · show Steps p.tables e below (s₁.setTop (mkF m 19 #[.val (.int p0)] [(.int (2 : Int32)), (.int p0)])) _
          refine XS.icmpYes X0.here hx rfl (pc0 := 19) (pc' := 26) rfl (hb hby d1_19) rfl (feq hc19_5).2 (by decide) (by decide) ?_
          show Steps p.tables e below (s₁.setTop (mkF m 26 #[.val (.int p0)] [])) _
          refine XS.iloadN X0.here hx rfl (hb hby d1_26) rfl ?_
          show Steps p.tables e below (s₁.setTop (mkF m 27 #[.val (.int p0)] [(.int p0)])) _
          refine XS.iconst X0.here hx rfl (hb hby d1_27) ?_
          exact kt
        by_cases hc28_7 : p0 = (3 : Int32)
        · obtain ⟨T8, X8, e8, st8⟩ := getS2 X0 hx hZ hown (host := "") (Or.inl (hw _ (List.mem_of_getElem? (i := 24) rfl))) Via.refl e0 S_METADATA (g := (mkF m 31 #[.val (.int p0)] [])) rfl (hb hby d1_31)
          refine own_back (b := T8.setTop (mkF m 34 #[.val (.int p0)] [(.ref w_METADATA)])) (fun t kt => ?_) ?_
          · show Steps p.tables e below (s₁.setTop (mkF m 28 #[.val (.int p0)] [(.int (3 : Int32)), (.int p0)])) _
            refine XS.icmpNo X0.here hx rfl (hb hby d1_28) rfl (teq hc28_7).2 ?_
            show Steps p.tables e below (s₁.setTop (mkF m 31 #[.val (.int p0)] [])) _
            refine st8 _ ?_
            exact kt
          obtain ⟨fs, hr, hrun, hended, hW, hsame⟩ := X8.leave (v := some (.ref w_METADATA)) (fun h => by rw [Bd.returns] at h; cases h) (BodyLoose.notSynchronized Bd)
          refine ⟨_, _, ?_, hrun, hended, _, _, rfl, ?_, ⟨_, rfl⟩, hW, hsame.mono (by decide) (by decide)⟩
          · show Steps p.tables e below (T8.setTop (mkF m 34 #[.val (.int p0)] [(.ref w_METADATA)])) _
            exact own_retA X8 hx Bd.returns rfl rfl (hb hby d1_34) hr
          · show Q1 Z p0 w_PRODUCE w_FETCH w_LIST_OFFSETS w_METADATA w_OFFSET_COMMIT w_OFFSET_FETCH w_FIND_COORDINATOR w_JOIN_GROUP w_HEARTBEAT w_LEAVE_GROUP w_SYNC_GROUP w_DESCRIBE_GROUPS w_LIST_GROUPS w_API_VERSIONS w_CREATE_TOPICS h0 n0 _ T8.heap _
            rw [e8]
            exact ⟨by rw [show f1 p0 w_PRODUCE w_FETCH w_LIST_OFFSETS w_METADATA w_OFFSET_COMMIT w_OFFSET_FETCH w_FIND_COORDINATOR w_JOIN_GROUP w_HEARTBEAT w_LEAVE_GROUP w_SYNC_GROUP w_DESCRIBE_GROUPS w_LIST_GROUPS w_API_VERSIONS w_CREATE_TOPICS = w_METADATA from by unfold f1; rw [if_neg hc1_1, if_neg hc10_3, if_neg hc19_5, if_pos hc28_7]], N0, rfl⟩
        · refine own_back (b := s₁.setTop (mkF m 37 #[.val (.int p0)] [(.int (4 : Int32)), (.int p0)])) (fun t kt => ?_) ?_
          · show Steps p.tables e below (s₁.setTop (mkF m 28 #[.val (.int p0)] [(.int (3 : Int32)), (.int p0)])) _
            refine XS.icmpYes X0.here hx rfl (pc0 := 28) (pc' := 35) rfl (hb hby d1_28) rfl (feq hc28_7).2 (by decide) (by decide) ?_
            show Steps p.tables e below (s₁.setTop (mkF m 35 #[.val (.int p0)] [])) _
            refine XS.iloadN X0.here hx rfl (hb hby d1_35) rfl ?_
            show Steps p.tables e below (s₁.setTop (mkF m 36 #[.val (.int p0)] [(.int p0)])) _
            refine XS.iconst X0.here hx rfl (hb hby d1_36) ?_
            exact kt
          by_cases hc37_9 : p0 = (4 : Int32)
          · obtain ⟨T10, X10, e10, st10⟩ := getS2 X0 hx hZ hown (host := "") (Or.inl (hw _ (List.mem_of_getElem? (i := 20) rfl))) Via.refl e0 S_OFFSET_COMMIT (g := (mkF m 40 #[.val (.int p0)] [])) rfl (hb hby d1_40)
            refine own_back (b := T10.setTop (mkF m 43 #[.val (.int p0)] [(.ref w_OFFSET_COMMIT)])) (fun t kt => ?_) ?_
            · show Steps p.tables e below (s₁.setTop (mkF m 37 #[.val (.int p0)] [(.int (4 : Int32)), (.int p0)])) _
              refine XS.icmpNo X0.here hx rfl (hb hby d1_37) rfl (teq hc37_9).2 ?_
              show Steps p.tables e below (s₁.setTop (mkF m 40 #[.val (.int p0)] [])) _
              refine st10 _ ?_
              exact kt
            obtain ⟨fs, hr, hrun, hended, hW, hsame⟩ := X10.leave (v := some (.ref w_OFFSET_COMMIT)) (fun h => by rw [Bd.returns] at h; cases h) (BodyLoose.notSynchronized Bd)
            refine ⟨_, _, ?_, hrun, hended, _, _, rfl, ?_, ⟨_, rfl⟩, hW, hsame.mono (by decide) (by decide)⟩
            · show Steps p.tables e below (T10.setTop (mkF m 43 #[.val (.int p0)] [(.ref w_OFFSET_COMMIT)])) _
              exact own_retA X10 hx Bd.returns rfl rfl (hb hby d1_43) hr
            · show Q1 Z p0 w_PRODUCE w_FETCH w_LIST_OFFSETS w_METADATA w_OFFSET_COMMIT w_OFFSET_FETCH w_FIND_COORDINATOR w_JOIN_GROUP w_HEARTBEAT w_LEAVE_GROUP w_SYNC_GROUP w_DESCRIBE_GROUPS w_LIST_GROUPS w_API_VERSIONS w_CREATE_TOPICS h0 n0 _ T10.heap _
              rw [e10]
              exact ⟨by rw [show f1 p0 w_PRODUCE w_FETCH w_LIST_OFFSETS w_METADATA w_OFFSET_COMMIT w_OFFSET_FETCH w_FIND_COORDINATOR w_JOIN_GROUP w_HEARTBEAT w_LEAVE_GROUP w_SYNC_GROUP w_DESCRIBE_GROUPS w_LIST_GROUPS w_API_VERSIONS w_CREATE_TOPICS = w_OFFSET_COMMIT from by unfold f1; rw [if_neg hc1_1, if_neg hc10_3, if_neg hc19_5, if_neg hc28_7, if_pos hc37_9]], N0, rfl⟩
          · refine own_back (b := s₁.setTop (mkF m 46 #[.val (.int p0)] [(.int (5 : Int32)), (.int p0)])) (fun t kt => ?_) ?_
            · show Steps p.tables e below (s₁.setTop (mkF m 37 #[.val (.int p0)] [(.int (4 : Int32)), (.int p0)])) _
              refine XS.icmpYes X0.here hx rfl (pc0 := 37) (pc' := 44) rfl (hb hby d1_37) rfl (feq hc37_9).2 (by decide) (by decide) ?_
              show Steps p.tables e below (s₁.setTop (mkF m 44 #[.val (.int p0)] [])) _
              refine XS.iloadN X0.here hx rfl (hb hby d1_44) rfl ?_
              show Steps p.tables e below (s₁.setTop (mkF m 45 #[.val (.int p0)] [(.int p0)])) _
              refine XS.iconst X0.here hx rfl (hb hby d1_45) ?_
              exact kt
            by_cases hc46_11 : p0 = (5 : Int32)
            · obtain ⟨T12, X12, e12, st12⟩ := getS2 X0 hx hZ hown (host := "") (Or.inl (hw _ (List.mem_of_getElem? (i := 40) rfl))) Via.refl e0 S_OFFSET_FETCH (g := (mkF m 49 #[.val (.int p0)] [])) rfl (hb hby d1_49)
              refine own_back (b := T12.setTop (mkF m 52 #[.val (.int p0)] [(.ref w_OFFSET_FETCH)])) (fun t kt => ?_) ?_
              · show Steps p.tables e below (s₁.setTop (mkF m 46 #[.val (.int p0)] [(.int (5 : Int32)), (.int p0)])) _
                refine XS.icmpNo X0.here hx rfl (hb hby d1_46) rfl (teq hc46_11).2 ?_
                show Steps p.tables e below (s₁.setTop (mkF m 49 #[.val (.int p0)] [])) _
                refine st12 _ ?_
                exact kt
              obtain ⟨fs, hr, hrun, hended, hW, hsame⟩ := X12.leave (v := some (.ref w_OFFSET_FETCH)) (fun h => by rw [Bd.returns] at h; cases h) (BodyLoose.notSynchronized Bd)
              refine ⟨_, _, ?_, hrun, hended, _, _, rfl, ?_, ⟨_, rfl⟩, hW, hsame.mono (by decide) (by decide)⟩
              · show Steps p.tables e below (T12.setTop (mkF m 52 #[.val (.int p0)] [(.ref w_OFFSET_FETCH)])) _
                exact own_retA X12 hx Bd.returns rfl rfl (hb hby d1_52) hr
              · show Q1 Z p0 w_PRODUCE w_FETCH w_LIST_OFFSETS w_METADATA w_OFFSET_COMMIT w_OFFSET_FETCH w_FIND_COORDINATOR w_JOIN_GROUP w_HEARTBEAT w_LEAVE_GROUP w_SYNC_GROUP w_DESCRIBE_GROUPS w_LIST_GROUPS w_API_VERSIONS w_CREATE_TOPICS h0 n0 _ T12.heap _
                rw [e12]
                exact ⟨by rw [show f1 p0 w_PRODUCE w_FETCH w_LIST_OFFSETS w_METADATA w_OFFSET_COMMIT w_OFFSET_FETCH w_FIND_COORDINATOR w_JOIN_GROUP w_HEARTBEAT w_LEAVE_GROUP w_SYNC_GROUP w_DESCRIBE_GROUPS w_LIST_GROUPS w_API_VERSIONS w_CREATE_TOPICS = w_OFFSET_FETCH from by unfold f1; rw [if_neg hc1_1, if_neg hc10_3, if_neg hc19_5, if_neg hc28_7, if_neg hc37_9, if_pos hc46_11]], N0, rfl⟩
            · refine own_back (b := s₁.setTop (mkF m 56 #[.val (.int p0)] [(.int (6 : Int32)), (.int p0)])) (fun t kt => ?_) ?_
              · show Steps p.tables e below (s₁.setTop (mkF m 46 #[.val (.int p0)] [(.int (5 : Int32)), (.int p0)])) _
                refine XS.icmpYes X0.here hx rfl (pc0 := 46) (pc' := 53) rfl (hb hby d1_46) rfl (feq hc46_11).2 (by decide) (by decide) ?_
                show Steps p.tables e below (s₁.setTop (mkF m 53 #[.val (.int p0)] [])) _
                refine XS.iloadN X0.here hx rfl (hb hby d1_53) rfl ?_
                show Steps p.tables e below (s₁.setTop (mkF m 54 #[.val (.int p0)] [(.int p0)])) _
                refine XS.bipush X0.here hx rfl (hb hby d1_54) ?_
                exact kt
              by_cases hc56_13 : p0 = (6 : Int32)
              · obtain ⟨T14, X14, e14, st14⟩ := getS2 X0 hx hZ hown (host := "") (Or.inl (hw _ (List.mem_of_getElem? (i := 28) rfl))) Via.refl e0 S_FIND_COORDINATOR (g := (mkF m 59 #[.val (.int p0)] [])) rfl (hb hby d1_59)
                refine own_back (b := T14.setTop (mkF m 62 #[.val (.int p0)] [(.ref w_FIND_COORDINATOR)])) (fun t kt => ?_) ?_
                · show Steps p.tables e below (s₁.setTop (mkF m 56 #[.val (.int p0)] [(.int (6 : Int32)), (.int p0)])) _
                  refine XS.icmpNo X0.here hx rfl (hb hby d1_56) rfl (teq hc56_13).2 ?_
                  show Steps p.tables e below (s₁.setTop (mkF m 59 #[.val (.int p0)] [])) _
                  refine st14 _ ?_
                  exact kt
                obtain ⟨fs, hr, hrun, hended, hW, hsame⟩ := X14.leave (v := some (.ref w_FIND_COORDINATOR)) (fun h => by rw [Bd.returns] at h; cases h) (BodyLoose.notSynchronized Bd)
                refine ⟨_, _, ?_, hrun, hended, _, _, rfl, ?_, ⟨_, rfl⟩, hW, hsame.mono (by decide) (by decide)⟩
                · show Steps p.tables e below (T14.setTop (mkF m 62 #[.val (.int p0)] [(.ref w_FIND_COORDINATOR)])) _
                  exact own_retA X14 hx Bd.returns rfl rfl (hb hby d1_62) hr
                · show Q1 Z p0 w_PRODUCE w_FETCH w_LIST_OFFSETS w_METADATA w_OFFSET_COMMIT w_OFFSET_FETCH w_FIND_COORDINATOR w_JOIN_GROUP w_HEARTBEAT w_LEAVE_GROUP w_SYNC_GROUP w_DESCRIBE_GROUPS w_LIST_GROUPS w_API_VERSIONS w_CREATE_TOPICS h0 n0 _ T14.heap _
                  rw [e14]
                  exact ⟨by rw [show f1 p0 w_PRODUCE w_FETCH w_LIST_OFFSETS w_METADATA w_OFFSET_COMMIT w_OFFSET_FETCH w_FIND_COORDINATOR w_JOIN_GROUP w_HEARTBEAT w_LEAVE_GROUP w_SYNC_GROUP w_DESCRIBE_GROUPS w_LIST_GROUPS w_API_VERSIONS w_CREATE_TOPICS = w_FIND_COORDINATOR from by unfold f1; rw [if_neg hc1_1, if_neg hc10_3, if_neg hc19_5, if_neg hc28_7, if_neg hc37_9, if_neg hc46_11, if_pos hc56_13]], N0, rfl⟩
              · refine own_back (b := s₁.setTop (mkF m 66 #[.val (.int p0)] [(.int (7 : Int32)), (.int p0)])) (fun t kt => ?_) ?_
                · show Steps p.tables e below (s₁.setTop (mkF m 56 #[.val (.int p0)] [(.int (6 : Int32)), (.int p0)])) _
                  refine XS.icmpYes X0.here hx rfl (pc0 := 56) (pc' := 63) rfl (hb hby d1_56) rfl (feq hc56_13).2 (by decide) (by decide) ?_
                  show Steps p.tables e below (s₁.setTop (mkF m 63 #[.val (.int p0)] [])) _
                  refine XS.iloadN X0.here hx rfl (hb hby d1_63) rfl ?_
                  show Steps p.tables e below (s₁.setTop (mkF m 64 #[.val (.int p0)] [(.int p0)])) _
                  refine XS.bipush X0.here hx rfl (hb hby d1_64) ?_
                  exact kt
                by_cases hc66_15 : p0 = (7 : Int32)
                · obtain ⟨T16, X16, e16, st16⟩ := getS2 X0 hx hZ hown (host := "") (Or.inl (hw _ (List.mem_of_getElem? (i := 36) rfl))) Via.refl e0 S_JOIN_GROUP (g := (mkF m 69 #[.val (.int p0)] [])) rfl (hb hby d1_69)
                  refine own_back (b := T16.setTop (mkF m 72 #[.val (.int p0)] [(.ref w_JOIN_GROUP)])) (fun t kt => ?_) ?_
                  · show Steps p.tables e below (s₁.setTop (mkF m 66 #[.val (.int p0)] [(.int (7 : Int32)), (.int p0)])) _
                    refine XS.icmpNo X0.here hx rfl (hb hby d1_66) rfl (teq hc66_15).2 ?_
                    show Steps p.tables e below (s₁.setTop (mkF m 69 #[.val (.int p0)] [])) _
                    refine st16 _ ?_
                    exact kt
                  obtain ⟨fs, hr, hrun, hended, hW, hsame⟩ := X16.leave (v := some (.ref w_JOIN_GROUP)) (fun h => by rw [Bd.returns] at h; cases h) (BodyLoose.notSynchronized Bd)
                  refine ⟨_, _, ?_, hrun, hended, _, _, rfl, ?_, ⟨_, rfl⟩, hW, hsame.mono (by decide) (by decide)⟩
                  · show Steps p.tables e below (T16.setTop (mkF m 72 #[.val (.int p0)] [(.ref w_JOIN_GROUP)])) _
                    exact own_retA X16 hx Bd.returns rfl rfl (hb hby d1_72) hr
                  · show Q1 Z p0 w_PRODUCE w_FETCH w_LIST_OFFSETS w_METADATA w_OFFSET_COMMIT w_OFFSET_FETCH w_FIND_COORDINATOR w_JOIN_GROUP w_HEARTBEAT w_LEAVE_GROUP w_SYNC_GROUP w_DESCRIBE_GROUPS w_LIST_GROUPS w_API_VERSIONS w_CREATE_TOPICS h0 n0 _ T16.heap _
                    rw [e16]
                    exact ⟨by rw [show f1 p0 w_PRODUCE w_FETCH w_LIST_OFFSETS w_METADATA w_OFFSET_COMMIT w_OFFSET_FETCH w_FIND_COORDINATOR w_JOIN_GROUP w_HEARTBEAT w_LEAVE_GROUP w_SYNC_GROUP w_DESCRIBE_GROUPS w_LIST_GROUPS w_API_VERSIONS w_CREATE_TOPICS = w_JOIN_GROUP from by unfold f1; rw [if_neg hc1_1, if_neg hc10_3, if_neg hc19_5, if_neg hc28_7, if_neg hc37_9, if_neg hc46_11, if_neg hc56_13, if_pos hc66_15]], N0, rfl⟩
                · refine own_back (b := s₁.setTop (mkF m 76 #[.val (.int p0)] [(.int (8 : Int32)), (.int p0)])) (fun t kt => ?_) ?_
                  · show Steps p.tables e below (s₁.setTop (mkF m 66 #[.val (.int p0)] [(.int (7 : Int32)), (.int p0)])) _
                    refine XS.icmpYes X0.here hx rfl (pc0 := 66) (pc' := 73) rfl (hb hby d1_66) rfl (feq hc66_15).2 (by decide) (by decide) ?_
                    show Steps p.tables e below (s₁.setTop (mkF m 73 #[.val (.int p0)] [])) _
                    refine XS.iloadN X0.here hx rfl (hb hby d1_73) rfl ?_
                    show Steps p.tables e below (s₁.setTop (mkF m 74 #[.val (.int p0)] [(.int p0)])) _
                    refine XS.bipush X0.here hx rfl (hb hby d1_74) ?_
                    exact kt
                  by_cases hc76_17 : p0 = (8 : Int32)
                  · obtain ⟨T18, X18, e18, st18⟩ := getS2 X0 hx hZ hown (host := "") (Or.inl (hw _ (List.mem_of_getElem? (i := 30) rfl))) Via.refl e0 S_HEARTBEAT (g := (mkF m 79 #[.val (.int p0)] [])) rfl (hb hby d1_79)
                    refine own_back (b := T18.setTop (mkF m 82 #[.val (.int p0)] [(.ref w_HEARTBEAT)])) (fun t kt => ?_) ?_
                    · show Steps p.tables e below (s₁.setTop (mkF m 76 #[.val (.int p0)] [(.int (8 : Int32)), (.int p0)])) _
                      refine XS.icmpNo X0.here hx rfl (hb hby d1_76) rfl (teq hc76_17).2 ?_
                      show Steps p.tables e below (s₁.setTop (mkF m 79 #[.val (.int p0)] [])) _
                      refine st18 _ ?_
                      exact kt
                    obtain ⟨fs, hr, hrun, hended, hW, hsame⟩ := X18.leave (v := some (.ref w_HEARTBEAT)) (fun h => by rw [Bd.returns] at h; cases h) (BodyLoose.notSynchronized Bd)
                    refine ⟨_, _, ?_, hrun, hended, _, _, rfl, ?_, ⟨_, rfl⟩, hW, hsame.mono (by decide) (by decide)⟩
                    · show Steps p.tables e below (T18.setTop (mkF m 82 #[.val (.int p0)] [(.ref w_HEARTBEAT)])) _
                      exact own_retA X18 hx Bd.returns rfl rfl (hb hby d1_82) hr
                    · show Q1 Z p0 w_PRODUCE w_FETCH w_LIST_OFFSETS w_METADATA w_OFFSET_COMMIT w_OFFSET_FETCH w_FIND_COORDINATOR w_JOIN_GROUP w_HEARTBEAT w_LEAVE_GROUP w_SYNC_GROUP w_DESCRIBE_GROUPS w_LIST_GROUPS w_API_VERSIONS w_CREATE_TOPICS h0 n0 _ T18.heap _
                      rw [e18]
                      exact ⟨by rw [show f1 p0 w_PRODUCE w_FETCH w_LIST_OFFSETS w_METADATA w_OFFSET_COMMIT w_OFFSET_FETCH w_FIND_COORDINATOR w_JOIN_GROUP w_HEARTBEAT w_LEAVE_GROUP w_SYNC_GROUP w_DESCRIBE_GROUPS w_LIST_GROUPS w_API_VERSIONS w_CREATE_TOPICS = w_HEARTBEAT from by unfold f1; rw [if_neg hc1_1, if_neg hc10_3, if_neg hc19_5, if_neg hc28_7, if_neg hc37_9, if_neg hc46_11, if_neg hc56_13, if_neg hc66_15, if_pos hc76_17]], N0, rfl⟩
                  · refine own_back (b := s₁.setTop (mkF m 86 #[.val (.int p0)] [(.int (9 : Int32)), (.int p0)])) (fun t kt => ?_) ?_
                    · show Steps p.tables e below (s₁.setTop (mkF m 76 #[.val (.int p0)] [(.int (8 : Int32)), (.int p0)])) _
                      refine XS.icmpYes X0.here hx rfl (pc0 := 76) (pc' := 83) rfl (hb hby d1_76) rfl (feq hc76_17).2 (by decide) (by decide) ?_
                      show Steps p.tables e below (s₁.setTop (mkF m 83 #[.val (.int p0)] [])) _
                      refine XS.iloadN X0.here hx rfl (hb hby d1_83) rfl ?_
                      show Steps p.tables e below (s₁.setTop (mkF m 84 #[.val (.int p0)] [(.int p0)])) _
                      refine XS.bipush X0.here hx rfl (hb hby d1_84) ?_
                      exact kt
                    by_cases hc86_19 : p0 = (9 : Int32)
                    · obtain ⟨T20, X20, e20, st20⟩ := getS2 X0 hx hZ hown (host := "") (Or.inl (hw _ (List.mem_of_getElem? (i := 42) rfl))) Via.refl e0 S_LEAVE_GROUP (g := (mkF m 89 #[.val (.int p0)] [])) rfl (hb hby d1_89)
                      refine own_back (b := T20.setTop (mkF m 92 #[.val (.int p0)] [(.ref w_LEAVE_GROUP)])) (fun t kt => ?_) ?_
                      · show Steps p.tables e below (s₁.setTop (mkF m 86 #[.val (.int p0)] [(.int (9 : Int32)), (.int p0)])) _
                        refine XS.icmpNo X0.here hx rfl (hb hby d1_86) rfl (teq hc86_19).2 ?_
                        show Steps p.tables e below (s₁.setTop (mkF m 89 #[.val (.int p0)] [])) _
                        refine st20 _ ?_
                        exact kt
                      obtain ⟨fs, hr, hrun, hended, hW, hsame⟩ := X20.leave (v := some (.ref w_LEAVE_GROUP)) (fun h => by rw [Bd.returns] at h; cases h) (BodyLoose.notSynchronized Bd)
                      refine ⟨_, _, ?_, hrun, hended, _, _, rfl, ?_, ⟨_, rfl⟩, hW, hsame.mono (by decide) (by decide)⟩
                      · show Steps p.tables e below (T20.setTop (mkF m 92 #[.val (.int p0)] [(.ref w_LEAVE_GROUP)])) _
                        exact own_retA X20 hx Bd.returns rfl rfl (hb hby d1_92) hr
                      · show Q1 Z p0 w_PRODUCE w_FETCH w_LIST_OFFSETS w_METADATA w_OFFSET_COMMIT w_OFFSET_FETCH w_FIND_COORDINATOR w_JOIN_GROUP w_HEARTBEAT w_LEAVE_GROUP w_SYNC_GROUP w_DESCRIBE_GROUPS w_LIST_GROUPS w_API_VERSIONS w_CREATE_TOPICS h0 n0 _ T20.heap _
                        rw [e20]
                        exact ⟨by rw [show f1 p0 w_PRODUCE w_FETCH w_LIST_OFFSETS w_METADATA w_OFFSET_COMMIT w_OFFSET_FETCH w_FIND_COORDINATOR w_JOIN_GROUP w_HEARTBEAT w_LEAVE_GROUP w_SYNC_GROUP w_DESCRIBE_GROUPS w_LIST_GROUPS w_API_VERSIONS w_CREATE_TOPICS = w_LEAVE_GROUP from by unfold f1; rw [if_neg hc1_1, if_neg hc10_3, if_neg hc19_5, if_neg hc28_7, if_neg hc37_9, if_neg hc46_11, if_neg hc56_13, if_neg hc66_15, if_neg hc76_17, if_pos hc86_19]], N0, rfl⟩
                    · refine own_back (b := s₁.setTop (mkF m 96 #[.val (.int p0)] [(.int (10 : Int32)), (.int p0)])) (fun t kt => ?_) ?_
                      · show Steps p.tables e below (s₁.setTop (mkF m 86 #[.val (.int p0)] [(.int (9 : Int32)), (.int p0)])) _
                        refine XS.icmpYes X0.here hx rfl (pc0 := 86) (pc' := 93) rfl (hb hby d1_86) rfl (feq hc86_19).2 (by decide) (by decide) ?_
                        show Steps p.tables e below (s₁.setTop (mkF m 93 #[.val (.int p0)] [])) _
                        refine XS.iloadN X0.here hx rfl (hb hby d1_93) rfl ?_
                        show Steps p.tables e below (s₁.setTop (mkF m 94 #[.val (.int p0)] [(.int p0)])) _
                        refine XS.bipush X0.here hx rfl (hb hby d1_94) ?_
                        exact kt
                      by_cases hc96_21 : p0 = (10 : Int32)
                      · obtain ⟨T22, X22, e22, st22⟩ := getS2 X0 hx hZ hown (host := "") (Or.inl (hw _ (List.mem_of_getElem? (i := 38) rfl))) Via.refl e0 S_SYNC_GROUP (g := (mkF m 99 #[.val (.int p0)] [])) rfl (hb hby d1_99)
                        refine own_back (b := T22.setTop (mkF m 102 #[.val (.int p0)] [(.ref w_SYNC_GROUP)])) (fun t kt => ?_) ?_
                        · show Steps p.tables e below (s₁.setTop (mkF m 96 #[.val (.int p0)] [(.int (10 : Int32)), (.int p0)])) _
                          refine XS.icmpNo X0.here hx rfl (hb hby d1_96) rfl (teq hc96_21).2 ?_
                          show Steps p.tables e below (s₁.setTop (mkF m 99 #[.val (.int p0)] [])) _
                          refine st22 _ ?_
                          exact kt
                        obtain ⟨fs, hr, hrun, hended, hW, hsame⟩ := X22.leave (v := some (.ref w_SYNC_GROUP)) (fun h => by rw [Bd.returns] at h; cases h) (BodyLoose.notSynchronized Bd)
                        refine ⟨_, _, ?_, hrun, hended, _, _, rfl, ?_, ⟨_, rfl⟩, hW, hsame.mono (by decide) (by decide)⟩
                        · show Steps p.tables e below (T22.setTop (mkF m 102 #[.val (.int p0)] [(.ref w_SYNC_GROUP)])) _
                          exact own_retA X22 hx Bd.returns rfl rfl (hb hby d1_102) hr
                        · show Q1 Z p0 w_PRODUCE w_FETCH w_LIST_OFFSETS w_METADATA w_OFFSET_COMMIT w_OFFSET_FETCH w_FIND_COORDINATOR w_JOIN_GROUP w_HEARTBEAT w_LEAVE_GROUP w_SYNC_GROUP w_DESCRIBE_GROUPS w_LIST_GROUPS w_API_VERSIONS w_CREATE_TOPICS h0 n0 _ T22.heap _
                          rw [e22]
                          exact ⟨by rw [show f1 p0 w_PRODUCE w_FETCH w_LIST_OFFSETS w_METADATA w_OFFSET_COMMIT w_OFFSET_FETCH w_FIND_COORDINATOR w_JOIN_GROUP w_HEARTBEAT w_LEAVE_GROUP w_SYNC_GROUP w_DESCRIBE_GROUPS w_LIST_GROUPS w_API_VERSIONS w_CREATE_TOPICS = w_SYNC_GROUP from by unfold f1; rw [if_neg hc1_1, if_neg hc10_3, if_neg hc19_5, if_neg hc28_7, if_neg hc37_9, if_neg hc46_11, if_neg hc56_13, if_neg hc66_15, if_neg hc76_17, if_neg hc86_19, if_pos hc96_21]], N0, rfl⟩
                      · refine own_back (b := s₁.setTop (mkF m 106 #[.val (.int p0)] [(.int (11 : Int32)), (.int p0)])) (fun t kt => ?_) ?_
                        · show Steps p.tables e below (s₁.setTop (mkF m 96 #[.val (.int p0)] [(.int (10 : Int32)), (.int p0)])) _
                          refine XS.icmpYes X0.here hx rfl (pc0 := 96) (pc' := 103) rfl (hb hby d1_96) rfl (feq hc96_21).2 (by decide) (by decide) ?_
                          show Steps p.tables e below (s₁.setTop (mkF m 103 #[.val (.int p0)] [])) _
                          refine XS.iloadN X0.here hx rfl (hb hby d1_103) rfl ?_
                          show Steps p.tables e below (s₁.setTop (mkF m 104 #[.val (.int p0)] [(.int p0)])) _
                          refine XS.bipush X0.here hx rfl (hb hby d1_104) ?_
                          exact kt
                        by_cases hc106_23 : p0 = (11 : Int32)
                        · obtain ⟨T24, X24, e24, st24⟩ := getS2 X0 hx hZ hown (host := "") (Or.inl (hw _ (List.mem_of_getElem? (i := 44) rfl))) Via.refl e0 S_DESCRIBE_GROUPS (g := (mkF m 109 #[.val (.int p0)] [])) rfl (hb hby d1_109)
                          refine own_back (b := T24.setTop (mkF m 112 #[.val (.int p0)] [(.ref w_DESCRIBE_GROUPS)])) (fun t kt => ?_) ?_
                          · show Steps p.tables e below (s₁.setTop (mkF m 106 #[.val (.int p0)] [(.int (11 : Int32)), (.int p0)])) _
                            refine XS.icmpNo X0.here hx rfl (hb hby d1_106) rfl (teq hc106_23).2 ?_
                            show Steps p.tables e below (s₁.setTop (mkF m 109 #[.val (.int p0)] [])) _
                            refine st24 _ ?_
                            exact kt
                          obtain ⟨fs, hr, hrun, hended, hW, hsame⟩ := X24.leave (v := some (.ref w_DESCRIBE_GROUPS)) (fun h => by rw [Bd.returns] at h; cases h) (BodyLoose.notSynchronized Bd)
                          refine ⟨_, _, ?_, hrun, hended, _, _, rfl, ?_, ⟨_, rfl⟩, hW, hsame.mono (by decide) (by decide)⟩
                          · show Steps p.tables e below (T24.setTop (mkF m 112 #[.val (.int p0)] [(.ref w_DESCRIBE_GROUPS)])) _
                            exact own_retA X24 hx Bd.returns rfl rfl (hb hby d1_112) hr
                          · show Q1 Z p0 w_PRODUCE w_FETCH w_LIST_OFFSETS w_METADATA w_OFFSET_COMMIT w_OFFSET_FETCH w_FIND_COORDINATOR w_JOIN_GROUP w_HEARTBEAT w_LEAVE_GROUP w_SYNC_GROUP w_DESCRIBE_GROUPS w_LIST_GROUPS w_API_VERSIONS w_CREATE_TOPICS h0 n0 _ T24.heap _
                            rw [e24]
                            exact ⟨by rw [show f1 p0 w_PRODUCE w_FETCH w_LIST_OFFSETS w_METADATA w_OFFSET_COMMIT w_OFFSET_FETCH w_FIND_COORDINATOR w_JOIN_GROUP w_HEARTBEAT w_LEAVE_GROUP w_SYNC_GROUP w_DESCRIBE_GROUPS w_LIST_GROUPS w_API_VERSIONS w_CREATE_TOPICS = w_DESCRIBE_GROUPS from by unfold f1; rw [if_neg hc1_1, if_neg hc10_3, if_neg hc19_5, if_neg hc28_7, if_neg hc37_9, if_neg hc46_11, if_neg hc56_13, if_neg hc66_15, if_neg hc76_17, if_neg hc86_19, if_neg hc96_21, if_pos hc106_23]], N0, rfl⟩
                        · refine own_back (b := s₁.setTop (mkF m 116 #[.val (.int p0)] [(.int (12 : Int32)), (.int p0)])) (fun t kt => ?_) ?_
                          · show Steps p.tables e below (s₁.setTop (mkF m 106 #[.val (.int p0)] [(.int (11 : Int32)), (.int p0)])) _
                            refine XS.icmpYes X0.here hx rfl (pc0 := 106) (pc' := 113) rfl (hb hby d1_106) rfl (feq hc106_23).2 (by decide) (by decide) ?_
                            show Steps p.tables e below (s₁.setTop (mkF m 113 #[.val (.int p0)] [])) _
                            refine XS.iloadN X0.here hx rfl (hb hby d1_113) rfl ?_
                            show Steps p.tables e below (s₁.setTop (mkF m 114 #[.val (.int p0)] [(.int p0)])) _
                            refine XS.bipush X0.here hx rfl (hb hby d1_114) ?_
                            exact kt
                          by_cases hc116_25 : p0 = (12 : Int32)
                          · obtain ⟨T26, X26, e26, st26⟩ := getS2 X0 hx hZ hown (host := "") (Or.inl (hw _ (List.mem_of_getElem? (i := 18) rfl))) Via.refl e0 S_LIST_GROUPS (g := (mkF m 119 #[.val (.int p0)] [])) rfl (hb hby d1_119)
                            refine own_back (b := T26.setTop (mkF m 122 #[.val (.int p0)] [(.ref w_LIST_GROUPS)])) (fun t kt => ?_) ?_
                            · show Steps p.tables e below (s₁.setTop (mkF m 116 #[.val (.int p0)] [(.int (12 : Int32)), (.int p0)])) _
                              refine XS.icmpNo X0.here hx rfl (hb hby d1_116) rfl (teq hc116_25).2 ?_
                              show Steps p.tables e below (s₁.setTop (mkF m 119 #[.val (.int p0)] [])) _
                              refine st26 _ ?_
                              exact kt
                            obtain ⟨fs, hr, hrun, hended, hW, hsame⟩ := X26.leave (v := some (.ref w_LIST_GROUPS)) (fun h => by rw [Bd.returns] at h; cases h) (BodyLoose.notSynchronized Bd)
                            refine ⟨_, _, ?_, hrun, hended, _, _, rfl, ?_, ⟨_, rfl⟩, hW, hsame.mono (by decide) (by decide)⟩
                            · show Steps p.tables e below (T26.setTop (mkF m 122 #[.val (.int p0)] [(.ref w_LIST_GROUPS)])) _
                              exact own_retA X26 hx Bd.returns rfl rfl (hb hby d1_122) hr
                            · show Q1 Z p0 w_PRODUCE w_FETCH w_LIST_OFFSETS w_METADATA w_OFFSET_COMMIT w_OFFSET_FETCH w_FIND_COORDINATOR w_JOIN_GROUP w_HEARTBEAT w_LEAVE_GROUP w_SYNC_GROUP w_DESCRIBE_GROUPS w_LIST_GROUPS w_API_VERSIONS w_CREATE_TOPICS h0 n0 _ T26.heap _
                              rw [e26]
                              exact ⟨by rw [show f1 p0 w_PRODUCE w_FETCH w_LIST_OFFSETS w_METADATA w_OFFSET_COMMIT w_OFFSET_FETCH w_FIND_COORDINATOR w_JOIN_GROUP w_HEARTBEAT w_LEAVE_GROUP w_SYNC_GROUP w_DESCRIBE_GROUPS w_LIST_GROUPS w_API_VERSIONS w_CREATE_TOPICS = w_LIST_GROUPS from by unfold f1; rw [if_neg hc1_1, if_neg hc10_3, if_neg hc19_5, if_neg hc28_7, if_neg hc37_9, if_neg hc46_11, if_neg hc56_13, if_neg hc66_15, if_neg hc76_17, if_neg hc86_19, if_neg hc96_21, if_neg hc106_23, if_pos hc116_25]], N0, rfl⟩
                          · refine own_back (b := s₁.setTop (mkF m 126 #[.val (.int p0)] [(.int (13 : Int32)), (.int p0)])) (fun t kt => ?_) ?_
                            · show Steps p.tables e below (s₁.setTop (mkF m 116 #[.val (.int p0)] [(.int (12 : Int32)), (.int p0)])) _
                              refine XS.icmpYes X0.here hx rfl (pc0 := 116) (pc' := 123) rfl (hb hby d1_116) rfl (feq hc116_25).2 (by decide) (by decide) ?_
                              show Steps p.tables e below (s₁.setTop (mkF m 123 #[.val (.int p0)] [])) _
                              refine XS.iloadN X0.here hx rfl (hb hby d1_123) rfl ?_
                              show Steps p.tables e below (s₁.setTop (mkF m 124 #[.val (.int p0)] [(.int p0)])) _
                              refine XS.bipush X0.here hx rfl (hb hby d1_124) ?_
                              exact kt
                            by_cases hc126_27 : p0 = (13 : Int32)
                            · obtain ⟨T28, X28, e28, st28⟩ := getS2 X0 hx hZ hown (host := "") (Or.inl (hw _ (List.mem_of_getElem? (i := 34) rfl))) Via.refl e0 S_API_VERSIONS (g := (mkF m 129 #[.val (.int p0)] [])) rfl (hb hby d1_129)
                              refine own_back (b := T28.setTop (mkF m 132 #[.val (.int p0)] [(.ref w_API_VERSIONS)])) (fun t kt => ?_) ?_
                              · show Steps p.tables e below (s₁.setTop (mkF m 126 #[.val (.int p0)] [(.int (13 : Int32)), (.int p0)])) _
                                refine XS.icmpNo X0.here hx rfl (hb hby d1_126) rfl (teq hc126_27).2 ?_
                                show Steps p.tables e below (s₁.setTop (mkF m 129 #[.val (.int p0)] [])) _
                                refine st28 _ ?_
                                exact kt
                              obtain ⟨fs, hr, hrun, hended, hW, hsame⟩ := X28.leave (v := some (.ref w_API_VERSIONS)) (fun h => by rw [Bd.returns] at h; cases h) (BodyLoose.notSynchronized Bd)
                              refine ⟨_, _, ?_, hrun, hended, _, _, rfl, ?_, ⟨_, rfl⟩, hW, hsame.mono (by decide) (by decide)⟩
                              · show Steps p.tables e below (T28.setTop (mkF m 132 #[.val (.int p0)] [(.ref w_API_VERSIONS)])) _
                                exact own_retA X28 hx Bd.returns rfl rfl (hb hby d1_132) hr
                              · show Q1 Z p0 w_PRODUCE w_FETCH w_LIST_OFFSETS w_METADATA w_OFFSET_COMMIT w_OFFSET_FETCH w_FIND_COORDINATOR w_JOIN_GROUP w_HEARTBEAT w_LEAVE_GROUP w_SYNC_GROUP w_DESCRIBE_GROUPS w_LIST_GROUPS w_API_VERSIONS w_CREATE_TOPICS h0 n0 _ T28.heap _
                                rw [e28]
                                exact ⟨by rw [show f1 p0 w_PRODUCE w_FETCH w_LIST_OFFSETS w_METADATA w_OFFSET_COMMIT w_OFFSET_FETCH w_FIND_COORDINATOR w_JOIN_GROUP w_HEARTBEAT w_LEAVE_GROUP w_SYNC_GROUP w_DESCRIBE_GROUPS w_LIST_GROUPS w_API_VERSIONS w_CREATE_TOPICS = w_API_VERSIONS from by unfold f1; rw [if_neg hc1_1, if_neg hc10_3, if_neg hc19_5, if_neg hc28_7, if_neg hc37_9, if_neg hc46_11, if_neg hc56_13, if_neg hc66_15, if_neg hc76_17, if_neg hc86_19, if_neg hc96_21, if_neg hc106_23, if_neg hc116_25, if_pos hc126_27]], N0, rfl⟩
                            · obtain ⟨T29, X29, e29, st29⟩ := getS2 X0 hx hZ hown (host := "") (Or.inl (hw _ (List.mem_of_getElem? (i := 26) rfl))) Via.refl e0 S_CREATE_TOPICS (g := (mkF m 133 #[.val (.int p0)] [])) rfl (hb hby d1_133)
                              refine own_back (b := T29.setTop (mkF m 136 #[.val (.int p0)] [(.ref w_CREATE_TOPICS)])) (fun t kt => ?_) ?_
                              · show Steps p.tables e below (s₁.setTop (mkF m 126 #[.val (.int p0)] [(.int (13 : Int32)), (.int p0)])) _
                                refine XS.icmpYes X0.here hx rfl (pc0 := 126) (pc' := 133) rfl (hb hby d1_126) rfl (feq hc126_27).2 (by decide) (by decide) ?_
                                show Steps p.tables e below (s₁.setTop (mkF m 133 #[.val (.int p0)] [])) _
                                refine st29 _ ?_
                                exact kt
                              obtain ⟨fs, hr, hrun, hended, hW, hsame⟩ := X29.leave (v := some (.ref w_CREATE_TOPICS)) (fun h => by rw [Bd.returns] at h; cases h) (BodyLoose.notSynchronized Bd)
                              refine ⟨_, _, ?_, hrun, hended, _, _, rfl, ?_, ⟨_, rfl⟩, hW, hsame.mono (by decide) (by decide)⟩
                              · show Steps p.tables e below (T29.setTop (mkF m 136 #[.val (.int p0)] [(.ref w_CREATE_TOPICS)])) _
                                exact own_retA X29 hx Bd.returns rfl rfl (hb hby d1_136) hr
                              · show Q1 Z p0 w_PRODUCE w_FETCH w_LIST_OFFSETS w_METADATA w_OFFSET_COMMIT w_OFFSET_FETCH w_FIND_COORDINATOR w_JOIN_GROUP w_HEARTBEAT w_LEAVE_GROUP w_SYNC_GROUP w_DESCRIBE_GROUPS w_LIST_GROUPS w_API_VERSIONS w_CREATE_TOPICS h0 n0 _ T29.heap _
                                rw [e29]
                                exact ⟨by rw [show f1 p0 w_PRODUCE w_FETCH w_LIST_OFFSETS w_METADATA w_OFFSET_COMMIT w_OFFSET_FETCH w_FIND_COORDINATOR w_JOIN_GROUP w_HEARTBEAT w_LEAVE_GROUP w_SYNC_GROUP w_DESCRIBE_GROUPS w_LIST_GROUPS w_API_VERSIONS w_CREATE_TOPICS = w_CREATE_TOPICS from by unfold f1; rw [if_neg hc1_1, if_neg hc10_3, if_neg hc19_5, if_neg hc28_7, if_neg hc37_9, if_neg hc46_11, if_neg hc56_13, if_neg hc66_15, if_neg hc76_17, if_neg hc86_19, if_neg hc96_21, if_neg hc106_23, if_neg hc116_25, if_neg hc126_27]], N0, rfl⟩
theorem d2_0 : decode prog_33_method_10_code 0 = .ok (.iload_n 1, 1) := by decide +kernel
theorem d2_1 : decode prog_33_method_10_code 1 = .ok (.aload_n 0, 1) := by decide +kernel
theorem d2_2 : decode prog_33_method_10_code 2 = .ok (.getfield 79, 3) := by decide +kernel
theorem d2_5 : decode prog_33_method_10_code 5 = .ok (.if_icmp .lt 15, 3) := by decide +kernel
theorem d2_8 : decode prog_33_method_10_code 8 = .ok (.iload_n 1, 1) := by decide +kernel
theorem d2_9 : decode prog_33_method_10_code 9 = .ok (.aload_n 0, 1) := by decide +kernel
theorem d2_10 : decode prog_33_method_10_code 10 = .ok (.getfield 82, 3) := by decide +kernel
theorem d2_13 : decode prog_33_method_10_code 13 = .ok (.if_icmp .gt 7, 3) := by decide +kernel
theorem d2_16 : decode prog_33_method_10_code 16 = .ok (.iconst 1, 1) := by decide +kernel
theorem d2_17 : decode prog_33_method_10_code 17 = .ok (.goto 4, 3) := by decide +kernel
theorem d2_20 : decode prog_33_method_10_code 20 = .ok (.iconst 0, 1) := by decide +kernel
theorem d2_21 : decode prog_33_method_10_code 21 = .ok (.ireturn, 1) := by decide +kernel
theorem pn_2 : plainName "com/example/keptlog/keptlog/protocol/ApiKey" = true := by first | (simp [plainName, overriddenIn]; done) | decide +kernel
theorem ef_2 (m : MethodId) (x0 : Addr) (x1 : Int32) : entryFrame m #[(.ref x0), (.int x1)] 2 = mkF m 0 #[.val (.ref x0), .val (.int x1)] [] := by first | (simp [entryFrame, mkF, argsToLocals, Value.category]; done) | rfl
def f2 (p1 : Int32) (w1 : Int32) (w2 : Int32) : Int32 := (if p1 < w1 then (0 : Int32) else (if w2 < p1 then (0 : Int32) else (1 : Int32)))
def Q2 (Z : State) (a0 : Addr) (p1 : Int32) (w1 : Int32) (w2 : Int32) (h0 : Heap) (n0 : Nat) (v : Option Value) (h : Heap) (L : List Loc) : Prop := v = some (.int (f2 p1 w1 w2)) ∧ Fr n0 L ∧ h = h0
set_option maxRecDepth 65536 in
set_option maxHeartbeats 40000000 in
theorem rm2 (l : Launch) (Z : State) (aw : Array Value) (hw : ∀ d ∈ tables_1, d.before aw Z = true) (ws : List Jvm.Cond) (a0 : Addr) (p1 : Int32) (w1 : Int32) (w2 : Int32) (h0 : Heap) (n0 : Nat) (Z0 : n0 ≤ h0.size) (F_minVersion_a0 : Fld Z h0 a0 "com/example/keptlog/keptlog/protocol/ApiKey" "minVersion" "S" (.int w1)) (F_maxVersion_a0 : Fld Z h0 a0 "com/example/keptlog/keptlog/protocol/ApiKey" "maxVersion" "S" (.int w2)) :
    MetFree l (⟨"com/example/keptlog/keptlog/protocol/ApiKey", "supports", "(S)Z"⟩ : MethodName) (head1 (Jvm.Cond.code (⟨"com/example/keptlog/keptlog/protocol/ApiKey", "supports", "(S)Z"⟩ : MethodName) prog_33_method_10_code 2 (some .boolean) :: ws) ({ frames := 0, cells := 0, slots := 0, locals := 0 } : Room)) (fun a U => a = #[(.ref a0), (.int p1)] ∧ Z.Warmed39 U.vm ∧ U.heap = h0) (fun _ _ _ _ _ => True) (fun _ U o U' => ∃ v L, o = .returned v ∧ Q2 Z a0 p1 w1 w2 h0 n0 v U'.heap L ∧ FrameEnd U o U' L ({ frames := 0, cells := 0, slots := 0, locals := 0 } : Room).cells ({ frames := 0, cells := 0, slots := 0, locals := 0 } : Room).slots) := by
  refine MetFree.of_bodySF (plainFor_of_name pn_2) hisR ?_
  intro p e s m args below meth c s₁ Bd hml0 hP hK
  obtain ⟨rfl, hZ, hh⟩ := hP
  have hx := Bd.exec
  have hby := Bd.bytes
  have hml : c.maxLocals = 2 := hml0
  have hown : s.vm.findClass "com/example/keptlog/keptlog/protocol/ApiKey" = some m.cls := findClass_of_methodNamed Bd.named
  have hnm := (name_of_methodNamed Bd.named Bd.method).1
  have X0 : Stand p l e ({ frames := 0, cells := 0, slots := 0, locals := 0 } : Room) s m #[(.ref a0), (.int p1)] below meth c s₁ [] 0 0 := Stand.of_body Bd
  have e0 : s₁.heap = h0 := by rw [← hh, Bd.state]; rfl
  have N0 := Fr.nil n0
  refine own_back (b := s₁.setTop (mkF m 0 #[.val (.ref a0), .val (.int p1)] [])) (fun t kt => castTop (ef_2 m a0 p1) kt) ?_
  obtain ⟨T1, X1, e1, st1⟩ := getF X0 hx hZ hown (host := "") (Or.inl (hw _ (List.mem_of_getElem? (i := 14) rfl))) Via.refl e0 F_minVersion_a0 (g := (mkF m 2 #[.val (.ref a0), .val (.int p1)] [(.ref a0), (.int p1)])) rfl rfl (hb hby d2_2)
  refine own_back (b := T1.setTop (mkF m 5 #[.val (.ref a0), .val (.int p1)] [(.int w1), (.int p1)])) (fun t kt => ?_) ?_
  · show Steps p.tables e below (s₁.setTop (mkF m 0 #[.val (.ref a0), .val (.int p1)] [])) _
    refine XS.iloadN X0.here hx rfl (hb hby d2_0) rfl ?_
    show Steps p.tables e below (s₁.setTop (mkF m 1 #[.val (.ref a0), .val (.int p1)] [(.int p1)])) _
    refine XS.aloadN X0.here hx rfl (hb hby d2_1) rfl rfl ?_
    show Steps p.tables e below (s₁.setTop (mkF m 2 #[.val (.ref a0), .val (.int p1)] [(.ref a0), (.int p1)])) _
    refine st1 _ ?_
    exact kt
  by_cases hc5_2 : p1 < w1
  · refine own_back (b := T1.setTop (mkF m 21 #[.val (.ref a0), .val (.int p1)] [(.int (0 : Int32))])) (fun t kt => ?_) ?_
    · show Steps p.tables e below (T1.setTop (mkF m 5 #[.val (.ref a0), .val (.int p1)] [(.int w1), (.int p1)])) _
      refine XS.icmpYes X1.here hx rfl (pc0 := 5) (pc' := 20) rfl (hb hby d2_5) rfl (tlt hc5_2).1 (by decide) (by decide) ?_
      show Steps p.tables e below (T1.setTop (mkF m 20 #[.val (.ref a0), .val (.int p1)] [])) _
      refine XS.iconst X1.here hx rfl (hb hby d2_20) ?_
      exact kt
    obtain ⟨fs, hr, hrun, hended, hW, hsame⟩ := X1.leave (v := some (.int (0 : Int32))) (fun h => by rw [Bd.returns] at h; cases h) (BodyLoose.notSynchronized Bd)
    refine ⟨_, _, ?_, hrun, hended, _, _, rfl, ?_, ⟨_, rfl⟩, hW, hsame.mono (by decide) (by decide)⟩
    · show Steps p.tables e below (T1.setTop (mkF m 21 #[.val (.ref a0), .val (.int p1)] [(.int (0 : Int32))])) _
      exact retN X1 hx (t := .boolean) Bd.returns (by simp) (hb hby d2_21) hr
    · show Q2 Z a0 p1 w1 w2 h0 n0 _ T1.heap _
      rw [e1]
      exact ⟨by rw [show f2 p1 w1 w2 = (0 : Int32) from by unfold f2; rw [if_pos hc5_2]], N0, rfl⟩
  · obtain ⟨T3, X3, e3, st3⟩ := getF X1 hx hZ hown (host := "") (Or.inl (hw _ (List.mem_of_getElem? (i := 16) rfl))) Via.refl e1 F_maxVersion_a0 (g := (mkF m 10 #[.val (.ref a0), .val (.int p1)] [(.ref a0), (.int p1)])) rfl rfl (hb hby d2_10)
    refine own_back (b := T3.setTop (mkF m 13 #[.val (.ref a0), .val (.int p1)] [(.int w2), (.int p1)])) (fun t kt => ?_) ?_
    · show Steps p.tables e below (T1.setTop (mkF m 5 #[.val (.ref a0), .val (.int p1)] [(.int w1), (.int p1)])) _
      refine XS.icmpNo X1.here hx rfl (hb hby d2_5) rfl (flt hc5_2).1 ?_
      show Steps p.tables e below (T1.setTop (mkF m 8 #[.val (.ref a0), .val (.int p1)] [])) _
      refine XS.iloadN X1.here hx rfl (hb hby d2_8) rfl ?_
      show Steps p.tables e below (T1.setTop (mkF m 9 #[.val (.ref a0), .val (.int p1)] [(.int p1)])) _
      refine XS.aloadN X1.here hx rfl (hb hby d2_9) rfl rfl ?_
      show Steps p.tables e below (T1.setTop (mkF m 10 #[.val (.ref a0), .val (.int p1)] [(.ref a0), (.int p1)])) _
      refine st3 _ ?_
      exact kt
    by_cases hc13_4 : w2 < p1
    · refine own_back (b := T3.setTop (mkF m 21 #[.val (.ref a0), .val (.int p1)] [(.int (0 : Int32))])) (fun t kt => ?_) ?_
      · show Steps p.tables e below (T3.setTop (mkF m 13 #[.val (.ref a0), .val (.int p1)] [(.int w2), (.int p1)])) _
        refine XS.icmpYes X3.here hx rfl (pc0 := 13) (pc' := 20) rfl (hb hby d2_13) rfl (tlt hc13_4).2.2.1 (by decide) (by decide) ?_
        show Steps p.tables e below (T3.setTop (mkF m 20 #[.val (.ref a0), .val (.int p1)] [])) _
        refine XS.iconst X3.here hx rfl (hb hby d2_20) ?_
        exact kt
      obtain ⟨fs, hr, hrun, hended, hW, hsame⟩ := X3.leave (v := some (.int (0 : Int32))) (fun h => by rw [Bd.returns] at h; cases h) (BodyLoose.notSynchronized Bd)
      refine ⟨_, _, ?_, hrun, hended, _, _, rfl, ?_, ⟨_, rfl⟩, hW, hsame.mono (by decide) (by decide)⟩
      · show Steps p.tables e below (T3.setTop (mkF m 21 #[.val (.ref a0), .val (.int p1)] [(.int (0 : Int32))])) _
        exact retN X3 hx (t := .boolean) Bd.returns (by simp) (hb hby d2_21) hr
      · show Q2 Z a0 p1 w1 w2 h0 n0 _ T3.heap _
        rw [e3]
        exact ⟨by rw [show f2 p1 w1 w2 = (0 : Int32) from by unfold f2; rw [if_neg hc5_2, if_pos hc13_4]], N0, rfl⟩
    · refine own_back (b := T3.setTop (mkF m 21 #[.val (.ref a0), .val (.int p1)] [(.int (1 : Int32))])) (fun t kt => ?_) ?_
      · show Steps p.tables e below (T3.setTop (mkF m 13 #[.val (.ref a0), .val (.int p1)] [(.int w2), (.int p1)])) _
        refine XS.icmpNo X3.here hx rfl (hb hby d2_13) rfl (flt hc13_4).2.2.1 ?_
        show Steps p.tables e below (T3.setTop (mkF m 16 #[.val (.ref a0), .val (.int p1)] [])) _
        refine XS.iconst X3.here hx rfl (hb hby d2_16) ?_
        show Steps p.tables e below (T3.setTop (mkF m 17 #[.val (.ref a0), .val (.int p1)] [(.int (1 : Int32))])) _
        refine XS.goto X3.here hx rfl (pc0 := 17) (pc' := 21) rfl (hb hby d2_17) (by decide) (by decide) ?_
        exact kt
      obtain ⟨fs, hr, hrun, hended, hW, hsame⟩ := X3.leave (v := some (.int (1 : Int32))) (fun h => by rw [Bd.returns] at h; cases h) (BodyLoose.notSynchronized Bd)
      refine ⟨_, _, ?_, hrun, hended, _, _, rfl, ?_, ⟨_, rfl⟩, hW, hsame.mono (by decide) (by decide)⟩
      · show Steps p.tables e below (T3.setTop (mkF m 21 #[.val (.ref a0), .val (.int p1)] [(.int (1 : Int32))])) _
        exact retN X3 hx (t := .boolean) Bd.returns (by simp) (hb hby d2_21) hr
      · show Q2 Z a0 p1 w1 w2 h0 n0 _ T3.heap _
        rw [e3]
        exact ⟨by rw [show f2 p1 w1 w2 = (1 : Int32) from by unfold f2; rw [if_neg hc5_2, if_neg hc13_4]], N0, rfl⟩
def own_min (k : Int32) : Int32 := if k = (0 : Int32) then (0 : Int32) else if k = (1 : Int32) then (4 : Int32) else if k = (2 : Int32) then (1 : Int32) else if k = (3 : Int32) then (0 : Int32) else if k = (4 : Int32) then (2 : Int32) else if k = (5 : Int32) then (1 : Int32) else if k = (6 : Int32) then (0 : Int32) else if k = (7 : Int32) then (0 : Int32) else if k = (8 : Int32) then (0 : Int32) else if k = (9 : Int32) then (0 : Int32) else if k = (10 : Int32) then (0 : Int32) else if k = (11 : Int32) then (0 : Int32) else if k = (12 : Int32) then (0 : Int32) else if k = (13 : Int32) then (0 : Int32) else (0 : Int32)
def own_max (k : Int32) : Int32 := if k = (0 : Int32) then (7 : Int32) else if k = (1 : Int32) then (11 : Int32) else if k = (2 : Int32) then (2 : Int32) else if k = (3 : Int32) then (4 : Int32) else if k = (4 : Int32) then (7 : Int32) else if k = (5 : Int32) then (5 : Int32) else if k = (6 : Int32) then (2 : Int32) else if k = (7 : Int32) then (5 : Int32) else if k = (8 : Int32) then (3 : Int32) else if k = (9 : Int32) then (3 : Int32) else if k = (10 : Int32) then (3 : Int32) else if k = (11 : Int32) then (4 : Int32) else if k = (12 : Int32) then (2 : Int32) else if k = (13 : Int32) then (3 : Int32) else (4 : Int32)
theorem own_pick (P : Addr → Int32 → Int32 → Prop) (k : Int32) (w_PRODUCE w_FETCH w_LIST_OFFSETS w_METADATA w_OFFSET_COMMIT w_OFFSET_FETCH w_FIND_COORDINATOR w_JOIN_GROUP w_HEARTBEAT w_LEAVE_GROUP w_SYNC_GROUP w_DESCRIBE_GROUPS w_LIST_GROUPS w_API_VERSIONS w_CREATE_TOPICS : Addr) (h0 : P w_PRODUCE 0 7) (h1 : P w_FETCH 4 11) (h2 : P w_LIST_OFFSETS 1 2) (h3 : P w_METADATA 0 4) (h4 : P w_OFFSET_COMMIT 2 7) (h5 : P w_OFFSET_FETCH 1 5) (h6 : P w_FIND_COORDINATOR 0 2) (h7 : P w_JOIN_GROUP 0 5) (h8 : P w_HEARTBEAT 0 3) (h9 : P w_LEAVE_GROUP 0 3) (h10 : P w_SYNC_GROUP 0 3) (h11 : P w_DESCRIBE_GROUPS 0 4) (h12 : P w_LIST_GROUPS 0 2) (h13 : P w_API_VERSIONS 0 3) (h14 : P w_CREATE_TOPICS 0 4) : P (f1 k w_PRODUCE w_FETCH w_LIST_OFFSETS w_METADATA w_OFFSET_COMMIT w_OFFSET_FETCH w_FIND_COORDINATOR w_JOIN_GROUP w_HEARTBEAT w_LEAVE_GROUP w_SYNC_GROUP w_DESCRIBE_GROUPS w_LIST_GROUPS w_API_VERSIONS w_CREATE_TOPICS) (own_min k) (own_max k) := by
  unfold f1 own_min own_max
  by_cases c0 : k = (0 : Int32)
  · simp only [if_pos c0]; exact h0
  · simp only [if_neg c0]
    by_cases c1 : k = (1 : Int32)
    · simp only [if_pos c1]; exact h1
    · simp only [if_neg c1]
      by_cases c2 : k = (2 : Int32)
      · simp only [if_pos c2]; exact h2
      · simp only [if_neg c2]
        by_cases c3 : k = (3 : Int32)
        · simp only [if_pos c3]; exact h3
        · simp only [if_neg c3]
          by_cases c4 : k = (4 : Int32)
          · simp only [if_pos c4]; exact h4
          · simp only [if_neg c4]
            by_cases c5 : k = (5 : Int32)
            · simp only [if_pos c5]; exact h5
            · simp only [if_neg c5]
              by_cases c6 : k = (6 : Int32)
              · simp only [if_pos c6]; exact h6
              · simp only [if_neg c6]
                by_cases c7 : k = (7 : Int32)
                · simp only [if_pos c7]; exact h7
                · simp only [if_neg c7]
                  by_cases c8 : k = (8 : Int32)
                  · simp only [if_pos c8]; exact h8
                  · simp only [if_neg c8]
                    by_cases c9 : k = (9 : Int32)
                    · simp only [if_pos c9]; exact h9
                    · simp only [if_neg c9]
                      by_cases c10 : k = (10 : Int32)
                      · simp only [if_pos c10]; exact h10
                      · simp only [if_neg c10]
                        by_cases c11 : k = (11 : Int32)
                        · simp only [if_pos c11]; exact h11
                        · simp only [if_neg c11]
                          by_cases c12 : k = (12 : Int32)
                          · simp only [if_pos c12]; exact h12
                          · simp only [if_neg c12]
                            by_cases c13 : k = (13 : Int32)
                            · simp only [if_pos c13]; exact h13
                            · simp only [if_neg c13]
                              exact h14
theorem own_k (c : Int32) : ¬ (c &&& (2147483647 : Int32)) % (15 : Int32) < (0 : Int32) ∧ (c &&& (2147483647 : Int32)) % (15 : Int32) < (15 : Int32) := by
  have h := c_mask c 2147483647 31 (by decide) (by decide)
  have h2 := (c_irem (c &&& 2147483647) 15 15 rfl).1
  have k0 : (0 : Int32).toInt = 0 := rfl
  have k1 : (15 : Int32).toInt = 15 := rfl
  rw [Int32.lt_iff_toInt_lt, Int32.lt_iff_toInt_lt, k0, k1]
  have : (2 ^ 31 : Nat) = 2147483648 := by decide
  omega
theorem own_15 (P : Int32 → Prop) (k : Int32) (h : ¬ k < (0 : Int32) ∧ k < (15 : Int32)) (hP : ∀ n : Fin 15, P (Int32.ofNat n.val)) : P k := by
  have k0 : (0 : Int32).toInt = 0 := rfl
  have k1 : (15 : Int32).toInt = 15 := rfl
  rw [Int32.lt_iff_toInt_lt, Int32.lt_iff_toInt_lt, k0, k1] at h
  have e : k = Int32.ofNat k.toInt.toNat := by
    apply Int32.toInt_inj.mp
    rw [Int32.toInt_ofNat_of_lt (by omega)]; omega
  rw [e]
  exact hP ⟨k.toInt.toNat, by omega⟩
theorem own_atmin (k : Int32) (h : ¬ k < (0 : Int32) ∧ k < (15 : Int32)) : ([(.int (0 : Int32)), (.int (4 : Int32)), (.int (1 : Int32)), (.int (0 : Int32)), (.int (2 : Int32)), (.int (1 : Int32)), (.int (0 : Int32)), (.int (0 : Int32)), (.int (0 : Int32)), (.int (0 : Int32)), (.int (0 : Int32)), (.int (0 : Int32)), (.int (0 : Int32)), (.int (0 : Int32)), (.int (0 : Int32))] : List Value).getD k.toNatClampNeg (.int (0 : Int32)) = .int (own_min k) := own_15 (fun k => ([(.int (0 : Int32)), (.int (4 : Int32)), (.int (1 : Int32)), (.int (0 : Int32)), (.int (2 : Int32)), (.int (1 : Int32)), (.int (0 : Int32)), (.int (0 : Int32)), (.int (0 : Int32)), (.int (0 : Int32)), (.int (0 : Int32)), (.int (0 : Int32)), (.int (0 : Int32)), (.int (0 : Int32)), (.int (0 : Int32))] : List Value).getD k.toNatClampNeg (.int (0 : Int32)) = .int (own_min k)) k h (by decide +kernel)
theorem own_atmax (k : Int32) (h : ¬ k < (0 : Int32) ∧ k < (15 : Int32)) : ([(.int (7 : Int32)), (.int (11 : Int32)), (.int (2 : Int32)), (.int (4 : Int32)), (.int (7 : Int32)), (.int (5 : Int32)), (.int (2 : Int32)), (.int (5 : Int32)), (.int (3 : Int32)), (.int (3 : Int32)), (.int (3 : Int32)), (.int (4 : Int32)), (.int (2 : Int32)), (.int (3 : Int32)), (.int (4 : Int32))] : List Value).getD k.toNatClampNeg (.int (0 : Int32)) = .int (own_max k) := own_15 (fun k => ([(.int (7 : Int32)), (.int (11 : Int32)), (.int (2 : Int32)), (.int (4 : Int32)), (.int (7 : Int32)), (.int (5 : Int32)), (.int (2 : Int32)), (.int (5 : Int32)), (.int (3 : Int32)), (.int (3 : Int32)), (.int (3 : Int32)), (.int (4 : Int32)), (.int (2 : Int32)), (.int (3 : Int32)), (.int (4 : Int32))] : List Value).getD k.toNatClampNeg (.int (0 : Int32)) = .int (own_max k)) k h (by decide +kernel)
theorem own_span (k : Int32) (h : ¬ k < (0 : Int32) ∧ k < (15 : Int32)) : ((own_max k - own_min k) + (3 : Int32)) ≠ (0 : Int32) := own_15 (fun k => ((own_max k - own_min k) + (3 : Int32)) ≠ (0 : Int32)) k h (by decide +kernel)
theorem pn_0 : plainName "com/example/keptlog/keptlog/protocol/ApiKeySupportsPinLaw" = true := by first | (simp [plainName, overriddenIn]; done) | decide +kernel
theorem pd_0_0 : parseMethodDescriptor "(I)Lcom/example/keptlog/keptlog/protocol/ApiKey;" = some ⟨[.int], some (.object "com/example/keptlog/keptlog/protocol/ApiKey")⟩ := by decide +kernel
theorem pd_0_1 : parseMethodDescriptor "(S)Z" = some ⟨[.short], some .boolean⟩ := by decide +kernel
theorem ef_0 (m : MethodId) (x0 : Int32) (x1 : Int32) (x2 : Int32) (x3 : Int32) : entryFrame m #[(.int x0), (.int x1), (.int x2), (.int x3)] maxLocals = mkF m 0 #[.val (.int x0), .val (.int x1), .val (.int x2), .val (.int x3), .unset, .unset, .unset, .unset, .unset, .unset, .unset, .unset, .unset] [] := by first | (simp [entryFrame, mkF, argsToLocals, Value.category, maxLocals]; done) | rfl
def m0_0 (p0 : Int32) (p1 : Int32) (p2 : Int32) (p3 : Int32) : Int32 := (if (p2.toInt16.toInt32) < (own_min ((p0 &&& (2147483647 : Int32)) % (15 : Int32))) then (0 : Int32) else (if (own_max ((p0 &&& (2147483647 : Int32)) % (15 : Int32))) < (p2.toInt16.toInt32) then (0 : Int32) else (1 : Int32)))
def m0_1 (p0 : Int32) (p1 : Int32) (p2 : Int32) (p3 : Int32) : Int32 := (if ((((own_min ((p0 &&& (2147483647 : Int32)) % (15 : Int32))) - (1 : Int32)) + ((p3 &&& (2147483647 : Int32)) % (((own_max ((p0 &&& (2147483647 : Int32)) % (15 : Int32))) - (own_min ((p0 &&& (2147483647 : Int32)) % (15 : Int32)))) + (3 : Int32)))).toInt16.toInt32) < (own_min ((p0 &&& (2147483647 : Int32)) % (15 : Int32))) then (0 : Int32) else (if (own_max ((p0 &&& (2147483647 : Int32)) % (15 : Int32))) < ((((own_min ((p0 &&& (2147483647 : Int32)) % (15 : Int32))) - (1 : Int32)) + ((p3 &&& (2147483647 : Int32)) % (((own_max ((p0 &&& (2147483647 : Int32)) % (15 : Int32))) - (own_min ((p0 &&& (2147483647 : Int32)) % (15 : Int32)))) + (3 : Int32)))).toInt16.toInt32) then (0 : Int32) else (1 : Int32)))
def f0 (p0 : Int32) (p1 : Int32) (p2 : Int32) (p3 : Int32) : Int32 := (if (p1 &&& (1 : Int32)) = (0 : Int32) then (if (f2 (p2.toInt16.toInt32) (own_min ((p0 &&& (2147483647 : Int32)) % (15 : Int32))) (own_max ((p0 &&& (2147483647 : Int32)) % (15 : Int32)))) = (m0_0 p0 p1 p2 p3) then (1 : Int32) else (0 : Int32)) else (if (f2 ((((own_min ((p0 &&& (2147483647 : Int32)) % (15 : Int32))) - (1 : Int32)) + ((p3 &&& (2147483647 : Int32)) % (((own_max ((p0 &&& (2147483647 : Int32)) % (15 : Int32))) - (own_min ((p0 &&& (2147483647 : Int32)) % (15 : Int32)))) + (3 : Int32)))).toInt16.toInt32) (own_min ((p0 &&& (2147483647 : Int32)) % (15 : Int32))) (own_max ((p0 &&& (2147483647 : Int32)) % (15 : Int32)))) = (m0_1 p0 p1 p2 p3) then (1 : Int32) else (0 : Int32)))
def Q0 (Z : State) (p0 : Int32) (p1 : Int32) (p2 : Int32) (p3 : Int32) (w_PRODUCE : Addr) (w_FETCH : Addr) (w_LIST_OFFSETS : Addr) (w_METADATA : Addr) (w_OFFSET_COMMIT : Addr) (w_OFFSET_FETCH : Addr) (w_FIND_COORDINATOR : Addr) (w_JOIN_GROUP : Addr) (w_HEARTBEAT : Addr) (w_LEAVE_GROUP : Addr) (w_SYNC_GROUP : Addr) (w_DESCRIBE_GROUPS : Addr) (w_LIST_GROUPS : Addr) (w_API_VERSIONS : Addr) (w_CREATE_TOPICS : Addr) (h0 : Heap) (n0 : Nat) (v : Option Value) (h : Heap) (L : List Loc) : Prop := v = some (.int (f0 p0 p1 p2 p3)) ∧ Fr n0 L
set_option maxRecDepth 65536 in
set_option maxHeartbeats 40000000 in
theorem rm0 (l : Launch) (Z : State) (aw : Array Value) (hw : ∀ d ∈ tables_1, d.before aw Z = true) (ws : List Jvm.Cond) (p0 : Int32) (p1 : Int32) (p2 : Int32) (p3 : Int32) (w_PRODUCE : Addr) (w_FETCH : Addr) (w_LIST_OFFSETS : Addr) (w_METADATA : Addr) (w_OFFSET_COMMIT : Addr) (w_OFFSET_FETCH : Addr) (w_FIND_COORDINATOR : Addr) (w_JOIN_GROUP : Addr) (w_HEARTBEAT : Addr) (w_LEAVE_GROUP : Addr) (w_SYNC_GROUP : Addr) (w_DESCRIBE_GROUPS : Addr) (w_LIST_GROUPS : Addr) (w_API_VERSIONS : Addr) (w_CREATE_TOPICS : Addr) (h0 : Heap) (n0 : Nat) (Z0 : n0 ≤ h0.size) (S_PRODUCE : Sta Z h0 "com/example/keptlog/keptlog/protocol/ApiKey" "PRODUCE" "Lcom/example/keptlog/keptlog/protocol/ApiKey;" (.ref w_PRODUCE)) (S_FETCH : Sta Z h0 "com/example/keptlog/keptlog/protocol/ApiKey" "FETCH" "Lcom/example/keptlog/keptlog/protocol/ApiKey;" (.ref w_FETCH)) (S_LIST_OFFSETS : Sta Z h0 "com/example/keptlog/keptlog/protocol/ApiKey" "LIST_OFFSETS" "Lcom/example/keptlog/keptlog/protocol/ApiKey;" (.ref w_LIST_OFFSETS)) (S_METADATA : Sta Z h0 "com/example/keptlog/keptlog/protocol/ApiKey" "METADATA" "Lcom/example/keptlog/keptlog/protocol/ApiKey;" (.ref w_METADATA)) (S_OFFSET_COMMIT : Sta Z h0 "com/example/keptlog/keptlog/protocol/ApiKey" "OFFSET_COMMIT" "Lcom/example/keptlog/keptlog/protocol/ApiKey;" (.ref w_OFFSET_COMMIT)) (S_OFFSET_FETCH : Sta Z h0 "com/example/keptlog/keptlog/protocol/ApiKey" "OFFSET_FETCH" "Lcom/example/keptlog/keptlog/protocol/ApiKey;" (.ref w_OFFSET_FETCH)) (S_FIND_COORDINATOR : Sta Z h0 "com/example/keptlog/keptlog/protocol/ApiKey" "FIND_COORDINATOR" "Lcom/example/keptlog/keptlog/protocol/ApiKey;" (.ref w_FIND_COORDINATOR)) (S_JOIN_GROUP : Sta Z h0 "com/example/keptlog/keptlog/protocol/ApiKey" "JOIN_GROUP" "Lcom/example/keptlog/keptlog/protocol/ApiKey;" (.ref w_JOIN_GROUP)) (S_HEARTBEAT : Sta Z h0 "com/example/keptlog/keptlog/protocol/ApiKey" "HEARTBEAT" "Lcom/example/keptlog/keptlog/protocol/ApiKey;" (.ref w_HEARTBEAT)) (S_LEAVE_GROUP : Sta Z h0 "com/example/keptlog/keptlog/protocol/ApiKey" "LEAVE_GROUP" "Lcom/example/keptlog/keptlog/protocol/ApiKey;" (.ref w_LEAVE_GROUP)) (S_SYNC_GROUP : Sta Z h0 "com/example/keptlog/keptlog/protocol/ApiKey" "SYNC_GROUP" "Lcom/example/keptlog/keptlog/protocol/ApiKey;" (.ref w_SYNC_GROUP)) (S_DESCRIBE_GROUPS : Sta Z h0 "com/example/keptlog/keptlog/protocol/ApiKey" "DESCRIBE_GROUPS" "Lcom/example/keptlog/keptlog/protocol/ApiKey;" (.ref w_DESCRIBE_GROUPS)) (S_LIST_GROUPS : Sta Z h0 "com/example/keptlog/keptlog/protocol/ApiKey" "LIST_GROUPS" "Lcom/example/keptlog/keptlog/protocol/ApiKey;" (.ref w_LIST_GROUPS)) (S_API_VERSIONS : Sta Z h0 "com/example/keptlog/keptlog/protocol/ApiKey" "API_VERSIONS" "Lcom/example/keptlog/keptlog/protocol/ApiKey;" (.ref w_API_VERSIONS)) (S_CREATE_TOPICS : Sta Z h0 "com/example/keptlog/keptlog/protocol/ApiKey" "CREATE_TOPICS" "Lcom/example/keptlog/keptlog/protocol/ApiKey;" (.ref w_CREATE_TOPICS)) (E_w_PRODUCE : Exa Z h0 w_PRODUCE "com/example/keptlog/keptlog/protocol/ApiKey") (E_w_FETCH : Exa Z h0 w_FETCH "com/example/keptlog/keptlog/protocol/ApiKey") (E_w_LIST_OFFSETS : Exa Z h0 w_LIST_OFFSETS "com/example/keptlog/keptlog/protocol/ApiKey") (E_w_METADATA : Exa Z h0 w_METADATA "com/example/keptlog/keptlog/protocol/ApiKey") (E_w_OFFSET_COMMIT : Exa Z h0 w_OFFSET_COMMIT "com/example/keptlog/keptlog/protocol/ApiKey") (E_w_OFFSET_FETCH : Exa Z h0 w_OFFSET_FETCH "com/example/keptlog/keptlog/protocol/ApiKey") (E_w_FIND_COORDINATOR : Exa Z h0 w_FIND_COORDINATOR "com/example/keptlog/keptlog/protocol/ApiKey") (E_w_JOIN_GROUP : Exa Z h0 w_JOIN_GROUP "com/example/keptlog/keptlog/protocol/ApiKey") (E_w_HEARTBEAT : Exa Z h0 w_HEARTBEAT "com/example/keptlog/keptlog/protocol/ApiKey") (E_w_LEAVE_GROUP : Exa Z h0 w_LEAVE_GROUP "com/example/keptlog/keptlog/protocol/ApiKey") (E_w_SYNC_GROUP : Exa Z h0 w_SYNC_GROUP "com/example/keptlog/keptlog/protocol/ApiKey") (E_w_DESCRIBE_GROUPS : Exa Z h0 w_DESCRIBE_GROUPS "com/example/keptlog/keptlog/protocol/ApiKey") (E_w_LIST_GROUPS : Exa Z h0 w_LIST_GROUPS "com/example/keptlog/keptlog/protocol/ApiKey") (E_w_API_VERSIONS : Exa Z h0 w_API_VERSIONS "com/example/keptlog/keptlog/protocol/ApiKey") (E_w_CREATE_TOPICS : Exa Z h0 w_CREATE_TOPICS "com/example/keptlog/keptlog/protocol/ApiKey") (F_minVersion_w_PRODUCE : Fld Z h0 w_PRODUCE "com/example/keptlog/keptlog/protocol/ApiKey" "minVersion" "S" (.int (0 : Int32))) (F_minVersion_w_FETCH : Fld Z h0 w_FETCH "com/example/keptlog/keptlog/protocol/ApiKey" "minVersion" "S" (.int (4 : Int32))) (F_minVersion_w_LIST_OFFSETS : Fld Z h0 w_LIST_OFFSETS "com/example/keptlog/keptlog/protocol/ApiKey" "minVersion" "S" (.int (1 : Int32))) (F_minVersion_w_METADATA : Fld Z h0 w_METADATA "com/example/keptlog/keptlog/protocol/ApiKey" "minVersion" "S" (.int (0 : Int32))) (F_minVersion_w_OFFSET_COMMIT : Fld Z h0 w_OFFSET_COMMIT "com/example/keptlog/keptlog/protocol/ApiKey" "minVersion" "S" (.int (2 : Int32))) (F_minVersion_w_OFFSET_FETCH : Fld Z h0 w_OFFSET_FETCH "com/example/keptlog/keptlog/protocol/ApiKey" "minVersion" "S" (.int (1 : Int32))) (F_minVersion_w_FIND_COORDINATOR : Fld Z h0 w_FIND_COORDINATOR "com/example/keptlog/keptlog/protocol/ApiKey" "minVersion" "S" (.int (0 : Int32))) (F_minVersion_w_JOIN_GROUP : Fld Z h0 w_JOIN_GROUP "com/example/keptlog/keptlog/protocol/ApiKey" "minVersion" "S" (.int (0 : Int32))) (F_minVersion_w_HEARTBEAT : Fld Z h0 w_HEARTBEAT "com/example/keptlog/keptlog/protocol/ApiKey" "minVersion" "S" (.int (0 : Int32))) (F_minVersion_w_LEAVE_GROUP : Fld Z h0 w_LEAVE_GROUP "com/example/keptlog/keptlog/protocol/ApiKey" "minVersion" "S" (.int (0 : Int32))) (F_minVersion_w_SYNC_GROUP : Fld Z h0 w_SYNC_GROUP "com/example/keptlog/keptlog/protocol/ApiKey" "minVersion" "S" (.int (0 : Int32))) (F_minVersion_w_DESCRIBE_GROUPS : Fld Z h0 w_DESCRIBE_GROUPS "com/example/keptlog/keptlog/protocol/ApiKey" "minVersion" "S" (.int (0 : Int32))) (F_minVersion_w_LIST_GROUPS : Fld Z h0 w_LIST_GROUPS "com/example/keptlog/keptlog/protocol/ApiKey" "minVersion" "S" (.int (0 : Int32))) (F_minVersion_w_API_VERSIONS : Fld Z h0 w_API_VERSIONS "com/example/keptlog/keptlog/protocol/ApiKey" "minVersion" "S" (.int (0 : Int32))) (F_minVersion_w_CREATE_TOPICS : Fld Z h0 w_CREATE_TOPICS "com/example/keptlog/keptlog/protocol/ApiKey" "minVersion" "S" (.int (0 : Int32))) (F_maxVersion_w_PRODUCE : Fld Z h0 w_PRODUCE "com/example/keptlog/keptlog/protocol/ApiKey" "maxVersion" "S" (.int (7 : Int32))) (F_maxVersion_w_FETCH : Fld Z h0 w_FETCH "com/example/keptlog/keptlog/protocol/ApiKey" "maxVersion" "S" (.int (11 : Int32))) (F_maxVersion_w_LIST_OFFSETS : Fld Z h0 w_LIST_OFFSETS "com/example/keptlog/keptlog/protocol/ApiKey" "maxVersion" "S" (.int (2 : Int32))) (F_maxVersion_w_METADATA : Fld Z h0 w_METADATA "com/example/keptlog/keptlog/protocol/ApiKey" "maxVersion" "S" (.int (4 : Int32))) (F_maxVersion_w_OFFSET_COMMIT : Fld Z h0 w_OFFSET_COMMIT "com/example/keptlog/keptlog/protocol/ApiKey" "maxVersion" "S" (.int (7 : Int32))) (F_maxVersion_w_OFFSET_FETCH : Fld Z h0 w_OFFSET_FETCH "com/example/keptlog/keptlog/protocol/ApiKey" "maxVersion" "S" (.int (5 : Int32))) (F_maxVersion_w_FIND_COORDINATOR : Fld Z h0 w_FIND_COORDINATOR "com/example/keptlog/keptlog/protocol/ApiKey" "maxVersion" "S" (.int (2 : Int32))) (F_maxVersion_w_JOIN_GROUP : Fld Z h0 w_JOIN_GROUP "com/example/keptlog/keptlog/protocol/ApiKey" "maxVersion" "S" (.int (5 : Int32))) (F_maxVersion_w_HEARTBEAT : Fld Z h0 w_HEARTBEAT "com/example/keptlog/keptlog/protocol/ApiKey" "maxVersion" "S" (.int (3 : Int32))) (F_maxVersion_w_LEAVE_GROUP : Fld Z h0 w_LEAVE_GROUP "com/example/keptlog/keptlog/protocol/ApiKey" "maxVersion" "S" (.int (3 : Int32))) (F_maxVersion_w_SYNC_GROUP : Fld Z h0 w_SYNC_GROUP "com/example/keptlog/keptlog/protocol/ApiKey" "maxVersion" "S" (.int (3 : Int32))) (F_maxVersion_w_DESCRIBE_GROUPS : Fld Z h0 w_DESCRIBE_GROUPS "com/example/keptlog/keptlog/protocol/ApiKey" "maxVersion" "S" (.int (4 : Int32))) (F_maxVersion_w_LIST_GROUPS : Fld Z h0 w_LIST_GROUPS "com/example/keptlog/keptlog/protocol/ApiKey" "maxVersion" "S" (.int (2 : Int32))) (F_maxVersion_w_API_VERSIONS : Fld Z h0 w_API_VERSIONS "com/example/keptlog/keptlog/protocol/ApiKey" "maxVersion" "S" (.int (3 : Int32))) (F_maxVersion_w_CREATE_TOPICS : Fld Z h0 w_CREATE_TOPICS "com/example/keptlog/keptlog/protocol/ApiKey" "maxVersion" "S" (.int (4 : Int32))) :
    MetFree l x (head1 (Jvm.Cond.code x code maxLocals ret :: ws) room_1) (fun a U => a = #[(.int p0), (.int p1), (.int p2), (.int p3)] ∧ Z.Warmed39 U.vm ∧ U.heap = h0) (fun _ _ _ _ _ => True) (fun _ U o U' => ∃ v L, o = .returned v ∧ Q0 Z p0 p1 p2 p3 w_PRODUCE w_FETCH w_LIST_OFFSETS w_METADATA w_OFFSET_COMMIT w_OFFSET_FETCH w_FIND_COORDINATOR w_JOIN_GROUP w_HEARTBEAT w_LEAVE_GROUP w_SYNC_GROUP w_DESCRIBE_GROUPS w_LIST_GROUPS w_API_VERSIONS w_CREATE_TOPICS h0 n0 v U'.heap L ∧ FrameEnd U o U' L room_1.cells room_1.slots) := by
  refine MetFree.of_bodySF (plainFor_of_name pn_0) hisR ?_
  intro p e s m args below meth c s₁ Bd hml0 hP hK
  obtain ⟨rfl, hZ, hh⟩ := hP
  have hx := Bd.exec
  have hby := Bd.bytes
  have hml : c.maxLocals = 13 := hml0
  have hown : s.vm.findClass "com/example/keptlog/keptlog/protocol/ApiKeySupportsPinLaw" = some m.cls := findClass_of_methodNamed Bd.named
  have hnm := (name_of_methodNamed Bd.named Bd.method).1
  have X0 : Stand p l e room_1 s m #[(.int p0), (.int p1), (.int p2), (.int p3)] below meth c s₁ [] 0 0 := Stand.of_body Bd
  have e0 : s₁.heap = h0 := by rw [← hh, Bd.state]; rfl
  have N0 := Fr.nil n0
  refine own_back (b := s₁.setTop (mkF m 0 #[.val (.int p0), .val (.int p1), .val (.int p2), .val (.int p3), .unset, .unset, .unset, .unset, .unset, .unset, .unset, .unset, .unset] [])) (fun t kt => castTop (ef_0 m p0 p1 p2 p3) kt) ?_
  obtain ⟨T1, h1, k1, X1, e1, E1, A1, st1⟩ := newP X0 hx hZ (hw _ (List.mem_of_getElem? (i := 0) rfl)) e0 (g := (mkF m 2 #[.val (.int p0), .val (.int p1), .val (.int p2), .val (.int p3), .unset, .unset, .unset, .unset, .unset, .unset, .unset, .unset, .unset] [(.int (15 : Int32))])) rfl (hb hby at_2) rfl (by decide) (cap := 15) (by decide) (by decide) (by decide) (by decide)
  obtain ⟨b1, g1⟩ : ∃ z, z = h0.size := ⟨_, rfl⟩
  rw [← g1] at A1 st1
  have lo1 : n0 ≤ b1 := Nat.le_trans Z0 (Nat.le_of_eq g1.symm)
  have sz1 : h0.size ≤ b1 := Nat.le_trans (Nat.le_refl _) (Nat.le_of_eq g1.symm)
  have K1 : Keep h0 h1 [] := (Keep.refl h0 _).ext E1
  have Z1 : n0 ≤ h1.size := Nat.le_trans Z0 E1.1
  have V1 : Arv Z h1 b1 k1 .int (15 : Int32) [(.int (0 : Int32)), (.int (0 : Int32)), (.int (0 : Int32)), (.int (0 : Int32)), (.int (0 : Int32)), (.int (0 : Int32)), (.int (0 : Int32)), (.int (0 : Int32)), (.int (0 : Int32)), (.int (0 : Int32)), (.int (0 : Int32)), (.int (0 : Int32)), (.int (0 : Int32)), (.int (0 : Int32)), (.int (0 : Int32))] (.int (0 : Int32)) := (Arv.new A1 (by decide)).pad (pad_rep [] (.int (0 : Int32)) 15)
  obtain ⟨cl2, Ar2, qk2, S2, N2', Hh2, G2⟩ := own_same V1
  have hin2 : ¬ ((0 : Int32) < 0 ∨ cl2.slots.size ≤ ((0 : Int32)).toNatClampNeg) := inb_of S2 ⟨by decide, by decide⟩
  obtain ⟨T3, h3, X3, e3, W3, st3⟩ := stI X1 hx hZ e1 Ar2 (j := (0 : Int32)) hin2 (g := (mkF m 7 #[.val (.int p0), .val (.int p1), .val (.int p2), .val (.int p3), .unset, .unset, .unset, .unset, .unset, .unset, .unset, .unset, .unset] [(.int (0 : Int32)), (.int (0 : Int32)), (.ref b1), (.ref b1)])) rfl rfl (hb hby at_7)
  have V3 : Arv Z h3 b1 k1 .int (15 : Int32) [(.int (0 : Int32)), (.int (0 : Int32)), (.int (0 : Int32)), (.int (0 : Int32)), (.int (0 : Int32)), (.int (0 : Int32)), (.int (0 : Int32)), (.int (0 : Int32)), (.int (0 : Int32)), (.int (0 : Int32)), (.int (0 : Int32)), (.int (0 : Int32)), (.int (0 : Int32)), (.int (0 : Int32)), (.int (0 : Int32))] (.int (0 : Int32)) := Arv.set Ar2 qk2 S2 N2' Hh2 G2 rfl W3 0 rfl (Nat.le_of_ble_eq_true rfl)
  have K3 : Keep h0 h3 [] := K1.wr W3 (Or.inr sz1)
  have Z3 : n0 ≤ h3.size := Nat.le_trans Z1 (Keep.of_wr W3).1
  have N3 := Fr.snoc X3 N0 lo1
  obtain ⟨cl4, Ar4, qk4, S4, N4', Hh4, G4⟩ := own_same V3
  have hin4 : ¬ ((1 : Int32) < 0 ∨ cl4.slots.size ≤ ((1 : Int32)).toNatClampNeg) := inb_of S4 ⟨by decide, by decide⟩
  obtain ⟨T5, h5, X5, e5, W5, st5⟩ := stI X3 hx hZ e3 Ar4 (j := (1 : Int32)) hin4 (g := (mkF m 11 #[.val (.int p0), .val (.int p1), .val (.int p2), .val (.int p3), .unset, .unset, .unset, .unset, .unset, .unset, .unset, .unset, .unset] [(.int (4 : Int32)), (.int (1 : Int32)), (.ref b1), (.ref b1)])) rfl rfl (hb hby at_11)
  have V5 : Arv Z h5 b1 k1 .int (15 : Int32) [(.int (0 : Int32)), (.int (4 : Int32)), (.int (0 : Int32)), (.int (0 : Int32)), (.int (0 : Int32)), (.int (0 : Int32)), (.int (0 : Int32)), (.int (0 : Int32)), (.int (0 : Int32)), (.int (0 : Int32)), (.int (0 : Int32)), (.int (0 : Int32)), (.int (0 : Int32)), (.int (0 : Int32)), (.int (0 : Int32))] (.int (0 : Int32)) := Arv.set Ar4 qk4 S4 N4' Hh4 G4 rfl W5 1 rfl (Nat.le_of_ble_eq_true rfl)
  have K5 : Keep h0 h5 [] := K3.wr W5 (Or.inr sz1)
  have Z5 : n0 ≤ h5.size := Nat.le_trans Z3 (Keep.of_wr W5).1
  have N5 := Fr.snoc X5 N3 lo1
  obtain ⟨cl6, Ar6, qk6, S6, N6', Hh6, G6⟩ := own_same V5
  have hin6 : ¬ ((2 : Int32) < 0 ∨ cl6.slots.size ≤ ((2 : Int32)).toNatClampNeg) := inb_of S6 ⟨by decide, by decide⟩
  obtain ⟨T7, h7, X7, e7, W7, st7⟩ := stI X5 hx hZ e5 Ar6 (j := (2 : Int32)) hin6 (g := (mkF m 15 #[.val (.int p0), .val (.int p1), .val (.int p2), .val (.int p3), .unset, .unset, .unset, .unset, .unset, .unset, .unset, .unset, .unset] [(.int (1 : Int32)), (.int (2 : Int32)), (.ref b1), (.ref b1)])) rfl rfl (hb hby at_15)
  have V7 : Arv Z h7 b1 k1 .int (15 : Int32) [(.int (0 : Int32)), (.int (4 : Int32)), (.int (1 : Int32)), (.int (0 : Int32)), (.int (0 : Int32)), (.int (0 : Int32)), (.int (0 : Int32)), (.int (0 : Int32)), (.int (0 : Int32)), (.int (0 : Int32)), (.int (0 : Int32)), (.int (0 : Int32)), (.int (0 : Int32)), (.int (0 : Int32)), (.int (0 : Int32))] (.int (0 : Int32)) := Arv.set Ar6 qk6 S6 N6' Hh6 G6 rfl W7 2 rfl (Nat.le_of_ble_eq_true rfl)
  have K7 : Keep h0 h7 [] := K5.wr W7 (Or.inr sz1)
  have Z7 : n0 ≤ h7.size := Nat.le_trans Z5 (Keep.of_wr W7).1
  have N7 := Fr.snoc X7 N5 lo1
  obtain ⟨cl8, Ar8, qk8, S8, N8', Hh8, G8⟩ := own_same V7
  have hin8 : ¬ ((3 : Int32) < 0 ∨ cl8.slots.size ≤ ((3 : Int32)).toNatClampNeg) := inb_of S8 ⟨by decide, by decide⟩
  obtain ⟨T9, h9, X9, e9, W9, st9⟩ := stI X7 hx hZ e7 Ar8 (j := (3 : Int32)) hin8 (g := (mkF m 19 #[.val (.int p0), .val (.int p1), .val (.int p2), .val (.int p3), .unset, .unset, .unset, .unset, .unset, .unset, .unset, .unset, .unset] [(.int (0 : Int32)), (.int (3 : Int32)), (.ref b1), (.ref b1)])) rfl rfl (hb hby at_19)
  have V9 : Arv Z h9 b1 k1 .int (15 : Int32) [(.int (0 : Int32)), (.int (4 : Int32)), (.int (1 : Int32)), (.int (0 : Int32)), (.int (0 : Int32)), (.int (0 : Int32)), (.int (0 : Int32)), (.int (0 : Int32)), (.int (0 : Int32)), (.int (0 : Int32)), (.int (0 : Int32)), (.int (0 : Int32)), (.int (0 : Int32)), (.int (0 : Int32)), (.int (0 : Int32))] (.int (0 : Int32)) := Arv.set Ar8 qk8 S8 N8' Hh8 G8 rfl W9 3 rfl (Nat.le_of_ble_eq_true rfl)
  have K9 : Keep h0 h9 [] := K7.wr W9 (Or.inr sz1)
  have Z9 : n0 ≤ h9.size := Nat.le_trans Z7 (Keep.of_wr W9).1
  have N9 := Fr.snoc X9 N7 lo1
  obtain ⟨cl10, Ar10, qk10, S10, N10', Hh10, G10⟩ := own_same V9
  have hin10 : ¬ ((4 : Int32) < 0 ∨ cl10.slots.size ≤ ((4 : Int32)).toNatClampNeg) := inb_of S10 ⟨by decide, by decide⟩
  obtain ⟨T11, h11, X11, e11, W11, st11⟩ := stI X9 hx hZ e9 Ar10 (j := (4 : Int32)) hin10 (g := (mkF m 23 #[.val (.int p0), .val (.int p1), .val (.int p2), .val (.int p3), .unset, .unset, .unset, .unset, .unset, .unset, .unset, .unset, .unset] [(.int (2 : Int32)), (.int (4 : Int32)), (.ref b1), (.ref b1)])) rfl rfl (hb hby at_23)
  have V11 : Arv Z h11 b1 k1 .int (15 : Int32) [(.int (0 : Int32)), (.int (4 : Int32)), (.int (1 : Int32)), (.int (0 : Int32)), (.int (2 : Int32)), (.int (0 : Int32)), (.int (0 : Int32)), (.int (0 : Int32)), (.int (0 : Int32)), (.int (0 : Int32)), (.int (0 : Int32)), (.int (0 : Int32)), (.int (0 : Int32)), (.int (0 : Int32)), (.int (0 : Int32))] (.int (0 : Int32)) := Arv.set Ar10 qk10 S10 N10' Hh10 G10 rfl W11 4 rfl (Nat.le_of_ble_eq_true rfl)
  have K11 : Keep h0 h11 [] := K9.wr W11 (Or.inr sz1)
  have Z11 : n0 ≤ h11.size := Nat.le_trans Z9 (Keep.of_wr W11).1
  have N11 := Fr.snoc X11 N9 lo1
  obtain ⟨cl12, Ar12, qk12, S12, N12', Hh12, G12⟩ := own_same V11
  have hin12 : ¬ ((5 : Int32) < 0 ∨ cl12.slots.size ≤ ((5 : Int32)).toNatClampNeg) := inb_of S12 ⟨by decide, by decide⟩
  obtain ⟨T13, h13, X13, e13, W13, st13⟩ := stI X11 hx hZ e11 Ar12 (j := (5 : Int32)) hin12 (g := (mkF m 27 #[.val (.int p0), .val (.int p1), .val (.int p2), .val (.int p3), .unset, .unset, .unset, .unset, .unset, .unset, .unset, .unset, .unset] [(.int (1 : Int32)), (.int (5 : Int32)), (.ref b1), (.ref b1)])) rfl rfl (hb hby at_27)
  have V13 : Arv Z h13 b1 k1 .int (15 : Int32) [(.int (0 : Int32)), (.int (4 : Int32)), (.int (1 : Int32)), (.int (0 : Int32)), (.int (2 : Int32)), (.int (1 : Int32)), (.int (0 : Int32)), (.int (0 : Int32)), (.int (0 : Int32)), (.int (0 : Int32)), (.int (0 : Int32)), (.int (0 : Int32)), (.int (0 : Int32)), (.int (0 : Int32)), (.int (0 : Int32))] (.int (0 : Int32)) := Arv.set Ar12 qk12 S12 N12' Hh12 G12 rfl W13 5 rfl (Nat.le_of_ble_eq_true rfl)
  have K13 : Keep h0 h13 [] := K11.wr W13 (Or.inr sz1)
  have Z13 : n0 ≤ h13.size := Nat.le_trans Z11 (Keep.of_wr W13).1
  have N13 := Fr.snoc X13 N11 lo1
  obtain ⟨cl14, Ar14, qk14, S14, N14', Hh14, G14⟩ := own_same V13
  have hin14 : ¬ ((6 : Int32) < 0 ∨ cl14.slots.size ≤ ((6 : Int32)).toNatClampNeg) := inb_of S14 ⟨by decide, by decide⟩
  obtain ⟨T15, h15, X15, e15, W15, st15⟩ := stI X13 hx hZ e13 Ar14 (j := (6 : Int32)) hin14 (g := (mkF m 32 #[.val (.int p0), .val (.int p1), .val (.int p2), .val (.int p3), .unset, .unset, .unset, .unset, .unset, .unset, .unset, .unset, .unset] [(.int (0 : Int32)), (.int (6 : Int32)), (.ref b1), (.ref b1)])) rfl rfl (hb hby at_32)
  have V15 : Arv Z h15 b1 k1 .int (15 : Int32) [(.int (0 : Int32)), (.int (4 : Int32)), (.int (1 : Int32)), (.int (0 : Int32)), (.int (2 : Int32)), (.int (1 : Int32)), (.int (0 : Int32)), (.int (0 : Int32)), (.int (0 : Int32)), (.int (0 : Int32)), (.int (0 : Int32)), (.int (0 : Int32)), (.int (0 : Int32)), (.int (0 : Int32)), (.int (0 : Int32))] (.int (0 : Int32)) := Arv.set Ar14 qk14 S14 N14' Hh14 G14 rfl W15 6 rfl (Nat.le_of_ble_eq_true rfl)
  have K15 : Keep h0 h15 [] := K13.wr W15 (Or.inr sz1)
  have Z15 : n0 ≤ h15.size := Nat.le_trans Z13 (Keep.of_wr W15).1
  have N15 := Fr.snoc X15 N13 lo1
  obtain ⟨cl16, Ar16, qk16, S16, N16', Hh16, G16⟩ := own_same V15
  have hin16 : ¬ ((7 : Int32) < 0 ∨ cl16.slots.size ≤ ((7 : Int32)).toNatClampNeg) := inb_of S16 ⟨by decide, by decide⟩
  obtain ⟨T17, h17, X17, e17, W17, st17⟩ := stI X15 hx hZ e15 Ar16 (j := (7 : Int32)) hin16 (g := (mkF m 37 #[.val (.int p0), .val (.int p1), .val (.int p2), .val (.int p3), .unset, .unset, .unset, .unset, .unset, .unset, .unset, .unset, .unset] [(.int (0 : Int32)), (.int (7 : Int32)), (.ref b1), (.ref b1)])) rfl rfl (hb hby at_37)
  have V17 : Arv Z h17 b1 k1 .int (15 : Int32) [(.int (0 : Int32)), (.int (4 : Int32)), (.int (1 : Int32)), (.int (0 : Int32)), (.int (2 : Int32)), (.int (1 : Int32)), (.int (0 : Int32)), (.int (0 : Int32)), (.int (0 : Int32)), (.int (0 : Int32)), (.int (0 : Int32)), (.int (0 : Int32)), (.int (0 : Int32)), (.int (0 : Int32)), (.int (0 : Int32))] (.int (0 : Int32)) := Arv.set Ar16 qk16 S16 N16' Hh16 G16 rfl W17 7 rfl (Nat.le_of_ble_eq_true rfl)
  have K17 : Keep h0 h17 [] := K15.wr W17 (Or.inr sz1)
  have Z17 : n0 ≤ h17.size := Nat.le_trans Z15 (Keep.of_wr W17).1
  have N17 := Fr.snoc X17 N15 lo1
  obtain ⟨cl18, Ar18, qk18, S18, N18', Hh18, G18⟩ := own_same V17
  have hin18 : ¬ ((8 : Int32) < 0 ∨ cl18.slots.size ≤ ((8 : Int32)).toNatClampNeg) := inb_of S18 ⟨by decide, by decide⟩
  obtain ⟨T19, h19, X19, e19, W19, st19⟩ := stI X17 hx hZ e17 Ar18 (j := (8 : Int32)) hin18 (g := (mkF m 42 #[.val (.int p0), .val (.int p1), .val (.int p2), .val (.int p3), .unset, .unset, .unset, .unset, .unset, .unset, .unset, .unset, .unset] [(.int (0 : Int32)), (.int (8 : Int32)), (.ref b1), (.ref b1)])) rfl rfl (hb hby at_42)
  have V19 : Arv Z h19 b1 k1 .int (15 : Int32) [(.int (0 : Int32)), (.int (4 : Int32)), (.int (1 : Int32)), (.int (0 : Int32)), (.int (2 : Int32)), (.int (1 : Int32)), (.int (0 : Int32)), (.int (0 : Int32)), (.int (0 : Int32)), (.int (0 : Int32)), (.int (0 : Int32)), (.int (0 : Int32)), (.int (0 : Int32)), (.int (0 : Int32)), (.int (0 : Int32))] (.int (0 : Int32)) := Arv.set Ar18 qk18 S18 N18' Hh18 G18 rfl W19 8 rfl (Nat.le_of_ble_eq_true rfl)
  have K19 : Keep h0 h19 [] := K17.wr W19 (Or.inr sz1)
  have Z19 : n0 ≤ h19.size := Nat.le_trans Z17 (Keep.of_wr W19).1
  have N19 := Fr.snoc X19 N17 lo1
  obtain ⟨cl20, Ar20, qk20, S20, N20', Hh20, G20⟩ := own_same V19
  have hin20 : ¬ ((9 : Int32) < 0 ∨ cl20.slots.size ≤ ((9 : Int32)).toNatClampNeg) := inb_of S20 ⟨by decide, by decide⟩
  obtain ⟨T21, h21, X21, e21, W21, st21⟩ := stI X19 hx hZ e19 Ar20 (j := (9 : Int32)) hin20 (g := (mkF m 47 #[.val (.int p0), .val (.int p1), .val (.int p2), .val (.int p3), .unset, .unset, .unset, .unset, .unset, .unset, .unset, .unset, .unset] [(.int (0 : Int32)), (.int (9 : Int32)), (.ref b1), (.ref b1)])) rfl rfl (hb hby at_47)
  have V21 : Arv Z h21 b1 k1 .int (15 : Int32) [(.int (0 : Int32)), (.int (4 : Int32)), (.int (1 : Int32)), (.int (0 : Int32)), (.int (2 : Int32)), (.int (1 : Int32)), (.int (0 : Int32)), (.int (0 : Int32)), (.int (0 : Int32)), (.int (0 : Int32)), (.int (0 : Int32)), (.int (0 : Int32)), (.int (0 : Int32)), (.int (0 : Int32)), (.int (0 : Int32))] (.int (0 : Int32)) := Arv.set Ar20 qk20 S20 N20' Hh20 G20 rfl W21 9 rfl (Nat.le_of_ble_eq_true rfl)
  have K21 : Keep h0 h21 [] := K19.wr W21 (Or.inr sz1)
  have Z21 : n0 ≤ h21.size := Nat.le_trans Z19 (Keep.of_wr W21).1
  have N21 := Fr.snoc X21 N19 lo1
  obtain ⟨cl22, Ar22, qk22, S22, N22', Hh22, G22⟩ := own_same V21
  have hin22 : ¬ ((10 : Int32) < 0 ∨ cl22.slots.size ≤ ((10 : Int32)).toNatClampNeg) := inb_of S22 ⟨by decide, by decide⟩
  obtain ⟨T23, h23, X23, e23, W23, st23⟩ := stI X21 hx hZ e21 Ar22 (j := (10 : Int32)) hin22 (g := (mkF m 52 #[.val (.int p0), .val (.int p1), .val (.int p2), .val (.int p3), .unset, .unset, .unset, .unset, .unset, .unset, .unset, .unset, .unset] [(.int (0 : Int32)), (.int (10 : Int32)), (.ref b1), (.ref b1)])) rfl rfl (hb hby at_52)
  have V23 : Arv Z h23 b1 k1 .int (15 : Int32) [(.int (0 : Int32)), (.int (4 : Int32)), (.int (1 : Int32)), (.int (0 : Int32)), (.int (2 : Int32)), (.int (1 : Int32)), (.int (0 : Int32)), (.int (0 : Int32)), (.int (0 : Int32)), (.int (0 : Int32)), (.int (0 : Int32)), (.int (0 : Int32)), (.int (0 : Int32)), (.int (0 : Int32)), (.int (0 : Int32))] (.int (0 : Int32)) := Arv.set Ar22 qk22 S22 N22' Hh22 G22 rfl W23 10 rfl (Nat.le_of_ble_eq_true rfl)
  have K23 : Keep h0 h23 [] := K21.wr W23 (Or.inr sz1)
  have Z23 : n0 ≤ h23.size := Nat.le_trans Z21 (Keep.of_wr W23).1
  have N23 := Fr.snoc X23 N21 lo1
  obtain ⟨cl24, Ar24, qk24, S24, N24', Hh24, G24⟩ := own_same V23
  have hin24 : ¬ ((11 : Int32) < 0 ∨ cl24.slots.size ≤ ((11 : Int32)).toNatClampNeg) := inb_of S24 ⟨by decide, by decide⟩
  obtain ⟨T25, h25, X25, e25, W25, st25⟩ := stI X23 hx hZ e23 Ar24 (j := (11 : Int32)) hin24 (g := (mkF m 57 #[.val (.int p0), .val (.int p1), .val (.int p2), .val (.int p3), .unset, .unset, .unset, .unset, .unset, .unset, .unset, .unset, .unset] [(.int (0 : Int32)), (.int (11 : Int32)), (.ref b1), (.ref b1)])) rfl rfl (hb hby at_57)
  have V25 : Arv Z h25 b1 k1 .int (15 : Int32) [(.int (0 : Int32)), (.int (4 : Int32)), (.int (1 : Int32)), (.int (0 : Int32)), (.int (2 : Int32)), (.int (1 : Int32)), (.int (0 : Int32)), (.int (0 : Int32)), (.int (0 : Int32)), (.int (0 : Int32)), (.int (0 : Int32)), (.int (0 : Int32)), (.int (0 : Int32)), (.int (0 : Int32)), (.int (0 : Int32))] (.int (0 : Int32)) := Arv.set Ar24 qk24 S24 N24' Hh24 G24 rfl W25 11 rfl (Nat.le_of_ble_eq_true rfl)
  have K25 : Keep h0 h25 [] := K23.wr W25 (Or.inr sz1)
  have Z25 : n0 ≤ h25.size := Nat.le_trans Z23 (Keep.of_wr W25).1
  have N25 := Fr.snoc X25 N23 lo1
  obtain ⟨cl26, Ar26, qk26, S26, N26', Hh26, G26⟩ := own_same V25
  have hin26 : ¬ ((12 : Int32) < 0 ∨ cl26.slots.size ≤ ((12 : Int32)).toNatClampNeg) := inb_of S26 ⟨by decide, by decide⟩
  obtain ⟨T27, h27, X27, e27, W27, st27⟩ := stI X25 hx hZ e25 Ar26 (j := (12 : Int32)) hin26 (g := (mkF m 62 #[.val (.int p0), .val (.int p1), .val (.int p2), .val (.int p3), .unset, .unset, .unset, .unset, .unset, .unset, .unset, .unset, .unset] [(.int (0 : Int32)), (.int (12 : Int32)), (.ref b1), (.ref b1)])) rfl rfl (hb hby at_62)
  have V27 : Arv Z h27 b1 k1 .int (15 : Int32) [(.int (0 : Int32)), (.int (4 : Int32)), (.int (1 : Int32)), (.int (0 : Int32)), (.int (2 : Int32)), (.int (1 : Int32)), (.int (0 : Int32)), (.int (0 : Int32)), (.int (0 : Int32)), (.int (0 : Int32)), (.int (0 : Int32)), (.int (0 : Int32)), (.int (0 : Int32)), (.int (0 : Int32)), (.int (0 : Int32))] (.int (0 : Int32)) := Arv.set Ar26 qk26 S26 N26' Hh26 G26 rfl W27 12 rfl (Nat.le_of_ble_eq_true rfl)
  have K27 : Keep h0 h27 [] := K25.wr W27 (Or.inr sz1)
  have Z27 : n0 ≤ h27.size := Nat.le_trans Z25 (Keep.of_wr W27).1
  have N27 := Fr.snoc X27 N25 lo1
  obtain ⟨cl28, Ar28, qk28, S28, N28', Hh28, G28⟩ := own_same V27
  have hin28 : ¬ ((13 : Int32) < 0 ∨ cl28.slots.size ≤ ((13 : Int32)).toNatClampNeg) := inb_of S28 ⟨by decide, by decide⟩
  obtain ⟨T29, h29, X29, e29, W29, st29⟩ := stI X27 hx hZ e27 Ar28 (j := (13 : Int32)) hin28 (g := (mkF m 67 #[.val (.int p0), .val (.int p1), .val (.int p2), .val (.int p3), .unset, .unset, .unset, .unset, .unset, .unset, .unset, .unset, .unset] [(.int (0 : Int32)), (.int (13 : Int32)), (.ref b1), (.ref b1)])) rfl rfl (hb hby at_67)
  have V29 : Arv Z h29 b1 k1 .int (15 : Int32) [(.int (0 : Int32)), (.int (4 : Int32)), (.int (1 : Int32)), (.int (0 : Int32)), (.int (2 : Int32)), (.int (1 : Int32)), (.int (0 : Int32)), (.int (0 : Int32)), (.int (0 : Int32)), (.int (0 : Int32)), (.int (0 : Int32)), (.int (0 : Int32)), (.int (0 : Int32)), (.int (0 : Int32)), (.int (0 : Int32))] (.int (0 : Int32)) := Arv.set Ar28 qk28 S28 N28' Hh28 G28 rfl W29 13 rfl (Nat.le_of_ble_eq_true rfl)
  have K29 : Keep h0 h29 [] := K27.wr W29 (Or.inr sz1)
  have Z29 : n0 ≤ h29.size := Nat.le_trans Z27 (Keep.of_wr W29).1
  have N29 := Fr.snoc X29 N27 lo1
  obtain ⟨cl30, Ar30, qk30, S30, N30', Hh30, G30⟩ := own_same V29
  have hin30 : ¬ ((14 : Int32) < 0 ∨ cl30.slots.size ≤ ((14 : Int32)).toNatClampNeg) := inb_of S30 ⟨by decide, by decide⟩
  obtain ⟨T31, h31, X31, e31, W31, st31⟩ := stI X29 hx hZ e29 Ar30 (j := (14 : Int32)) hin30 (g := (mkF m 72 #[.val (.int p0), .val (.int p1), .val (.int p2), .val (.int p3), .unset, .unset, .unset, .unset, .unset, .unset, .unset, .unset, .unset] [(.int (0 : Int32)), (.int (14 : Int32)), (.ref b1), (.ref b1)])) rfl rfl (hb hby at_72)
  have V31 : Arv Z h31 b1 k1 .int (15 : Int32) [(.int (0 : Int32)), (.int (4 : Int32)), (.int (1 : Int32)), (.int (0 : Int32)), (.int (2 : Int32)), (.int (1 : Int32)), (.int (0 : Int32)), (.int (0 : Int32)), (.int (0 : Int32)), (.int (0 : Int32)), (.int (0 : Int32)), (.int (0 : Int32)), (.int (0 : Int32)), (.int (0 : Int32)), (.int (0 : Int32))] (.int (0 : Int32)) := Arv.set Ar30 qk30 S30 N30' Hh30 G30 rfl W31 14 rfl (Nat.le_of_ble_eq_true rfl)
  have K31 : Keep h0 h31 [] := K29.wr W31 (Or.inr sz1)
  have Z31 : n0 ≤ h31.size := Nat.le_trans Z29 (Keep.of_wr W31).1
  have N31 := Fr.snoc X31 N29 lo1
  obtain ⟨T32, h32, k32, X32, e32, E32, A32, st32⟩ := newP X31 hx hZ (hw _ (List.mem_of_getElem? (i := 0) rfl)) e31 (g := (mkF m 77 #[.val (.int p0), .val (.int p1), .val (.int p2), .val (.int p3), .val (.ref b1), .unset, .unset, .unset, .unset, .unset, .unset, .unset, .unset] [(.int (15 : Int32))])) rfl (hb hby at_77) rfl (by decide) (cap := 15) (by decide) (by decide) (by decide) (by decide)
  obtain ⟨b32, g32⟩ : ∃ z, z = h31.size := ⟨_, rfl⟩
  rw [← g32] at A32 st32
  have ne32_b1 : b1 ≠ b32 := Nat.ne_of_lt (Nat.lt_of_lt_of_le V31.lt (Nat.le_of_eq g32.symm))
  have lo32 : n0 ≤ b32 := Nat.le_trans Z31 (Nat.le_of_eq g32.symm)
  have sz32 : h0.size ≤ b32 := Nat.le_trans K31.1 (Nat.le_of_eq g32.symm)
  have f32_0 := V31.ext E32
  have K32 := K31.ext E32
  have Z32 : n0 ≤ h32.size := Nat.le_trans Z31 E32.1
  have V32 : Arv Z h32 b32 k32 .int (15 : Int32) [(.int (0 : Int32)), (.int (0 : Int32)), (.int (0 : Int32)), (.int (0 : Int32)), (.int (0 : Int32)), (.int (0 : Int32)), (.int (0 : Int32)), (.int (0 : Int32)), (.int (0 : Int32)), (.int (0 : Int32)), (.int (0 : Int32)), (.int (0 : Int32)), (.int (0 : Int32)), (.int (0 : Int32)), (.int (0 : Int32))] (.int (0 : Int32)) := (Arv.new A32 (by decide)).pad (pad_rep [] (.int (0 : Int32)) 15)
  obtain ⟨cl33, Ar33, qk33, S33, N33', Hh33, G33⟩ := own_same V32
  have hin33 : ¬ ((0 : Int32) < 0 ∨ cl33.slots.size ≤ ((0 : Int32)).toNatClampNeg) := inb_of S33 ⟨by decide, by decide⟩
  obtain ⟨T34, h34, X34, e34, W34, st34⟩ := stI X32 hx hZ e32 Ar33 (j := (0 : Int32)) hin33 (g := (mkF m 83 #[.val (.int p0), .val (.int p1), .val (.int p2), .val (.int p3), .val (.ref b1), .unset, .unset, .unset, .unset, .unset, .unset, .unset, .unset] [(.int (7 : Int32)), (.int (0 : Int32)), (.ref b32), (.ref b32)])) rfl rfl (hb hby at_83)
  have V34 : Arv Z h34 b32 k32 .int (15 : Int32) [(.int (7 : Int32)), (.int (0 : Int32)), (.int (0 : Int32)), (.int (0 : Int32)), (.int (0 : Int32)), (.int (0 : Int32)), (.int (0 : Int32)), (.int (0 : Int32)), (.int (0 : Int32)), (.int (0 : Int32)), (.int (0 : Int32)), (.int (0 : Int32)), (.int (0 : Int32)), (.int (0 : Int32)), (.int (0 : Int32))] (.int (0 : Int32)) := Arv.set Ar33 qk33 S33 N33' Hh33 G33 rfl W34 0 rfl (Nat.le_of_ble_eq_true rfl)
  have f34_0 := f32_0.other W34 ne32_b1
  have K34 : Keep h0 h34 [] := K32.wr W34 (Or.inr sz32)
  have Z34 : n0 ≤ h34.size := Nat.le_trans Z32 (Keep.of_wr W34).1
  have N34 := Fr.snoc X34 N31 lo32
  obtain ⟨cl35, Ar35, qk35, S35, N35', Hh35, G35⟩ := own_same V34
  have hin35 : ¬ ((1 : Int32) < 0 ∨ cl35.slots.size ≤ ((1 : Int32)).toNatClampNeg) := inb_of S35 ⟨by decide, by decide⟩
  obtain ⟨T36, h36, X36, e36, W36, st36⟩ := stI X34 hx hZ e34 Ar35 (j := (1 : Int32)) hin35 (g := (mkF m 88 #[.val (.int p0), .val (.int p1), .val (.int p2), .val (.int p3), .val (.ref b1), .unset, .unset, .unset, .unset, .unset, .unset, .unset, .unset] [(.int (11 : Int32)), (.int (1 : Int32)), (.ref b32), (.ref b32)])) rfl rfl (hb hby at_88)
  have V36 : Arv Z h36 b32 k32 .int (15 : Int32) [(.int (7 : Int32)), (.int (11 : Int32)), (.int (0 : Int32)), (.int (0 : Int32)), (.int (0 : Int32)), (.int (0 : Int32)), (.int (0 : Int32)), (.int (0 : Int32)), (.int (0 : Int32)), (.int (0 : Int32)), (.int (0 : Int32)), (.int (0 : Int32)), (.int (0 : Int32)), (.int (0 : Int32)), (.int (0 : Int32))] (.int (0 : Int32)) := Arv.set Ar35 qk35 S35 N35' Hh35 G35 rfl W36 1 rfl (Nat.le_of_ble_eq_true rfl)
  have f36_0 := f34_0.other W36 ne32_b1
  have K36 : Keep h0 h36 [] := K34.wr W36 (Or.inr sz32)
  have Z36 : n0 ≤ h36.size := Nat.le_trans Z34 (Keep.of_wr W36).1
  have N36 := Fr.snoc X36 N34 lo32
  obtain ⟨cl37, Ar37, qk37, S37, N37', Hh37, G37⟩ := own_same V36
  have hin37 : ¬ ((2 : Int32) < 0 ∨ cl37.slots.size ≤ ((2 : Int32)).toNatClampNeg) := inb_of S37 ⟨by decide, by decide⟩
  obtain ⟨T38, h38, X38, e38, W38, st38⟩ := stI X36 hx hZ e36 Ar37 (j := (2 : Int32)) hin37 (g := (mkF m 92 #[.val (.int p0), .val (.int p1), .val (.int p2), .val (.int p3), .val (.ref b1), .unset, .unset, .unset, .unset, .unset, .unset, .unset, .unset] [(.int (2 : Int32)), (.int (2 : Int32)), (.ref b32), (.ref b32)])) rfl rfl (hb hby at_92)
  have V38 : Arv Z h38 b32 k32 .int (15 : Int32) [(.int (7 : Int32)), (.int (11 : Int32)), (.int (2 : Int32)), (.int (0 : Int32)), (.int (0 : Int32)), (.int (0 : Int32)), (.int (0 : Int32)), (.int (0 : Int32)), (.int (0 : Int32)), (.int (0 : Int32)), (.int (0 : Int32)), (.int (0 : Int32)), (.int (0 : Int32)), (.int (0 : Int32)), (.int (0 : Int32))] (.int (0 : Int32)) := Arv.set Ar37 qk37 S37 N37' Hh37 G37 rfl W38 2 rfl (Nat.le_of_ble_eq_true rfl)
  have f38_0 := f36_0.other W38 ne32_b1
  have K38 : Keep h0 h38 [] := K36.wr W38 (Or.inr sz32)
  have Z38 : n0 ≤ h38.size := Nat.le_trans Z36 (Keep.of_wr W38).1
  have N38 := Fr.snoc X38 N36 lo32
  obtain ⟨cl39, Ar39, qk39, S39, N39', Hh39, G39⟩ := own_same V38
  have hin39 : ¬ ((3 : Int32) < 0 ∨ cl39.slots.size ≤ ((3 : Int32)).toNatClampNeg) := inb_of S39 ⟨by decide, by decide⟩
  obtain ⟨T40, h40, X40, e40, W40, st40⟩ := stI X38 hx hZ e38 Ar39 (j := (3 : Int32)) hin39 (g := (mkF m 96 #[.val (.int p0), .val (.int p1), .val (.int p2), .val (.int p3), .val (.ref b1), .unset, .unset, .unset, .unset, .unset, .unset, .unset, .unset] [(.int (4 : Int32)), (.int (3 : Int32)), (.ref b32), (.ref b32)])) rfl rfl (hb hby at_96)
  have V40 : Arv Z h40 b32 k32 .int (15 : Int32) [(.int (7 : Int32)), (.int (11 : Int32)), (.int (2 : Int32)), (.int (4 : Int32)), (.int (0 : Int32)), (.int (0 : Int32)), (.int (0 : Int32)), (.int (0 : Int32)), (.int (0 : Int32)), (.int (0 : Int32)), (.int (0 : Int32)), (.int (0 : Int32)), (.int (0 : Int32)), (.int (0 : Int32)), (.int (0 : Int32))] (.int (0 : Int32)) := Arv.set Ar39 qk39 S39 N39' Hh39 G39 rfl W40 3 rfl (Nat.le_of_ble_eq_true rfl)
  have f40_0 := f38_0.other W40 ne32_b1
  have K40 : Keep h0 h40 [] := K38.wr W40 (Or.inr sz32)
  have Z40 : n0 ≤ h40.size := Nat.le_trans Z38 (Keep.of_wr W40).1
  have N40 := Fr.snoc X40 N38 lo32
  obtain ⟨cl41, Ar41, qk41, S41, N41', Hh41, G41⟩ := own_same V40
  have hin41 : ¬ ((4 : Int32) < 0 ∨ cl41.slots.size ≤ ((4 : Int32)).toNatClampNeg) := inb_of S41 ⟨by decide, by decide⟩
  obtain ⟨T42, h42, X42, e42, W42, st42⟩ := stI X40 hx hZ e40 Ar41 (j := (4 : Int32)) hin41 (g := (mkF m 101 #[.val (.int p0), .val (.int p1), .val (.int p2), .val (.int p3), .val (.ref b1), .unset, .unset, .unset, .unset, .unset, .unset, .unset, .unset] [(.int (7 : Int32)), (.int (4 : Int32)), (.ref b32), (.ref b32)])) rfl rfl (hb hby at_101)
  have V42 : Arv Z h42 b32 k32 .int (15 : Int32) [(.int (7 : Int32)), (.int (11 : Int32)), (.int (2 : Int32)), (.int (4 : Int32)), (.int (7 : Int32)), (.int (0 : Int32)), (.int (0 : Int32)), (.int (0 : Int32)), (.int (0 : Int32)), (.int (0 : Int32)), (.int (0 : Int32)), (.int (0 : Int32)), (.int (0 : Int32)), (.int (0 : Int32)), (.int (0 : Int32))] (.int (0 : Int32)) := Arv.set Ar41 qk41 S41 N41' Hh41 G41 rfl W42 4 rfl (Nat.le_of_ble_eq_true rfl)
  have f42_0 := f40_0.other W42 ne32_b1
  have K42 : Keep h0 h42 [] := K40.wr W42 (Or.inr sz32)
  have Z42 : n0 ≤ h42.size := Nat.le_trans Z40 (Keep.of_wr W42).1
  have N42 := Fr.snoc X42 N40 lo32
  obtain ⟨cl43, Ar43, qk43, S43, N43', Hh43, G43⟩ := own_same V42
  have hin43 : ¬ ((5 : Int32) < 0 ∨ cl43.slots.size ≤ ((5 : Int32)).toNatClampNeg) := inb_of S43 ⟨by decide, by decide⟩
  obtain ⟨T44, h44, X44, e44, W44, st44⟩ := stI X42 hx hZ e42 Ar43 (j := (5 : Int32)) hin43 (g := (mkF m 105 #[.val (.int p0), .val (.int p1), .val (.int p2), .val (.int p3), .val (.ref b1), .unset, .unset, .unset, .unset, .unset, .unset, .unset, .unset] [(.int (5 : Int32)), (.int (5 : Int32)), (.ref b32), (.ref b32)])) rfl rfl (hb hby at_105)
  have V44 : Arv Z h44 b32 k32 .int (15 : Int32) [(.int (7 : Int32)), (.int (11 : Int32)), (.int (2 : Int32)), (.int (4 : Int32)), (.int (7 : Int32)), (.int (5 : Int32)), (.int (0 : Int32)), (.int (0 : Int32)), (.int (0 : Int32)), (.int (0 : Int32)), (.int (0 : Int32)), (.int (0 : Int32)), (.int (0 : Int32)), (.int (0 : Int32)), (.int (0 : Int32))] (.int (0 : Int32)) := Arv.set Ar43 qk43 S43 N43' Hh43 G43 rfl W44 5 rfl (Nat.le_of_ble_eq_true rfl)
  have f44_0 := f42_0.other W44 ne32_b1
  have K44 : Keep h0 h44 [] := K42.wr W44 (Or.inr sz32)
  have Z44 : n0 ≤ h44.size := Nat.le_trans Z42 (Keep.of_wr W44).1
  have N44 := Fr.snoc X44 N42 lo32
  obtain ⟨cl45, Ar45, qk45, S45, N45', Hh45, G45⟩ := own_same V44
  have hin45 : ¬ ((6 : Int32) < 0 ∨ cl45.slots.size ≤ ((6 : Int32)).toNatClampNeg) := inb_of S45 ⟨by decide, by decide⟩
  obtain ⟨T46, h46, X46, e46, W46, st46⟩ := stI X44 hx hZ e44 Ar45 (j := (6 : Int32)) hin45 (g := (mkF m 110 #[.val (.int p0), .val (.int p1), .val (.int p2), .val (.int p3), .val (.ref b1), .unset, .unset, .unset, .unset, .unset, .unset, .unset, .unset] [(.int (2 : Int32)), (.int (6 : Int32)), (.ref b32), (.ref b32)])) rfl rfl (hb hby at_110)
  have V46 : Arv Z h46 b32 k32 .int (15 : Int32) [(.int (7 : Int32)), (.int (11 : Int32)), (.int (2 : Int32)), (.int (4 : Int32)), (.int (7 : Int32)), (.int (5 : Int32)), (.int (2 : Int32)), (.int (0 : Int32)), (.int (0 : Int32)), (.int (0 : Int32)), (.int (0 : Int32)), (.int (0 : Int32)), (.int (0 : Int32)), (.int (0 : Int32)), (.int (0 : Int32))] (.int (0 : Int32)) := Arv.set Ar45 qk45 S45 N45' Hh45 G45 rfl W46 6 rfl (Nat.le_of_ble_eq_true rfl)
  have f46_0 := f44_0.other W46 ne32_b1
  have K46 : Keep h0 h46 [] := K44.wr W46 (Or.inr sz32)
  have Z46 : n0 ≤ h46.size := Nat.le_trans Z44 (Keep.of_wr W46).1
  have N46 := Fr.snoc X46 N44 lo32
  obtain ⟨cl47, Ar47, qk47, S47, N47', Hh47, G47⟩ := own_same V46
  have hin47 : ¬ ((7 : Int32) < 0 ∨ cl47.slots.size ≤ ((7 : Int32)).toNatClampNeg) := inb_of S47 ⟨by decide, by decide⟩
  obtain ⟨T48, h48, X48, e48, W48, st48⟩ := stI X46 hx hZ e46 Ar47 (j := (7 : Int32)) hin47 (g := (mkF m 115 #[.val (.int p0), .val (.int p1), .val (.int p2), .val (.int p3), .val (.ref b1), .unset, .unset, .unset, .unset, .unset, .unset, .unset, .unset] [(.int (5 : Int32)), (.int (7 : Int32)), (.ref b32), (.ref b32)])) rfl rfl (hb hby at_115)
  have V48 : Arv Z h48 b32 k32 .int (15 : Int32) [(.int (7 : Int32)), (.int (11 : Int32)), (.int (2 : Int32)), (.int (4 : Int32)), (.int (7 : Int32)), (.int (5 : Int32)), (.int (2 : Int32)), (.int (5 : Int32)), (.int (0 : Int32)), (.int (0 : Int32)), (.int (0 : Int32)), (.int (0 : Int32)), (.int (0 : Int32)), (.int (0 : Int32)), (.int (0 : Int32))] (.int (0 : Int32)) := Arv.set Ar47 qk47 S47 N47' Hh47 G47 rfl W48 7 rfl (Nat.le_of_ble_eq_true rfl)
  have f48_0 := f46_0.other W48 ne32_b1
  have K48 : Keep h0 h48 [] := K46.wr W48 (Or.inr sz32)
  have Z48 : n0 ≤ h48.size := Nat.le_trans Z46 (Keep.of_wr W48).1
  have N48 := Fr.snoc X48 N46 lo32
  obtain ⟨cl49, Ar49, qk49, S49, N49', Hh49, G49⟩ := own_same V48
  have hin49 : ¬ ((8 : Int32) < 0 ∨ cl49.slots.size ≤ ((8 : Int32)).toNatClampNeg) := inb_of S49 ⟨by decide, by decide⟩
  obtain ⟨T50, h50, X50, e50, W50, st50⟩ := stI X48 hx hZ e48 Ar49 (j := (8 : Int32)) hin49 (g := (mkF m 120 #[.val (.int p0), .val (.int p1), .val (.int p2), .val (.int p3), .val (.ref b1), .unset, .unset, .unset, .unset, .unset, .unset, .unset, .unset] [(.int (3 : Int32)), (.int (8 : Int32)), (.ref b32), (.ref b32)])) rfl rfl (hb hby at_120)
  have V50 : Arv Z h50 b32 k32 .int (15 : Int32) [(.int (7 : Int32)), (.int (11 : Int32)), (.int (2 : Int32)), (.int (4 : Int32)), (.int (7 : Int32)), (.int (5 : Int32)), (.int (2 : Int32)), (.int (5 : Int32)), (.int (3 : Int32)), (.int (0 : Int32)), (.int (0 : Int32)), (.int (0 : Int32)), (.int (0 : Int32)), (.int (0 : Int32)), (.int (0 : Int32))] (.int (0 : Int32)) := Arv.set Ar49 qk49 S49 N49' Hh49 G49 rfl W50 8 rfl (Nat.le_of_ble_eq_true rfl)
  have f50_0 := f48_0.other W50 ne32_b1
  have K50 : Keep h0 h50 [] := K48.wr W50 (Or.inr sz32)
  have Z50 : n0 ≤ h50.size := Nat.le_trans Z48 (Keep.of_wr W50).1
  have N50 := Fr.snoc X50 N48 lo32
  obtain ⟨cl51, Ar51, qk51, S51, N51', Hh51, G51⟩ := own_same V50
  have hin51 : ¬ ((9 : Int32) < 0 ∨ cl51.slots.size ≤ ((9 : Int32)).toNatClampNeg) := inb_of S51 ⟨by decide, by decide⟩
  obtain ⟨T52, h52, X52, e52, W52, st52⟩ := stI X50 hx hZ e50 Ar51 (j := (9 : Int32)) hin51 (g := (mkF m 125 #[.val (.int p0), .val (.int p1), .val (.int p2), .val (.int p3), .val (.ref b1), .unset, .unset, .unset, .unset, .unset, .unset, .unset, .unset] [(.int (3 : Int32)), (.int (9 : Int32)), (.ref b32), (.ref b32)])) rfl rfl (hb hby at_125)
  have V52 : Arv Z h52 b32 k32 .int (15 : Int32) [(.int (7 : Int32)), (.int (11 : Int32)), (.int (2 : Int32)), (.int (4 : Int32)), (.int (7 : Int32)), (.int (5 : Int32)), (.int (2 : Int32)), (.int (5 : Int32)), (.int (3 : Int32)), (.int (3 : Int32)), (.int (0 : Int32)), (.int (0 : Int32)), (.int (0 : Int32)), (.int (0 : Int32)), (.int (0 : Int32))] (.int (0 : Int32)) := Arv.set Ar51 qk51 S51 N51' Hh51 G51 rfl W52 9 rfl (Nat.le_of_ble_eq_true rfl)
  have f52_0 := f50_0.other W52 ne32_b1
  have K52 : Keep h0 h52 [] := K50.wr W52 (Or.inr sz32)
  have Z52 : n0 ≤ h52.size := Nat.le_trans Z50 (Keep.of_wr W52).1
  have N52 := Fr.snoc X52 N50 lo32
  obtain ⟨cl53, Ar53, qk53, S53, N53', Hh53, G53⟩ := own_same V52
  have hin53 : ¬ ((10 : Int32) < 0 ∨ cl53.slots.size ≤ ((10 : Int32)).toNatClampNeg) := inb_of S53 ⟨by decide, by decide⟩
  obtain ⟨T54, h54, X54, e54, W54, st54⟩ := stI X52 hx hZ e52 Ar53 (j := (10 : Int32)) hin53 (g := (mkF m 130 #[.val (.int p0), .val (.int p1), .val (.int p2), .val (.int p3), .val (.ref b1), .unset, .unset, .unset, .unset, .unset, .unset, .unset, .unset] [(.int (3 : Int32)), (.int (10 : Int32)), (.ref b32), (.ref b32)])) rfl rfl (hb hby at_130)
  have V54 : Arv Z h54 b32 k32 .int (15 : Int32) [(.int (7 : Int32)), (.int (11 : Int32)), (.int (2 : Int32)), (.int (4 : Int32)), (.int (7 : Int32)), (.int (5 : Int32)), (.int (2 : Int32)), (.int (5 : Int32)), (.int (3 : Int32)), (.int (3 : Int32)), (.int (3 : Int32)), (.int (0 : Int32)), (.int (0 : Int32)), (.int (0 : Int32)), (.int (0 : Int32))] (.int (0 : Int32)) := Arv.set Ar53 qk53 S53 N53' Hh53 G53 rfl W54 10 rfl (Nat.le_of_ble_eq_true rfl)
  have f54_0 := f52_0.other W54 ne32_b1
  have K54 : Keep h0 h54 [] := K52.wr W54 (Or.inr sz32)
  have Z54 : n0 ≤ h54.size := Nat.le_trans Z52 (Keep.of_wr W54).1
  have N54 := Fr.snoc X54 N52 lo32
  obtain ⟨cl55, Ar55, qk55, S55, N55', Hh55, G55⟩ := own_same V54
  have hin55 : ¬ ((11 : Int32) < 0 ∨ cl55.slots.size ≤ ((11 : Int32)).toNatClampNeg) := inb_of S55 ⟨by decide, by decide⟩
  obtain ⟨T56, h56, X56, e56, W56, st56⟩ := stI X54 hx hZ e54 Ar55 (j := (11 : Int32)) hin55 (g := (mkF m 135 #[.val (.int p0), .val (.int p1), .val (.int p2), .val (.int p3), .val (.ref b1), .unset, .unset, .unset, .unset, .unset, .unset, .unset, .unset] [(.int (4 : Int32)), (.int (11 : Int32)), (.ref b32), (.ref b32)])) rfl rfl (hb hby at_135)
  have V56 : Arv Z h56 b32 k32 .int (15 : Int32) [(.int (7 : Int32)), (.int (11 : Int32)), (.int (2 : Int32)), (.int (4 : Int32)), (.int (7 : Int32)), (.int (5 : Int32)), (.int (2 : Int32)), (.int (5 : Int32)), (.int (3 : Int32)), (.int (3 : Int32)), (.int (3 : Int32)), (.int (4 : Int32)), (.int (0 : Int32)), (.int (0 : Int32)), (.int (0 : Int32))] (.int (0 : Int32)) := Arv.set Ar55 qk55 S55 N55' Hh55 G55 rfl W56 11 rfl (Nat.le_of_ble_eq_true rfl)
  have f56_0 := f54_0.other W56 ne32_b1
  have K56 : Keep h0 h56 [] := K54.wr W56 (Or.inr sz32)
  have Z56 : n0 ≤ h56.size := Nat.le_trans Z54 (Keep.of_wr W56).1
  have N56 := Fr.snoc X56 N54 lo32
  obtain ⟨cl57, Ar57, qk57, S57, N57', Hh57, G57⟩ := own_same V56
  have hin57 : ¬ ((12 : Int32) < 0 ∨ cl57.slots.size ≤ ((12 : Int32)).toNatClampNeg) := inb_of S57 ⟨by decide, by decide⟩
  obtain ⟨T58, h58, X58, e58, W58, st58⟩ := stI X56 hx hZ e56 Ar57 (j := (12 : Int32)) hin57 (g := (mkF m 140 #[.val (.int p0), .val (.int p1), .val (.int p2), .val (.int p3), .val (.ref b1), .unset, .unset, .unset, .unset, .unset, .unset, .unset, .unset] [(.int (2 : Int32)), (.int (12 : Int32)), (.ref b32), (.ref b32)])) rfl rfl (hb hby at_140)
  have V58 : Arv Z h58 b32 k32 .int (15 : Int32) [(.int (7 : Int32)), (.int (11 : Int32)), (.int (2 : Int32)), (.int (4 : Int32)), (.int (7 : Int32)), (.int (5 : Int32)), (.int (2 : Int32)), (.int (5 : Int32)), (.int (3 : Int32)), (.int (3 : Int32)), (.int (3 : Int32)), (.int (4 : Int32)), (.int (2 : Int32)), (.int (0 : Int32)), (.int (0 : Int32))] (.int (0 : Int32)) := Arv.set Ar57 qk57 S57 N57' Hh57 G57 rfl W58 12 rfl (Nat.le_of_ble_eq_true rfl)
  have f58_0 := f56_0.other W58 ne32_b1
  have K58 : Keep h0 h58 [] := K56.wr W58 (Or.inr sz32)
  have Z58 : n0 ≤ h58.size := Nat.le_trans Z56 (Keep.of_wr W58).1
  have N58 := Fr.snoc X58 N56 lo32
  obtain ⟨cl59, Ar59, qk59, S59, N59', Hh59, G59⟩ := own_same V58
  have hin59 : ¬ ((13 : Int32) < 0 ∨ cl59.slots.size ≤ ((13 : Int32)).toNatClampNeg) := inb_of S59 ⟨by decide, by decide⟩
  obtain ⟨T60, h60, X60, e60, W60, st60⟩ := stI X58 hx hZ e58 Ar59 (j := (13 : Int32)) hin59 (g := (mkF m 145 #[.val (.int p0), .val (.int p1), .val (.int p2), .val (.int p3), .val (.ref b1), .unset, .unset, .unset, .unset, .unset, .unset, .unset, .unset] [(.int (3 : Int32)), (.int (13 : Int32)), (.ref b32), (.ref b32)])) rfl rfl (hb hby at_145)
  have V60 : Arv Z h60 b32 k32 .int (15 : Int32) [(.int (7 : Int32)), (.int (11 : Int32)), (.int (2 : Int32)), (.int (4 : Int32)), (.int (7 : Int32)), (.int (5 : Int32)), (.int (2 : Int32)), (.int (5 : Int32)), (.int (3 : Int32)), (.int (3 : Int32)), (.int (3 : Int32)), (.int (4 : Int32)), (.int (2 : Int32)), (.int (3 : Int32)), (.int (0 : Int32))] (.int (0 : Int32)) := Arv.set Ar59 qk59 S59 N59' Hh59 G59 rfl W60 13 rfl (Nat.le_of_ble_eq_true rfl)
  have f60_0 := f58_0.other W60 ne32_b1
  have K60 : Keep h0 h60 [] := K58.wr W60 (Or.inr sz32)
  have Z60 : n0 ≤ h60.size := Nat.le_trans Z58 (Keep.of_wr W60).1
  have N60 := Fr.snoc X60 N58 lo32
  obtain ⟨cl61, Ar61, qk61, S61, N61', Hh61, G61⟩ := own_same V60
  have hin61 : ¬ ((14 : Int32) < 0 ∨ cl61.slots.size ≤ ((14 : Int32)).toNatClampNeg) := inb_of S61 ⟨by decide, by decide⟩
  obtain ⟨T62, h62, X62, e62, W62, st62⟩ := stI X60 hx hZ e60 Ar61 (j := (14 : Int32)) hin61 (g := (mkF m 150 #[.val (.int p0), .val (.int p1), .val (.int p2), .val (.int p3), .val (.ref b1), .unset, .unset, .unset, .unset, .unset, .unset, .unset, .unset] [(.int (4 : Int32)), (.int (14 : Int32)), (.ref b32), (.ref b32)])) rfl rfl (hb hby at_150)
  have V62 : Arv Z h62 b32 k32 .int (15 : Int32) [(.int (7 : Int32)), (.int (11 : Int32)), (.int (2 : Int32)), (.int (4 : Int32)), (.int (7 : Int32)), (.int (5 : Int32)), (.int (2 : Int32)), (.int (5 : Int32)), (.int (3 : Int32)), (.int (3 : Int32)), (.int (3 : Int32)), (.int (4 : Int32)), (.int (2 : Int32)), (.int (3 : Int32)), (.int (4 : Int32))] (.int (0 : Int32)) := Arv.set Ar61 qk61 S61 N61' Hh61 G61 rfl W62 14 rfl (Nat.le_of_ble_eq_true rfl)
  have f62_0 := f60_0.other W62 ne32_b1
  have K62 : Keep h0 h62 [] := K60.wr W62 (Or.inr sz32)
  have Z62 : n0 ≤ h62.size := Nat.le_trans Z60 (Keep.of_wr W62).1
  have N62 := Fr.snoc X62 N60 lo32
  obtain ⟨_, _, ⟨T63, L63, k63, n63⟩, -, X63, ⟨Lc63, hQ63, l63, y63, z63⟩, st63⟩ := Jvm.LawKit.callS X62 hx (y := (⟨"com/example/keptlog/keptlog/protocol/ApiKeySupportsPinLaw", "key", "(I)Lcom/example/keptlog/keptlog/protocol/ApiKey;"⟩ : MethodName)) hown (mvT hZ (hw _ (List.mem_of_getElem? (i := 2) rfl))) (mvT hZ (hw _ (List.mem_of_getElem? (i := 3) rfl))) (mvT hZ (hw _ (List.mem_of_getElem? (i := 4) rfl))) (mvT hZ (hw _ (List.mem_of_getElem? (i := 5) rfl))) (by decide) (backOf (W := 0) (rm1 l Z aw hw [] ((p0 &&& (2147483647 : Int32)) % (15 : Int32)) w_PRODUCE w_FETCH w_LIST_OFFSETS w_METADATA w_OFFSET_COMMIT w_OFFSET_FETCH w_FIND_COORDINATOR w_JOIN_GROUP w_HEARTBEAT w_LEAVE_GROUP w_SYNC_GROUP w_DESCRIBE_GROUPS w_LIST_GROUPS w_API_VERSIONS w_CREATE_TOPICS h62 n0 Z62 (own_sta_keep S_PRODUCE K62) (own_sta_keep S_FETCH K62) (own_sta_keep S_LIST_OFFSETS K62) (own_sta_keep S_METADATA K62) (own_sta_keep S_OFFSET_COMMIT K62) (own_sta_keep S_OFFSET_FETCH K62) (own_sta_keep S_FIND_COORDINATOR K62) (own_sta_keep S_JOIN_GROUP K62) (own_sta_keep S_HEARTBEAT K62) (own_sta_keep S_LEAVE_GROUP K62) (own_sta_keep S_SYNC_GROUP K62) (own_sta_keep S_DESCRIBE_GROUPS K62) (own_sta_keep S_LIST_GROUPS K62) (own_sta_keep S_API_VERSIONS K62) (own_sta_keep S_CREATE_TOPICS K62)) hZ (hw _ (List.mem_of_getElem? (i := 5) rfl)) (hw _ (List.mem_of_getElem? (i := 4) rfl)) (by decide) (by decide)) (g := (mkF m 164 #[.val (.int p0), .val (.int p1), .val (.int p2), .val (.int p3), .val (.ref b1), .val (.ref b32), .val (.int ((p0 &&& (2147483647 : Int32)) % (15 : Int32))), .unset, .unset, .unset, .unset, .unset, .unset] [(.int ((p0 &&& (2147483647 : Int32)) % (15 : Int32)))])) rfl (by rw [hml]; rfl) (argsL := [(.int ((p0 &&& (2147483647 : Int32)) % (15 : Int32)))]) (rest := []) (lenOf pd_0_0 rfl) rfl (by show 2 * 0 + _ ≤ _; exact Nat.le_of_eq rfl) (hb hby at_164) (fun _ _ => ⟨rfl, e62, (by decide : 2 + 0 ≤ _), (by decide : 30 + 0 ≤ _)⟩)
  dsimp only [Pt.U, Pt.locs, Pt.cells, Pt.slots] at X63 l63 y63 z63 st63 hQ63
  rw [l63, y63, z63] at X63
  obtain ⟨rfl, Nq63, e63⟩ := hQ63
  have N63 := Fr.app N62 Nq63
  have EK := own_pick (fun a _ _ => Exa Z h0 a "com/example/keptlog/keptlog/protocol/ApiKey") ((p0 &&& (2147483647 : Int32)) % (15 : Int32)) w_PRODUCE w_FETCH w_LIST_OFFSETS w_METADATA w_OFFSET_COMMIT w_OFFSET_FETCH w_FIND_COORDINATOR w_JOIN_GROUP w_HEARTBEAT w_LEAVE_GROUP w_SYNC_GROUP w_DESCRIBE_GROUPS w_LIST_GROUPS w_API_VERSIONS w_CREATE_TOPICS E_w_PRODUCE E_w_FETCH E_w_LIST_OFFSETS E_w_METADATA E_w_OFFSET_COMMIT E_w_OFFSET_FETCH E_w_FIND_COORDINATOR E_w_JOIN_GROUP E_w_HEARTBEAT E_w_LEAVE_GROUP E_w_SYNC_GROUP E_w_DESCRIBE_GROUPS E_w_LIST_GROUPS E_w_API_VERSIONS E_w_CREATE_TOPICS
  have FLK := own_pick (fun a v _ => Fld Z h0 a "com/example/keptlog/keptlog/protocol/ApiKey" "minVersion" "S" (.int v)) ((p0 &&& (2147483647 : Int32)) % (15 : Int32)) w_PRODUCE w_FETCH w_LIST_OFFSETS w_METADATA w_OFFSET_COMMIT w_OFFSET_FETCH w_FIND_COORDINATOR w_JOIN_GROUP w_HEARTBEAT w_LEAVE_GROUP w_SYNC_GROUP w_DESCRIBE_GROUPS w_LIST_GROUPS w_API_VERSIONS w_CREATE_TOPICS F_minVersion_w_PRODUCE F_minVersion_w_FETCH F_minVersion_w_LIST_OFFSETS F_minVersion_w_METADATA F_minVersion_w_OFFSET_COMMIT F_minVersion_w_OFFSET_FETCH F_minVersion_w_FIND_COORDINATOR F_minVersion_w_JOIN_GROUP F_minVersion_w_HEARTBEAT F_minVersion_w_LEAVE_GROUP F_minVersion_w_SYNC_GROUP F_minVersion_w_DESCRIBE_GROUPS F_minVersion_w_LIST_GROUPS F_minVersion_w_API_VERSIONS F_minVersion_w_CREATE_TOPICS
  have FHK := own_pick (fun a _ v => Fld Z h0 a "com/example/keptlog/keptlog/protocol/ApiKey" "maxVersion" "S" (.int v)) ((p0 &&& (2147483647 : Int32)) % (15 : Int32)) w_PRODUCE w_FETCH w_LIST_OFFSETS w_METADATA w_OFFSET_COMMIT w_OFFSET_FETCH w_FIND_COORDINATOR w_JOIN_GROUP w_HEARTBEAT w_LEAVE_GROUP w_SYNC_GROUP w_DESCRIBE_GROUPS w_LIST_GROUPS w_API_VERSIONS w_CREATE_TOPICS F_maxVersion_w_PRODUCE F_maxVersion_w_FETCH F_maxVersion_w_LIST_OFFSETS F_maxVersion_w_METADATA F_maxVersion_w_OFFSET_COMMIT F_maxVersion_w_OFFSET_FETCH F_maxVersion_w_FIND_COORDINATOR F_maxVersion_w_JOIN_GROUP F_maxVersion_w_HEARTBEAT F_maxVersion_w_LEAVE_GROUP F_maxVersion_w_SYNC_GROUP F_maxVersion_w_DESCRIBE_GROUPS F_maxVersion_w_LIST_GROUPS F_maxVersion_w_API_VERSIONS F_maxVersion_w_CREATE_TOPICS
  obtain ⟨cl64, Ar64, qk64, S64, N64', Hh64, G64⟩ := own_same f62_0
  have hin64 : ¬ (((p0 &&& (2147483647 : Int32)) % (15 : Int32)) < 0 ∨ cl64.slots.size ≤ (((p0 &&& (2147483647 : Int32)) % (15 : Int32))).toNatClampNeg) := inb_of S64 (own_k p0)
  have hat64 : cl64.slots[(((p0 &&& (2147483647 : Int32)) % (15 : Int32))).toNatClampNeg]? = some (.int (own_min ((p0 &&& (2147483647 : Int32)) % (15 : Int32)))) := Has.at Hh64 hin64 (own_atmin _ (own_k p0))
  obtain ⟨cl65, Ar65, qk65, S65, N65', Hh65, G65⟩ := own_same V62
  have hin65 : ¬ (((p0 &&& (2147483647 : Int32)) % (15 : Int32)) < 0 ∨ cl65.slots.size ≤ (((p0 &&& (2147483647 : Int32)) % (15 : Int32))).toNatClampNeg) := inb_of S65 (own_k p0)
  have hat65 : cl65.slots[(((p0 &&& (2147483647 : Int32)) % (15 : Int32))).toNatClampNeg]? = some (.int (own_max ((p0 &&& (2147483647 : Int32)) % (15 : Int32)))) := Has.at Hh65 hin65 (own_atmax _ (own_k p0))
  refine own_back (b := T63.setTop (mkF m 186 #[.val (.int p0), .val (.int p1), .val (.int p2), .val (.int p3), .val (.ref b1), .val (.ref b32), .val (.int ((p0 &&& (2147483647 : Int32)) % (15 : Int32))), .val (.ref (f1 ((p0 &&& (2147483647 : Int32)) % (15 : Int32)) w_PRODUCE w_FETCH w_LIST_OFFSETS w_METADATA w_OFFSET_COMMIT w_OFFSET_FETCH w_FIND_COORDINATOR w_JOIN_GROUP w_HEARTBEAT w_LEAVE_GROUP w_SYNC_GROUP w_DESCRIBE_GROUPS w_LIST_GROUPS w_API_VERSIONS w_CREATE_TOPICS)), .val (.int (own_min ((p0 &&& (2147483647 : Int32)) % (15 : Int32)))), .val (.int (own_max ((p0 &&& (2147483647 : Int32)) % (15 : Int32)))), .unset, .unset, .unset] [(.int (p1 &&& (1 : Int32)))])) (fun t kt => ?_) ?_
  · show Steps p.tables e below (s₁.setTop (mkF m 0 #[.val (.int p0), .val (.int p1), .val (.int p2), .val (.int p3), .unset, .unset, .unset, .unset, .unset, .unset, .unset, .unset, .unset] [])) _
    refine XS.bipush X0.here hx rfl (hb hby at_0) ?_
    show Steps p.tables e below (s₁.setTop (mkF m 2 #[.val (.int p0), .val (.int p1), .val (.int p2), .val (.int p3), .unset, .unset, .unset, .unset, .unset, .unset, .unset, .unset, .unset] [(.int (15 : Int32))])) _
    refine st1 _ ?_
    show Steps p.tables e below (T1.setTop (mkF m 4 #[.val (.int p0), .val (.int p1), .val (.int p2), .val (.int p3), .unset, .unset, .unset, .unset, .unset, .unset, .unset, .unset, .unset] [(.ref b1)])) _
    refine XS.dup X1.here hx rfl (hb hby at_4) rfl rfl ?_
    show Steps p.tables e below (T1.setTop (mkF m 5 #[.val (.int p0), .val (.int p1), .val (.int p2), .val (.int p3), .unset, .unset, .unset, .unset, .unset, .unset, .unset, .unset, .unset] [(.ref b1), (.ref b1)])) _
    refine XS.iconst X1.here hx rfl (hb hby at_5) ?_
    show Steps p.tables e below (T1.setTop (mkF m 6 #[.val (.int p0), .val (.int p1), .val (.int p2), .val (.int p3), .unset, .unset, .unset, .unset, .unset, .unset, .unset, .unset, .unset] [(.int (0 : Int32)), (.ref b1), (.ref b1)])) _
    refine XS.iconst X1.here hx rfl (hb hby at_6) ?_
    show Steps p.tables e below (T1.setTop (mkF m 7 #[.val (.int p0), .val (.int p1), .val (.int p2), .val (.int p3), .unset, .unset, .unset, .unset, .unset, .unset, .unset, .unset, .unset] [(.int (0 : Int32)), (.int (0 : Int32)), (.ref b1), (.ref b1)])) _
    refine st3 _ ?_
    show Steps p.tables e below (T3.setTop (mkF m 8 #[.val (.int p0), .val (.int p1), .val (.int p2), .val (.int p3), .unset, .unset, .unset, .unset, .unset, .unset, .unset, .unset, .unset] [(.ref b1)])) _
    refine XS.dup X3.here hx rfl (hb hby at_8) rfl rfl ?_
    show Steps p.tables e below (T3.setTop (mkF m 9 #[.val (.int p0), .val (.int p1), .val (.int p2), .val (.int p3), .unset, .unset, .unset, .unset, .unset, .unset, .unset, .unset, .unset] [(.ref b1), (.ref b1)])) _
    refine XS.iconst X3.here hx rfl (hb hby at_9) ?_
    show Steps p.tables e below (T3.setTop (mkF m 10 #[.val (.int p0), .val (.int p1), .val (.int p2), .val (.int p3), .unset, .unset, .unset, .unset, .unset, .unset, .unset, .unset, .unset] [(.int (1 : Int32)), (.ref b1), (.ref b1)])) _
    refine XS.iconst X3.here hx rfl (hb hby at_10) ?_
    show Steps p.tables e below (T3.setTop (mkF m 11 #[.val (.int p0), .val (.int p1), .val (.int p2), .val (.int p3), .unset, .unset, .unset, .unset, .unset, .unset, .unset, .unset, .unset] [(.int (4 : Int32)), (.int (1 : Int32)), (.ref b1), (.ref b1)])) _
    refine st5 _ ?_
    show Steps p.tables e below (T5.setTop (mkF m 12 #[.val (.int p0), .val (.int p1), .val (.int p2), .val (.int p3), .unset, .unset, .unset, .unset, .unset, .unset, .unset, .unset, .unset] [(.ref b1)])) _
    refine XS.dup X5.here hx rfl (hb hby at_12) rfl rfl ?_
    show Steps p.tables e below (T5.setTop (mkF m 13 #[.val (.int p0), .val (.int p1), .val (.int p2), .val (.int p3), .unset, .unset, .unset, .unset, .unset, .unset, .unset, .unset, .unset] [(.ref b1), (.ref b1)])) _
    refine XS.iconst X5.here hx rfl (hb hby at_13) ?_
    show Steps p.tables e below (T5.setTop (mkF m 14 #[.val (.int p0), .val (.int p1), .val (.int p2), .val (.int p3), .unset, .unset, .unset, .unset, .unset, .unset, .unset, .unset, .unset] [(.int (2 : Int32)), (.ref b1), (.ref b1)])) _
    refine XS.iconst X5.here hx rfl (hb hby at_14) ?_
    show Steps p.tables e below (T5.setTop (mkF m 15 #[.val (.int p0), .val (.int p1), .val (.int p2), .val (.int p3), .unset, .unset, .unset, .unset, .unset, .unset, .unset, .unset, .unset] [(.int (1 : Int32)), (.int (2 : Int32)), (.ref b1), (.ref b1)])) _
    refine st7 _ ?_
    show Steps p.tables e below (T7.setTop (mkF m 16 #[.val (.int p0), .val (.int p1), .val (.int p2), .val (.int p3), .unset, .unset, .unset, .unset, .unset, .unset, .unset, .unset, .unset] [(.ref b1)])) _
    refine XS.dup X7.here hx rfl (hb hby at_16) rfl rfl ?_
    show Steps p.tables e below (T7.setTop (mkF m 17 #[.val (.int p0), .val (.int p1), .val (.int p2), .val (.int p3), .unset, .unset, .unset, .unset, .unset, .unset, .unset, .unset, .unset] [(.ref b1), (.ref b1)])) _
    refine XS.iconst X7.here hx rfl (hb hby at_17) ?_
    show Steps p.tables e below (T7.setTop (mkF m 18 #[.val (.int p0), .val (.int p1), .val (.int p2), .val (.int p3), .unset, .unset, .unset, .unset, .unset, .unset, .unset, .unset, .unset] [(.int (3 : Int32)), (.ref b1), (.ref b1)])) _
    refine XS.iconst X7.here hx rfl (hb hby at_18) ?_
    show Steps p.tables e below (T7.setTop (mkF m 19 #[.val (.int p0), .val (.int p1), .val (.int p2), .val (.int p3), .unset, .unset, .unset, .unset, .unset, .unset, .unset, .unset, .unset] [(.int (0 : Int32)), (.int (3 : Int32)), (.ref b1), (.ref b1)])) _
    refine st9 _ ?_
    show Steps p.tables e below (T9.setTop (mkF m 20 #[.val (.int p0), .val (.int p1), .val (.int p2), .val (.int p3), .unset, .unset, .unset, .unset, .unset, .unset, .unset, .unset, .unset] [(.ref b1)])) _
    refine XS.dup X9.here hx rfl (hb hby at_20) rfl rfl ?_
    show Steps p.tables e below (T9.setTop (mkF m 21 #[.val (.int p0), .val (.int p1), .val (.int p2), .val (.int p3), .unset, .unset, .unset, .unset, .unset, .unset, .unset, .unset, .unset] [(.ref b1), (.ref b1)])) _
    refine XS.iconst X9.here hx rfl (hb hby at_21) ?_
    show Steps p.tables e below (T9.setTop (mkF m 22 #[.val (.int p0), .val (.int p1), .val (.int p2), .val (.int p3), .unset, .unset, .unset, .unset, .unset, .unset, .unset, .unset, .unset] [(.int (4 : Int32)), (.ref b1), (.ref b1)])) _
    refine XS.iconst X9.here hx rfl (hb hby at_22) ?_
    show Steps p.tables e below (T9.setTop (mkF m 23 #[.val (.int p0), .val (.int p1), .val (.int p2), .val (.int p3), .unset, .unset, .unset, .unset, .unset, .unset, .unset, .unset, .unset] [(.int (2 : Int32)), (.int (4 : Int32)), (.ref b1), (.ref b1)])) _
    refine st11 _ ?_
    show Steps p.tables e below (T11.setTop (mkF m 24 #[.val (.int p0), .val (.int p1), .val (.int p2), .val (.int p3), .unset, .unset, .unset, .unset, .unset, .unset, .unset, .unset, .unset] [(.ref b1)])) _
    refine XS.dup X11.here hx rfl (hb hby at_24) rfl rfl ?_
    show Steps p.tables e below (T11.setTop (mkF m 25 #[.val (.int p0), .val (.int p1), .val (.int p2), .val (.int p3), .unset, .unset, .unset, .unset, .unset, .unset, .unset, .unset, .unset] [(.ref b1), (.ref b1)])) _
    refine XS.iconst X11.here hx rfl (hb hby at_25) ?_
    show Steps p.tables e below (T11.setTop (mkF m 26 #[.val (.int p0), .val (.int p1), .val (.int p2), .val (.int p3), .unset, .unset, .unset, .unset, .unset, .unset, .unset, .unset, .unset] [(.int (5 : Int32)), (.ref b1), (.ref b1)])) _
    refine XS.iconst X11.here hx rfl (hb hby at_26) ?_
    show Steps p.tables e below (T11.setTop (mkF m 27 #[.val (.int p0), .val (.int p1), .val (.int p2), .val (.int p3), .unset, .unset, .unset, .unset, .unset, .unset, .unset, .unset, .unset] [(.int (1 : Int32)), (.int (5 : Int32)), (.ref b1), (.ref b1)])) _
    refine st13 _ ?_
    show Steps p.tables e below (T13.setTop (mkF m 28 #[.val (.int p0), .val (.int p1), .val (.int p2), .val (.int p3), .unset, .unset, .unset, .unset, .unset, .unset, .unset, .unset, .unset] [(.ref b1)])) _
    refine XS.dup X13.here hx rfl (hb hby at_28) rfl rfl ?_
    show Steps p.tables e below (T13.setTop (mkF m 29 #[.val (.int p0), .val (.int p1), .val (.int p2), .val (.int p3), .unset, .unset, .unset, .unset, .unset, .unset, .unset, .unset, .unset] [(.ref b1), (.ref b1)])) _
    refine XS.bipush X13.here hx rfl (hb hby at_29) ?_
    show Steps p.tables e below (T13.setTop (mkF m 31 #[.val (.int p0), .val (.int p1), .val (.int p2), .val (.int p3), .unset, .unset, .unset, .unset, .unset, .unset, .unset, .unset, .unset] [(.int (6 : Int32)), (.ref b1), (.ref b1)])) _
    refine XS.iconst X13.here hx rfl (hb hby at_31) ?_
    show Steps p.tables e below (T13.setTop (mkF m 32 #[.val (.int p0), .val (.int p1), .val (.int p2), .val (.int p3), .unset, .unset, .unset, .unset, .unset, .unset, .unset, .unset, .unset] [(.int (0 : Int32)), (.int (6 : Int32)), (.ref b1), (.ref b1)])) _
    refine st15 _ ?_
    show Steps p.tables e below (T15.setTop (mkF m 33 #[.val (.int p0), .val (.int p1), .val (.int p2), .val (.int p3), .unset, .unset, .unset, .unset, .unset, .unset, .unset, .unset, .unset] [(.ref b1)])) _
    refine XS.dup X15.here hx rfl (hb hby at_33) rfl rfl ?_
    show Steps p.tables e below (T15.setTop (mkF m 34 #[.val (.int p0), .val (.int p1), .val (.int p2), .val (.int p3), .unset, .unset, .unset, .unset, .unset, .unset, .unset, .unset, .unset] [(.ref b1), (.ref b1)])) _
    refine XS.bipush X15.here hx rfl (hb hby at_34) ?_
    show Steps p.tables e below (T15.setTop (mkF m 36 #[.val (.int p0), .val (.int p1), .val (.int p2), .val (.int p3), .unset, .unset, .unset, .unset, .unset, .unset, .unset, .unset, .unset] [(.int (7 : Int32)), (.ref b1), (.ref b1)])) _
    refine XS.iconst X15.here hx rfl (hb hby at_36) ?_
    show Steps p.tables e below (T15.setTop (mkF m 37 #[.val (.int p0), .val (.int p1), .val (.int p2), .val (.int p3), .unset, .unset, .unset, .unset, .unset, .unset, .unset, .unset, .unset] [(.int (0 : Int32)), (.int (7 : Int32)), (.ref b1), (.ref b1)])) _
    refine st17 _ ?_
    show Steps p.tables e below (T17.setTop (mkF m 38 #[.val (.int p0), .val (.int p1), .val (.int p2), .val (.int p3), .unset, .unset, .unset, .unset, .unset, .unset, .unset, .unset, .unset] [(.ref b1)])) _
    refine XS.dup X17.here hx rfl (hb hby at_38) rfl rfl ?_
    show Steps p.tables e below (T17.setTop (mkF m 39 #[.val (.int p0), .val (.int p1), .val (.int p2), .val (.int p3), .unset, .unset, .unset, .unset, .unset, .unset, .unset, .unset, .unset] [(.ref b1), (.ref b1)])) _
    refine XS.bipush X17.here hx rfl (hb hby at_39) ?_
    show Steps p.tables e below (T17.setTop (mkF m 41 #[.val (.int p0), .val (.int p1), .val (.int p2), .val (.int p3), .unset, .unset, .unset, .unset, .unset, .unset, .unset, .unset, .unset] [(.int (8 : Int32)), (.ref b1), (.ref b1)])) _
    refine XS.iconst X17.here hx rfl (hb hby at_41) ?_
    show Steps p.tables e below (T17.setTop (mkF m 42 #[.val (.int p0), .val (.int p1), .val (.int p2), .val (.int p3), .unset, .unset, .unset, .unset, .unset, .unset, .unset, .unset, .unset] [(.int (0 : Int32)), (.int (8 : Int32)), (.ref b1), (.ref b1)])) _
    refine st19 _ ?_
    show Steps p.tables e below (T19.setTop (mkF m 43 #[.val (.int p0), .val (.int p1), .val (.int p2), .val (.int p3), .unset, .unset, .unset, .unset, .unset, .unset, .unset, .unset, .unset] [(.ref b1)])) _
    refine XS.dup X19.here hx rfl (hb hby at_43) rfl rfl ?_
    show Steps p.tables e below (T19.setTop (mkF m 44 #[.val (.int p0), .val (.int p1), .val (.int p2), .val (.int p3), .unset, .unset, .unset, .unset, .unset, .unset, .unset, .unset, .unset] [(.ref b1), (.ref b1)])) _
    refine XS.bipush X19.here hx rfl (hb hby at_44) ?_
    show Steps p.tables e below (T19.setTop (mkF m 46 #[.val (.int p0), .val (.int p1), .val (.int p2), .val (.int p3), .unset, .unset, .unset, .unset, .unset, .unset, .unset, .unset, .unset] [(.int (9 : Int32)), (.ref b1), (.ref b1)])) _
    refine XS.iconst X19.here hx rfl (hb hby at_46) ?_
    show Steps p.tables e below (T19.setTop (mkF m 47 #[.val (.int p0), .val (.int p1), .val (.int p2), .val (.int p3), .unset, .unset, .unset, .unset, .unset, .unset, .unset, .unset, .unset] [(.int (0 : Int32)), (.int (9 : Int32)), (.ref b1), (.ref b1)])) _
    refine st21 _ ?_
    show Steps p.tables e below (T21.setTop (mkF m 48 #[.val (.int p0), .val (.int p1), .val (.int p2), .val (.int p3), .unset, .unset, .unset, .unset, .unset, .unset, .unset, .unset, .unset] [(.ref b1)])) _
    refine XS.dup X21.here hx rfl (hb hby at_48) rfl rfl ?_
    show Steps p.tables e below (T21.setTop (mkF m 49 #[.val (.int p0), .val (.int p1), .val (.int p2), .val (.int p3), .unset, .unset, .unset, .unset, .unset, .unset, .unset, .unset, .unset] [(.ref b1), (.ref b1)])) _
    refine XS.bipush X21.here hx rfl (hb hby at_49) ?_
    show Steps p.tables e below (T21.setTop (mkF m 51 #[.val (.int p0), .val (.int p1), .val (.int p2), .val (.int p3), .unset, .unset, .unset, .unset, .unset, .unset, .unset, .unset, .unset] [(.int (10 : Int32)), (.ref b1), (.ref b1)])) _
    refine XS.iconst X21.here hx rfl (hb hby at_51) ?_
    show Steps p.tables e below (T21.setTop (mkF m 52 #[.val (.int p0), .val (.int p1), .val (.int p2), .val (.int p3), .unset, .unset, .unset, .unset, .unset, .unset, .unset, .unset, .unset] [(.int (0 : Int32)), (.int (10 : Int32)), (.ref b1), (.ref b1)])) _
    refine st23 _ ?_
    show Steps p.tables e below (T23.setTop (mkF m 53 #[.val (.int p0), .val (.int p1), .val (.int p2), .val (.int p3), .unset, .unset, .unset, .unset, .unset, .unset, .unset, .unset, .unset] [(.ref b1)])) _
    refine XS.dup X23.here hx rfl (hb hby at_53) rfl rfl ?_
    show Steps p.tables e below (T23.setTop (mkF m 54 #[.val (.int p0), .val (.int p1), .val (.int p2), .val (.int p3), .unset, .unset, .unset, .unset, .unset, .unset, .unset, .unset, .unset] [(.ref b1), (.ref b1)])) _
    refine XS.bipush X23.here hx rfl (hb hby at_54) ?_
    show Steps p.tables e below (T23.setTop (mkF m 56 #[.val (.int p0), .val (.int p1), .val (.int p2), .val (.int p3), .unset, .unset, .unset, .unset, .unset, .unset, .unset, .unset, .unset] [(.int (11 : Int32)), (.ref b1), (.ref b1)])) _
    refine XS.iconst X23.here hx rfl (hb hby at_56) ?_
    show Steps p.tables e below (T23.setTop (mkF m 57 #[.val (.int p0), .val (.int p1), .val (.int p2), .val (.int p3), .unset, .unset, .unset, .unset, .unset, .unset, .unset, .unset, .unset] [(.int (0 : Int32)), (.int (11 : Int32)), (.ref b1), (.ref b1)])) _
    refine st25 _ ?_
    show Steps p.tables e below (T25.setTop (mkF m 58 #[.val (.int p0), .val (.int p1), .val (.int p2), .val (.int p3), .unset, .unset, .unset, .unset, .unset, .unset, .unset, .unset, .unset] [(.ref b1)])) _
    refine XS.dup X25.here hx rfl (hb hby at_58) rfl rfl ?_
    show Steps p.tables e below (T25.setTop (mkF m 59 #[.val (.int p0), .val (.int p1), .val (.int p2), .val (.int p3), .unset, .unset, .unset, .unset, .unset, .unset, .unset, .unset, .unset] [(.ref b1), (.ref b1)])) _
    refine XS.bipush X25.here hx rfl (hb hby at_59) ?_
    show Steps p.tables e below (T25.setTop (mkF m 61 #[.val (.int p0), .val (.int p1), .val (.int p2), .val (.int p3), .unset, .unset, .unset, .unset, .unset, .unset, .unset, .unset, .unset] [(.int (12 : Int32)), (.ref b1), (.ref b1)])) _
    refine XS.iconst X25.here hx rfl (hb hby at_61) ?_
    show Steps p.tables e below (T25.setTop (mkF m 62 #[.val (.int p0), .val (.int p1), .val (.int p2), .val (.int p3), .unset, .unset, .unset, .unset, .unset, .unset, .unset, .unset, .unset] [(.int (0 : Int32)), (.int (12 : Int32)), (.ref b1), (.ref b1)])) _
    refine st27 _ ?_
    show Steps p.tables e below (T27.setTop (mkF m 63 #[.val (.int p0), .val (.int p1), .val (.int p2), .val (.int p3), .unset, .unset, .unset, .unset, .unset, .unset, .unset, .unset, .unset] [(.ref b1)])) _
    refine XS.dup X27.here hx rfl (hb hby at_63) rfl rfl ?_
    show Steps p.tables e below (T27.setTop (mkF m 64 #[.val (.int p0), .val (.int p1), .val (.int p2), .val (.int p3), .unset, .unset, .unset, .unset, .unset, .unset, .unset, .unset, .unset] [(.ref b1), (.ref b1)])) _
    refine XS.bipush X27.here hx rfl (hb hby at_64) ?_
    show Steps p.tables e below (T27.setTop (mkF m 66 #[.val (.int p0), .val (.int p1), .val (.int p2), .val (.int p3), .unset, .unset, .unset, .unset, .unset, .unset, .unset, .unset, .unset] [(.int (13 : Int32)), (.ref b1), (.ref b1)])) _
    refine XS.iconst X27.here hx rfl (hb hby at_66) ?_
    show Steps p.tables e below (T27.setTop (mkF m 67 #[.val (.int p0), .val (.int p1), .val (.int p2), .val (.int p3), .unset, .unset, .unset, .unset, .unset, .unset, .unset, .unset, .unset] [(.int (0 : Int32)), (.int (13 : Int32)), (.ref b1), (.ref b1)])) _
    refine st29 _ ?_
    show Steps p.tables e below (T29.setTop (mkF m 68 #[.val (.int p0), .val (.int p1), .val (.int p2), .val (.int p3), .unset, .unset, .unset, .unset, .unset, .unset, .unset, .unset, .unset] [(.ref b1)])) _
    refine XS.dup X29.here hx rfl (hb hby at_68) rfl rfl ?_
    show Steps p.tables e below (T29.setTop (mkF m 69 #[.val (.int p0), .val (.int p1), .val (.int p2), .val (.int p3), .unset, .unset, .unset, .unset, .unset, .unset, .unset, .unset, .unset] [(.ref b1), (.ref b1)])) _
    refine XS.bipush X29.here hx rfl (hb hby at_69) ?_
    show Steps p.tables e below (T29.setTop (mkF m 71 #[.val (.int p0), .val (.int p1), .val (.int p2), .val (.int p3), .unset, .unset, .unset, .unset, .unset, .unset, .unset, .unset, .unset] [(.int (14 : Int32)), (.ref b1), (.ref b1)])) _
    refine XS.iconst X29.here hx rfl (hb hby at_71) ?_
    show Steps p.tables e below (T29.setTop (mkF m 72 #[.val (.int p0), .val (.int p1), .val (.int p2), .val (.int p3), .unset, .unset, .unset, .unset, .unset, .unset, .unset, .unset, .unset] [(.int (0 : Int32)), (.int (14 : Int32)), (.ref b1), (.ref b1)])) _
    refine st31 _ ?_
    show Steps p.tables e below (T31.setTop (mkF m 73 #[.val (.int p0), .val (.int p1), .val (.int p2), .val (.int p3), .unset, .unset, .unset, .unset, .unset, .unset, .unset, .unset, .unset] [(.ref b1)])) _
    refine XS.astore X31.here hx rfl (hb hby at_73) rfl rfl (l' := #[.val (.int p0), .val (.int p1), .val (.int p2), .val (.int p3), .val (.ref b1), .unset, .unset, .unset, .unset, .unset, .unset, .unset, .unset]) rfl ?_
    show Steps p.tables e below (T31.setTop (mkF m 75 #[.val (.int p0), .val (.int p1), .val (.int p2), .val (.int p3), .val (.ref b1), .unset, .unset, .unset, .unset, .unset, .unset, .unset, .unset] [])) _
    refine XS.bipush X31.here hx rfl (hb hby at_75) ?_
    show Steps p.tables e below (T31.setTop (mkF m 77 #[.val (.int p0), .val (.int p1), .val (.int p2), .val (.int p3), .val (.ref b1), .unset, .unset, .unset, .unset, .unset, .unset, .unset, .unset] [(.int (15 : Int32))])) _
    refine st32 _ ?_
    show Steps p.tables e below (T32.setTop (mkF m 79 #[.val (.int p0), .val (.int p1), .val (.int p2), .val (.int p3), .val (.ref b1), .unset, .unset, .unset, .unset, .unset, .unset, .unset, .unset] [(.ref b32)])) _
    refine XS.dup X32.here hx rfl (hb hby at_79) rfl rfl ?_
    show Steps p.tables e below (T32.setTop (mkF m 80 #[.val (.int p0), .val (.int p1), .val (.int p2), .val (.int p3), .val (.ref b1), .unset, .unset, .unset, .unset, .unset, .unset, .unset, .unset] [(.ref b32), (.ref b32)])) _
    refine XS.iconst X32.here hx rfl (hb hby at_80) ?_
    show Steps p.tables e below (T32.setTop (mkF m 81 #[.val (.int p0), .val (.int p1), .val (.int p2), .val (.int p3), .val (.ref b1), .unset, .unset, .unset, .unset, .unset, .unset, .unset, .unset] [(.int (0 : Int32)), (.ref b32), (.ref b32)])) _
    refine XS.bipush X32.here hx rfl (hb hby at_81) ?_
    show Steps p.tables e below (T32.setTop (mkF m 83 #[.val (.int p0), .val (.int p1), .val (.int p2), .val (.int p3), .val (.ref b1), .unset, .unset, .unset, .unset, .unset, .unset, .unset, .unset] [(.int (7 : Int32)), (.int (0 : Int32)), (.ref b32), (.ref b32)])) _
    refine st34 _ ?_
    show Steps p.tables e below (T34.setTop (mkF m 84 #[.val (.int p0), .val (.int p1), .val (.int p2), .val (.int p3), .val (.ref b1), .unset, .unset, .unset, .unset, .unset, .unset, .unset, .unset] [(.ref b32)])) _
    refine XS.dup X34.here hx rfl (hb hby at_84) rfl rfl ?_
    show Steps p.tables e below (T34.setTop (mkF m 85 #[.val (.int p0), .val (.int p1), .val (.int p2), .val (.int p3), .val (.ref b1), .unset, .unset, .unset, .unset, .unset, .unset, .unset, .unset] [(.ref b32), (.ref b32)])) _
    refine XS.iconst X34.here hx rfl (hb hby at_85) ?_
    show Steps p.tables e below (T34.setTop (mkF m 86 #[.val (.int p0), .val (.int p1), .val (.int p2), .val (.int p3), .val (.ref b1), .unset, .unset, .unset, .unset, .unset, .unset, .unset, .unset] [(.int (1 : Int32)), (.ref b32), (.ref b32)])) _
    refine XS.bipush X34.here hx rfl (hb hby at_86) ?_
    show Steps p.tables e below (T34.setTop (mkF m 88 #[.val (.int p0), .val (.int p1), .val (.int p2), .val (.int p3), .val (.ref b1), .unset, .unset, .unset, .unset, .unset, .unset, .unset, .unset] [(.int (11 : Int32)), (.int (1 : Int32)), (.ref b32), (.ref b32)])) _
    refine st36 _ ?_
    show Steps p.tables e below (T36.setTop (mkF m 89 #[.val (.int p0), .val (.int p1), .val (.int p2), .val (.int p3), .val (.ref b1), .unset, .unset, .unset, .unset, .unset, .unset, .unset, .unset] [(.ref b32)])) _
    refine XS.dup X36.here hx rfl (hb hby at_89) rfl rfl ?_
    show Steps p.tables e below (T36.setTop (mkF m 90 #[.val (.int p0), .val (.int p1), .val (.int p2), .val (.int p3), .val (.ref b1), .unset, .unset, .unset, .unset, .unset, .unset, .unset, .unset] [(.ref b32), (.ref b32)])) _
    refine XS.iconst X36.here hx rfl (hb hby at_90) ?_
    show Steps p.tables e below (T36.setTop (mkF m 91 #[.val (.int p0), .val (.int p1), .val (.int p2), .val (.int p3), .val (.ref b1), .unset, .unset, .unset, .unset, .unset, .unset, .unset, .unset] [(.int (2 : Int32)), (.ref b32), (.ref b32)])) _
    refine XS.iconst X36.here hx rfl (hb hby at_91) ?_
    show Steps p.tables e below (T36.setTop (mkF m 92 #[.val (.int p0), .val (.int p1), .val (.int p2), .val (.int p3), .val (.ref b1), .unset, .unset, .unset, .unset, .unset, .unset, .unset, .unset] [(.int (2 : Int32)), (.int (2 : Int32)), (.ref b32), (.ref b32)])) _
    refine st38 _ ?_
    show Steps p.tables e below (T38.setTop (mkF m 93 #[.val (.int p0), .val (.int p1), .val (.int p2), .val (.int p3), .val (.ref b1), .unset, .unset, .unset, .unset, .unset, .unset, .unset, .unset] [(.ref b32)])) _
    refine XS.dup X38.here hx rfl (hb hby at_93) rfl rfl ?_
    show Steps p.tables e below (T38.setTop (mkF m 94 #[.val (.int p0), .val (.int p1), .val (.int p2), .val (.int p3), .val (.ref b1), .unset, .unset, .unset, .unset, .unset, .unset, .unset, .unset] [(.ref b32), (.ref b32)])) _
    refine XS.iconst X38.here hx rfl (hb hby at_94) ?_
    show Steps p.tables e below (T38.setTop (mkF m 95 #[.val (.int p0), .val (.int p1), .val (.int p2), .val (.int p3), .val (.ref b1), .unset, .unset, .unset, .unset, .unset, .unset, .unset, .unset] [(.int (3 : Int32)), (.ref b32), (.ref b32)])) _
    refine XS.iconst X38.here hx rfl (hb hby at_95) ?_
    show Steps p.tables e below (T38.setTop (mkF m 96 #[.val (.int p0), .val (.int p1), .val (.int p2), .val (.int p3), .val (.ref b1), .unset, .unset, .unset, .unset, .unset, .unset, .unset, .unset] [(.int (4 : Int32)), (.int (3 : Int32)), (.ref b32), (.ref b32)])) _
    refine st40 _ ?_
    show Steps p.tables e below (T40.setTop (mkF m 97 #[.val (.int p0), .val (.int p1), .val (.int p2), .val (.int p3), .val (.ref b1), .unset, .unset, .unset, .unset, .unset, .unset, .unset, .unset] [(.ref b32)])) _
    refine XS.dup X40.here hx rfl (hb hby at_97) rfl rfl ?_
    show Steps p.tables e below (T40.setTop (mkF m 98 #[.val (.int p0), .val (.int p1), .val (.int p2), .val (.int p3), .val (.ref b1), .unset, .unset, .unset, .unset, .unset, .unset, .unset, .unset] [(.ref b32), (.ref b32)])) _
    refine XS.iconst X40.here hx rfl (hb hby at_98) ?_
    show Steps p.tables e below (T40.setTop (mkF m 99 #[.val (.int p0), .val (.int p1), .val (.int p2), .val (.int p3), .val (.ref b1), .unset, .unset, .unset, .unset, .unset, .unset, .unset, .unset] [(.int (4 : Int32)), (.ref b32), (.ref b32)])) _
    refine XS.bipush X40.here hx rfl (hb hby at_99) ?_
    show Steps p.tables e below (T40.setTop (mkF m 101 #[.val (.int p0), .val (.int p1), .val (.int p2), .val (.int p3), .val (.ref b1), .unset, .unset, .unset, .unset, .unset, .unset, .unset, .unset] [(.int (7 : Int32)), (.int (4 : Int32)), (.ref b32), (.ref b32)])) _
    refine st42 _ ?_
    show Steps p.tables e below (T42.setTop (mkF m 102 #[.val (.int p0), .val (.int p1), .val (.int p2), .val (.int p3), .val (.ref b1), .unset, .unset, .unset, .unset, .unset, .unset, .unset, .unset] [(.ref b32)])) _
    refine XS.dup X42.here hx rfl (hb hby at_102) rfl rfl ?_
    show Steps p.tables e below (T42.setTop (mkF m 103 #[.val (.int p0), .val (.int p1), .val (.int p2), .val (.int p3), .val (.ref b1), .unset, .unset, .unset, .unset, .unset, .unset, .unset, .unset] [(.ref b32), (.ref b32)])) _
    refine XS.iconst X42.here hx rfl (hb hby at_103) ?_
    show Steps p.tables e below (T42.setTop (mkF m 104 #[.val (.int p0), .val (.int p1), .val (.int p2), .val (.int p3), .val (.ref b1), .unset, .unset, .unset, .unset, .unset, .unset, .unset, .unset] [(.int (5 : Int32)), (.ref b32), (.ref b32)])) _
    refine XS.iconst X42.here hx rfl (hb hby at_104) ?_
    show Steps p.tables e below (T42.setTop (mkF m 105 #[.val (.int p0), .val (.int p1), .val (.int p2), .val (.int p3), .val (.ref b1), .unset, .unset, .unset, .unset, .unset, .unset, .unset, .unset] [(.int (5 : Int32)), (.int (5 : Int32)), (.ref b32), (.ref b32)])) _
    refine st44 _ ?_
    show Steps p.tables e below (T44.setTop (mkF m 106 #[.val (.int p0), .val (.int p1), .val (.int p2), .val (.int p3), .val (.ref b1), .unset, .unset, .unset, .unset, .unset, .unset, .unset, .unset] [(.ref b32)])) _
    refine XS.dup X44.here hx rfl (hb hby at_106) rfl rfl ?_
    show Steps p.tables e below (T44.setTop (mkF m 107 #[.val (.int p0), .val (.int p1), .val (.int p2), .val (.int p3), .val (.ref b1), .unset, .unset, .unset, .unset, .unset, .unset, .unset, .unset] [(.ref b32), (.ref b32)])) _
    refine XS.bipush X44.here hx rfl (hb hby at_107) ?_
    show Steps p.tables e below (T44.setTop (mkF m 109 #[.val (.int p0), .val (.int p1), .val (.int p2), .val (.int p3), .val (.ref b1), .unset, .unset, .unset, .unset, .unset, .unset, .unset, .unset] [(.int (6 : Int32)), (.ref b32), (.ref b32)])) _
    refine XS.iconst X44.here hx rfl (hb hby at_109) ?_
    show Steps p.tables e below (T44.setTop (mkF m 110 #[.val (.int p0), .val (.int p1), .val (.int p2), .val (.int p3), .val (.ref b1), .unset, .unset, .unset, .unset, .unset, .unset, .unset, .unset] [(.int (2 : Int32)), (.int (6 : Int32)), (.ref b32), (.ref b32)])) _
    refine st46 _ ?_
    show Steps p.tables e below (T46.setTop (mkF m 111 #[.val (.int p0), .val (.int p1), .val (.int p2), .val (.int p3), .val (.ref b1), .unset, .unset, .unset, .unset, .unset, .unset, .unset, .unset] [(.ref b32)])) _
    refine XS.dup X46.here hx rfl (hb hby at_111) rfl rfl ?_
    show Steps p.tables e below (T46.setTop (mkF m 112 #[.val (.int p0), .val (.int p1), .val (.int p2), .val (.int p3), .val (.ref b1), .unset, .unset, .unset, .unset, .unset, .unset, .unset, .unset] [(.ref b32), (.ref b32)])) _
    refine XS.bipush X46.here hx rfl (hb hby at_112) ?_
    show Steps p.tables e below (T46.setTop (mkF m 114 #[.val (.int p0), .val (.int p1), .val (.int p2), .val (.int p3), .val (.ref b1), .unset, .unset, .unset, .unset, .unset, .unset, .unset, .unset] [(.int (7 : Int32)), (.ref b32), (.ref b32)])) _
    refine XS.iconst X46.here hx rfl (hb hby at_114) ?_
    show Steps p.tables e below (T46.setTop (mkF m 115 #[.val (.int p0), .val (.int p1), .val (.int p2), .val (.int p3), .val (.ref b1), .unset, .unset, .unset, .unset, .unset, .unset, .unset, .unset] [(.int (5 : Int32)), (.int (7 : Int32)), (.ref b32), (.ref b32)])) _
    refine st48 _ ?_
    show Steps p.tables e below (T48.setTop (mkF m 116 #[.val (.int p0), .val (.int p1), .val (.int p2), .val (.int p3), .val (.ref b1), .unset, .unset, .unset, .unset, .unset, .unset, .unset, .unset] [(.ref b32)])) _
    refine XS.dup X48.here hx rfl (hb hby at_116) rfl rfl ?_
    show Steps p.tables e below (T48.setTop (mkF m 117 #[.val (.int p0), .val (.int p1), .val (.int p2), .val (.int p3), .val (.ref b1), .unset, .unset, .unset, .unset, .unset, .unset, .unset, .unset] [(.ref b32), (.ref b32)])) _
    refine XS.bipush X48.here hx rfl (hb hby at_117) ?_
    show Steps p.tables e below (T48.setTop (mkF m 119 #[.val (.int p0), .val (.int p1), .val (.int p2), .val (.int p3), .val (.ref b1), .unset, .unset, .unset, .unset, .unset, .unset, .unset, .unset] [(.int (8 : Int32)), (.ref b32), (.ref b32)])) _
    refine XS.iconst X48.here hx rfl (hb hby at_119) ?_
    show Steps p.tables e below (T48.setTop (mkF m 120 #[.val (.int p0), .val (.int p1), .val (.int p2), .val (.int p3), .val (.ref b1), .unset, .unset, .unset, .unset, .unset, .unset, .unset, .unset] [(.int (3 : Int32)), (.int (8 : Int32)), (.ref b32), (.ref b32)])) _
    refine st50 _ ?_
    show Steps p.tables e below (T50.setTop (mkF m 121 #[.val (.int p0), .val (.int p1), .val (.int p2), .val (.int p3), .val (.ref b1), .unset, .unset, .unset, .unset, .unset, .unset, .unset, .unset] [(.ref b32)])) _
    refine XS.dup X50.here hx rfl (hb hby at_121) rfl rfl ?_
    show Steps p.tables e below (T50.setTop (mkF m 122 #[.val (.int p0), .val (.int p1), .val (.int p2), .val (.int p3), .val (.ref b1), .unset, .unset, .unset, .unset, .unset, .unset, .unset, .unset] [(.ref b32), (.ref b32)])) _
    refine XS.bipush X50.here hx rfl (hb hby at_122) ?_
    show Steps p.tables e below (T50.setTop (mkF m 124 #[.val (.int p0), .val (.int p1), .val (.int p2), .val (.int p3), .val (.ref b1), .unset, .unset, .unset, .unset, .unset, .unset, .unset, .unset] [(.int (9 : Int32)), (.ref b32), (.ref b32)])) _
    refine XS.iconst X50.here hx rfl (hb hby at_124) ?_
    show Steps p.tables e below (T50.setTop (mkF m 125 #[.val (.int p0), .val (.int p1), .val (.int p2), .val (.int p3), .val (.ref b1), .unset, .unset, .unset, .unset, .unset, .unset, .unset, .unset] [(.int (3 : Int32)), (.int (9 : Int32)), (.ref b32), (.ref b32)])) _
    refine st52 _ ?_
    show Steps p.tables e below (T52.setTop (mkF m 126 #[.val (.int p0), .val (.int p1), .val (.int p2), .val (.int p3), .val (.ref b1), .unset, .unset, .unset, .unset, .unset, .unset, .unset, .unset] [(.ref b32)])) _
    refine XS.dup X52.here hx rfl (hb hby at_126) rfl rfl ?_
    show Steps p.tables e below (T52.setTop (mkF m 127 #[.val (.int p0), .val (.int p1), .val (.int p2), .val (.int p3), .val (.ref b1), .unset, .unset, .unset, .unset, .unset, .unset, .unset, .unset] [(.ref b32), (.ref b32)])) _
    refine XS.bipush X52.here hx rfl (hb hby at_127) ?_
    show Steps p.tables e below (T52.setTop (mkF m 129 #[.val (.int p0), .val (.int p1), .val (.int p2), .val (.int p3), .val (.ref b1), .unset, .unset, .unset, .unset, .unset, .unset, .unset, .unset] [(.int (10 : Int32)), (.ref b32), (.ref b32)])) _
    refine XS.iconst X52.here hx rfl (hb hby at_129) ?_
    show Steps p.tables e below (T52.setTop (mkF m 130 #[.val (.int p0), .val (.int p1), .val (.int p2), .val (.int p3), .val (.ref b1), .unset, .unset, .unset, .unset, .unset, .unset, .unset, .unset] [(.int (3 : Int32)), (.int (10 : Int32)), (.ref b32), (.ref b32)])) _
    refine st54 _ ?_
    show Steps p.tables e below (T54.setTop (mkF m 131 #[.val (.int p0), .val (.int p1), .val (.int p2), .val (.int p3), .val (.ref b1), .unset, .unset, .unset, .unset, .unset, .unset, .unset, .unset] [(.ref b32)])) _
    refine XS.dup X54.here hx rfl (hb hby at_131) rfl rfl ?_
    show Steps p.tables e below (T54.setTop (mkF m 132 #[.val (.int p0), .val (.int p1), .val (.int p2), .val (.int p3), .val (.ref b1), .unset, .unset, .unset, .unset, .unset, .unset, .unset, .unset] [(.ref b32), (.ref b32)])) _
    refine XS.bipush X54.here hx rfl (hb hby at_132) ?_
    show Steps p.tables e below (T54.setTop (mkF m 134 #[.val (.int p0), .val (.int p1), .val (.int p2), .val (.int p3), .val (.ref b1), .unset, .unset, .unset, .unset, .unset, .unset, .unset, .unset] [(.int (11 : Int32)), (.ref b32), (.ref b32)])) _
    refine XS.iconst X54.here hx rfl (hb hby at_134) ?_
    show Steps p.tables e below (T54.setTop (mkF m 135 #[.val (.int p0), .val (.int p1), .val (.int p2), .val (.int p3), .val (.ref b1), .unset, .unset, .unset, .unset, .unset, .unset, .unset, .unset] [(.int (4 : Int32)), (.int (11 : Int32)), (.ref b32), (.ref b32)])) _
    refine st56 _ ?_
    show Steps p.tables e below (T56.setTop (mkF m 136 #[.val (.int p0), .val (.int p1), .val (.int p2), .val (.int p3), .val (.ref b1), .unset, .unset, .unset, .unset, .unset, .unset, .unset, .unset] [(.ref b32)])) _
    refine XS.dup X56.here hx rfl (hb hby at_136) rfl rfl ?_
    show Steps p.tables e below (T56.setTop (mkF m 137 #[.val (.int p0), .val (.int p1), .val (.int p2), .val (.int p3), .val (.ref b1), .unset, .unset, .unset, .unset, .unset, .unset, .unset, .unset] [(.ref b32), (.ref b32)])) _
    refine XS.bipush X56.here hx rfl (hb hby at_137) ?_
    show Steps p.tables e below (T56.setTop (mkF m 139 #[.val (.int p0), .val (.int p1), .val (.int p2), .val (.int p3), .val (.ref b1), .unset, .unset, .unset, .unset, .unset, .unset, .unset, .unset] [(.int (12 : Int32)), (.ref b32), (.ref b32)])) _
    refine XS.iconst X56.here hx rfl (hb hby at_139) ?_
    show Steps p.tables e below (T56.setTop (mkF m 140 #[.val (.int p0), .val (.int p1), .val (.int p2), .val (.int p3), .val (.ref b1), .unset, .unset, .unset, .unset, .unset, .unset, .unset, .unset] [(.int (2 : Int32)), (.int (12 : Int32)), (.ref b32), (.ref b32)])) _
    refine st58 _ ?_
    show Steps p.tables e below (T58.setTop (mkF m 141 #[.val (.int p0), .val (.int p1), .val (.int p2), .val (.int p3), .val (.ref b1), .unset, .unset, .unset, .unset, .unset, .unset, .unset, .unset] [(.ref b32)])) _
    refine XS.dup X58.here hx rfl (hb hby at_141) rfl rfl ?_
    show Steps p.tables e below (T58.setTop (mkF m 142 #[.val (.int p0), .val (.int p1), .val (.int p2), .val (.int p3), .val (.ref b1), .unset, .unset, .unset, .unset, .unset, .unset, .unset, .unset] [(.ref b32), (.ref b32)])) _
    refine XS.bipush X58.here hx rfl (hb hby at_142) ?_
    show Steps p.tables e below (T58.setTop (mkF m 144 #[.val (.int p0), .val (.int p1), .val (.int p2), .val (.int p3), .val (.ref b1), .unset, .unset, .unset, .unset, .unset, .unset, .unset, .unset] [(.int (13 : Int32)), (.ref b32), (.ref b32)])) _
    refine XS.iconst X58.here hx rfl (hb hby at_144) ?_
    show Steps p.tables e below (T58.setTop (mkF m 145 #[.val (.int p0), .val (.int p1), .val (.int p2), .val (.int p3), .val (.ref b1), .unset, .unset, .unset, .unset, .unset, .unset, .unset, .unset] [(.int (3 : Int32)), (.int (13 : Int32)), (.ref b32), (.ref b32)])) _
    refine st60 _ ?_
    show Steps p.tables e below (T60.setTop (mkF m 146 #[.val (.int p0), .val (.int p1), .val (.int p2), .val (.int p3), .val (.ref b1), .unset, .unset, .unset, .unset, .unset, .unset, .unset, .unset] [(.ref b32)])) _
    refine XS.dup X60.here hx rfl (hb hby at_146) rfl rfl ?_
    show Steps p.tables e below (T60.setTop (mkF m 147 #[.val (.int p0), .val (.int p1), .val (.int p2), .val (.int p3), .val (.ref b1), .unset, .unset, .unset, .unset, .unset, .unset, .unset, .unset] [(.ref b32), (.ref b32)])) _
    refine XS.bipush X60.here hx rfl (hb hby at_147) ?_
    show Steps p.tables e below (T60.setTop (mkF m 149 #[.val (.int p0), .val (.int p1), .val (.int p2), .val (.int p3), .val (.ref b1), .unset, .unset, .unset, .unset, .unset, .unset, .unset, .unset] [(.int (14 : Int32)), (.ref b32), (.ref b32)])) _
    refine XS.iconst X60.here hx rfl (hb hby at_149) ?_
    show Steps p.tables e below (T60.setTop (mkF m 150 #[.val (.int p0), .val (.int p1), .val (.int p2), .val (.int p3), .val (.ref b1), .unset, .unset, .unset, .unset, .unset, .unset, .unset, .unset] [(.int (4 : Int32)), (.int (14 : Int32)), (.ref b32), (.ref b32)])) _
    refine st62 _ ?_
    show Steps p.tables e below (T62.setTop (mkF m 151 #[.val (.int p0), .val (.int p1), .val (.int p2), .val (.int p3), .val (.ref b1), .unset, .unset, .unset, .unset, .unset, .unset, .unset, .unset] [(.ref b32)])) _
    refine XS.astore X62.here hx rfl (hb hby at_151) rfl rfl (l' := #[.val (.int p0), .val (.int p1), .val (.int p2), .val (.int p3), .val (.ref b1), .val (.ref b32), .unset, .unset, .unset, .unset, .unset, .unset, .unset]) rfl ?_
    show Steps p.tables e below (T62.setTop (mkF m 153 #[.val (.int p0), .val (.int p1), .val (.int p2), .val (.int p3), .val (.ref b1), .val (.ref b32), .unset, .unset, .unset, .unset, .unset, .unset, .unset] [])) _
    refine XS.iloadN X62.here hx rfl (hb hby at_153) rfl ?_
    show Steps p.tables e below (T62.setTop (mkF m 154 #[.val (.int p0), .val (.int p1), .val (.int p2), .val (.int p3), .val (.ref b1), .val (.ref b32), .unset, .unset, .unset, .unset, .unset, .unset, .unset] [(.int p0)])) _
    refine X62.ldcInt hx hown (mvT hZ (hw _ (List.mem_of_getElem? (i := 1) rfl))) (g := (mkF m 154 #[.val (.int p0), .val (.int p1), .val (.int p2), .val (.int p3), .val (.ref b1), .val (.ref b32), .unset, .unset, .unset, .unset, .unset, .unset, .unset] [(.int p0)])) rfl (hb hby at_154) _ ?_
    show Steps p.tables e below (T62.setTop (mkF m 156 #[.val (.int p0), .val (.int p1), .val (.int p2), .val (.int p3), .val (.ref b1), .val (.ref b32), .unset, .unset, .unset, .unset, .unset, .unset, .unset] [(.int (2147483647 : Int32)), (.int p0)])) _
    refine XS.iand X62.here hx rfl (hb hby at_156) rfl ?_
    show Steps p.tables e below (T62.setTop (mkF m 157 #[.val (.int p0), .val (.int p1), .val (.int p2), .val (.int p3), .val (.ref b1), .val (.ref b32), .unset, .unset, .unset, .unset, .unset, .unset, .unset] [(.int (p0 &&& (2147483647 : Int32)))])) _
    refine XS.bipush X62.here hx rfl (hb hby at_157) ?_
    show Steps p.tables e below (T62.setTop (mkF m 159 #[.val (.int p0), .val (.int p1), .val (.int p2), .val (.int p3), .val (.ref b1), .val (.ref b32), .unset, .unset, .unset, .unset, .unset, .unset, .unset] [(.int (15 : Int32)), (.int (p0 &&& (2147483647 : Int32)))])) _
    refine iremM X62 hx rfl (hb hby at_159) rfl (by decide) ?_
    show Steps p.tables e below (T62.setTop (mkF m 160 #[.val (.int p0), .val (.int p1), .val (.int p2), .val (.int p3), .val (.ref b1), .val (.ref b32), .unset, .unset, .unset, .unset, .unset, .unset, .unset] [(.int ((p0 &&& (2147483647 : Int32)) % (15 : Int32)))])) _
    refine XS.istore X62.here hx rfl (hb hby at_160) rfl (l' := #[.val (.int p0), .val (.int p1), .val (.int p2), .val (.int p3), .val (.ref b1), .val (.ref b32), .val (.int ((p0 &&& (2147483647 : Int32)) % (15 : Int32))), .unset, .unset, .unset, .unset, .unset, .unset]) rfl ?_
    show Steps p.tables e below (T62.setTop (mkF m 162 #[.val (.int p0), .val (.int p1), .val (.int p2), .val (.int p3), .val (.ref b1), .val (.ref b32), .val (.int ((p0 &&& (2147483647 : Int32)) % (15 : Int32))), .unset, .unset, .unset, .unset, .unset, .unset] [])) _
    refine XS.iload X62.here hx rfl (hb hby at_162) rfl ?_
    show Steps p.tables e below (T62.setTop (mkF m 164 #[.val (.int p0), .val (.int p1), .val (.int p2), .val (.int p3), .val (.ref b1), .val (.ref b32), .val (.int ((p0 &&& (2147483647 : Int32)) % (15 : Int32))), .unset, .unset, .unset, .unset, .unset, .unset] [(.int ((p0 &&& (2147483647 : Int32)) % (15 : Int32)))])) _
    refine st63 _ ?_
    show Steps p.tables e below (T63.setTop (mkF m 167 #[.val (.int p0), .val (.int p1), .val (.int p2), .val (.int p3), .val (.ref b1), .val (.ref b32), .val (.int ((p0 &&& (2147483647 : Int32)) % (15 : Int32))), .unset, .unset, .unset, .unset, .unset, .unset] [(.ref (f1 ((p0 &&& (2147483647 : Int32)) % (15 : Int32)) w_PRODUCE w_FETCH w_LIST_OFFSETS w_METADATA w_OFFSET_COMMIT w_OFFSET_FETCH w_FIND_COORDINATOR w_JOIN_GROUP w_HEARTBEAT w_LEAVE_GROUP w_SYNC_GROUP w_DESCRIBE_GROUPS w_LIST_GROUPS w_API_VERSIONS w_CREATE_TOPICS))])) _
    refine XS.astore X63.here hx rfl (hb hby at_167) rfl rfl (l' := #[.val (.int p0), .val (.int p1), .val (.int p2), .val (.int p3), .val (.ref b1), .val (.ref b32), .val (.int ((p0 &&& (2147483647 : Int32)) % (15 : Int32))), .val (.ref (f1 ((p0 &&& (2147483647 : Int32)) % (15 : Int32)) w_PRODUCE w_FETCH w_LIST_OFFSETS w_METADATA w_OFFSET_COMMIT w_OFFSET_FETCH w_FIND_COORDINATOR w_JOIN_GROUP w_HEARTBEAT w_LEAVE_GROUP w_SYNC_GROUP w_DESCRIBE_GROUPS w_LIST_GROUPS w_API_VERSIONS w_CREATE_TOPICS)), .unset, .unset, .unset, .unset, .unset]) rfl ?_
    show Steps p.tables e below (T63.setTop (mkF m 169 #[.val (.int p0), .val (.int p1), .val (.int p2), .val (.int p3), .val (.ref b1), .val (.ref b32), .val (.int ((p0 &&& (2147483647 : Int32)) % (15 : Int32))), .val (.ref (f1 ((p0 &&& (2147483647 : Int32)) % (15 : Int32)) w_PRODUCE w_FETCH w_LIST_OFFSETS w_METADATA w_OFFSET_COMMIT w_OFFSET_FETCH w_FIND_COORDINATOR w_JOIN_GROUP w_HEARTBEAT w_LEAVE_GROUP w_SYNC_GROUP w_DESCRIBE_GROUPS w_LIST_GROUPS w_API_VERSIONS w_CREATE_TOPICS)), .unset, .unset, .unset, .unset, .unset] [])) _
    refine XS.aload X63.here hx rfl (hb hby at_169) rfl rfl ?_
    show Steps p.tables e below (T63.setTop (mkF m 171 #[.val (.int p0), .val (.int p1), .val (.int p2), .val (.int p3), .val (.ref b1), .val (.ref b32), .val (.int ((p0 &&& (2147483647 : Int32)) % (15 : Int32))), .val (.ref (f1 ((p0 &&& (2147483647 : Int32)) % (15 : Int32)) w_PRODUCE w_FETCH w_LIST_OFFSETS w_METADATA w_OFFSET_COMMIT w_OFFSET_FETCH w_FIND_COORDINATOR w_JOIN_GROUP w_HEARTBEAT w_LEAVE_GROUP w_SYNC_GROUP w_DESCRIBE_GROUPS w_LIST_GROUPS w_API_VERSIONS w_CREATE_TOPICS)), .unset, .unset, .unset, .unset, .unset] [(.ref b1)])) _
    refine XS.iload X63.here hx rfl (hb hby at_171) rfl ?_
    show Steps p.tables e below (T63.setTop (mkF m 173 #[.val (.int p0), .val (.int p1), .val (.int p2), .val (.int p3), .val (.ref b1), .val (.ref b32), .val (.int ((p0 &&& (2147483647 : Int32)) % (15 : Int32))), .val (.ref (f1 ((p0 &&& (2147483647 : Int32)) % (15 : Int32)) w_PRODUCE w_FETCH w_LIST_OFFSETS w_METADATA w_OFFSET_COMMIT w_OFFSET_FETCH w_FIND_COORDINATOR w_JOIN_GROUP w_HEARTBEAT w_LEAVE_GROUP w_SYNC_GROUP w_DESCRIBE_GROUPS w_LIST_GROUPS w_API_VERSIONS w_CREATE_TOPICS)), .unset, .unset, .unset, .unset, .unset] [(.int ((p0 &&& (2147483647 : Int32)) % (15 : Int32))), (.ref b1)])) _
    refine X63.iaload hx (j := ((p0 &&& (2147483647 : Int32)) % (15 : Int32))) (v := (.int (own_min ((p0 &&& (2147483647 : Int32)) % (15 : Int32))))) (by rw [e63]; exact Ar64.1) (State.isArrayOf_alike hZ.alike Ar64.2.1) Ar64.2.2 hin64 hat64 (g := (mkF m 173 #[.val (.int p0), .val (.int p1), .val (.int p2), .val (.int p3), .val (.ref b1), .val (.ref b32), .val (.int ((p0 &&& (2147483647 : Int32)) % (15 : Int32))), .val (.ref (f1 ((p0 &&& (2147483647 : Int32)) % (15 : Int32)) w_PRODUCE w_FETCH w_LIST_OFFSETS w_METADATA w_OFFSET_COMMIT w_OFFSET_FETCH w_FIND_COORDINATOR w_JOIN_GROUP w_HEARTBEAT w_LEAVE_GROUP w_SYNC_GROUP w_DESCRIBE_GROUPS w_LIST_GROUPS w_API_VERSIONS w_CREATE_TOPICS)), .unset, .unset, .unset, .unset, .unset] [(.int ((p0 &&& (2147483647 : Int32)) % (15 : Int32))), (.ref b1)])) rfl rfl (hb hby at_173) _ ?_
    show Steps p.tables e below (T63.setTop (mkF m 174 #[.val (.int p0), .val (.int p1), .val (.int p2), .val (.int p3), .val (.ref b1), .val (.ref b32), .val (.int ((p0 &&& (2147483647 : Int32)) % (15 : Int32))), .val (.ref (f1 ((p0 &&& (2147483647 : Int32)) % (15 : Int32)) w_PRODUCE w_FETCH w_LIST_OFFSETS w_METADATA w_OFFSET_COMMIT w_OFFSET_FETCH w_FIND_COORDINATOR w_JOIN_GROUP w_HEARTBEAT w_LEAVE_GROUP w_SYNC_GROUP w_DESCRIBE_GROUPS w_LIST_GROUPS w_API_VERSIONS w_CREATE_TOPICS)), .unset, .unset, .unset, .unset, .unset] [(.int (own_min ((p0 &&& (2147483647 : Int32)) % (15 : Int32))))])) _
    refine XS.istore X63.here hx rfl (hb hby at_174) rfl (l' := #[.val (.int p0), .val (.int p1), .val (.int p2), .val (.int p3), .val (.ref b1), .val (.ref b32), .val (.int ((p0 &&& (2147483647 : Int32)) % (15 : Int32))), .val (.ref (f1 ((p0 &&& (2147483647 : Int32)) % (15 : Int32)) w_PRODUCE w_FETCH w_LIST_OFFSETS w_METADATA w_OFFSET_COMMIT w_OFFSET_FETCH w_FIND_COORDINATOR w_JOIN_GROUP w_HEARTBEAT w_LEAVE_GROUP w_SYNC_GROUP w_DESCRIBE_GROUPS w_LIST_GROUPS w_API_VERSIONS w_CREATE_TOPICS)), .val (.int (own_min ((p0 &&& (2147483647 : Int32)) % (15 : Int32)))), .unset, .unset, .unset, .unset]) rfl ?_
    show Steps p.tables e below (T63.setTop (mkF m 176 #[.val (.int p0), .val (.int p1), .val (.int p2), .val (.int p3), .val (.ref b1), .val (.ref b32), .val (.int ((p0 &&& (2147483647 : Int32)) % (15 : Int32))), .val (.ref (f1 ((p0 &&& (2147483647 : Int32)) % (15 : Int32)) w_PRODUCE w_FETCH w_LIST_OFFSETS w_METADATA w_OFFSET_COMMIT w_OFFSET_FETCH w_FIND_COORDINATOR w_JOIN_GROUP w_HEARTBEAT w_LEAVE_GROUP w_SYNC_GROUP w_DESCRIBE_GROUPS w_LIST_GROUPS w_API_VERSIONS w_CREATE_TOPICS)), .val (.int (own_min ((p0 &&& (2147483647 : Int32)) % (15 : Int32)))), .unset, .unset, .unset, .unset] [])) _
    refine XS.aload X63.here hx rfl (hb hby at_176) rfl rfl ?_
    show Steps p.tables e below (T63.setTop (mkF m 178 #[.val (.int p0), .val (.int p1), .val (.int p2), .val (.int p3), .val (.ref b1), .val (.ref b32), .val (.int ((p0 &&& (2147483647 : Int32)) % (15 : Int32))), .val (.ref (f1 ((p0 &&& (2147483647 : Int32)) % (15 : Int32)) w_PRODUCE w_FETCH w_LIST_OFFSETS w_METADATA w_OFFSET_COMMIT w_OFFSET_FETCH w_FIND_COORDINATOR w_JOIN_GROUP w_HEARTBEAT w_LEAVE_GROUP w_SYNC_GROUP w_DESCRIBE_GROUPS w_LIST_GROUPS w_API_VERSIONS w_CREATE_TOPICS)), .val (.int (own_min ((p0 &&& (2147483647 : Int32)) % (15 : Int32)))), .unset, .unset, .unset, .unset] [(.ref b32)])) _
    refine XS.iload X63.here hx rfl (hb hby at_178) rfl ?_
    show Steps p.tables e below (T63.setTop (mkF m 180 #[.val (.int p0), .val (.int p1), .val (.int p2), .val (.int p3), .val (.ref b1), .val (.ref b32), .val (.int ((p0 &&& (2147483647 : Int32)) % (15 : Int32))), .val (.ref (f1 ((p0 &&& (2147483647 : Int32)) % (15 : Int32)) w_PRODUCE w_FETCH w_LIST_OFFSETS w_METADATA w_OFFSET_COMMIT w_OFFSET_FETCH w_FIND_COORDINATOR w_JOIN_GROUP w_HEARTBEAT w_LEAVE_GROUP w_SYNC_GROUP w_DESCRIBE_GROUPS w_LIST_GROUPS w_API_VERSIONS w_CREATE_TOPICS)), .val (.int (own_min ((p0 &&& (2147483647 : Int32)) % (15 : Int32)))), .unset, .unset, .unset, .unset] [(.int ((p0 &&& (2147483647 : Int32)) % (15 : Int32))), (.ref b32)])) _
    refine X63.iaload hx (j := ((p0 &&& (2147483647 : Int32)) % (15 : Int32))) (v := (.int (own_max ((p0 &&& (2147483647 : Int32)) % (15 : Int32))))) (by rw [e63]; exact Ar65.1) (State.isArrayOf_alike hZ.alike Ar65.2.1) Ar65.2.2 hin65 hat65 (g := (mkF m 180 #[.val (.int p0), .val (.int p1), .val (.int p2), .val (.int p3), .val (.ref b1), .val (.ref b32), .val (.int ((p0 &&& (2147483647 : Int32)) % (15 : Int32))), .val (.ref (f1 ((p0 &&& (2147483647 : Int32)) % (15 : Int32)) w_PRODUCE w_FETCH w_LIST_OFFSETS w_METADATA w_OFFSET_COMMIT w_OFFSET_FETCH w_FIND_COORDINATOR w_JOIN_GROUP w_HEARTBEAT w_LEAVE_GROUP w_SYNC_GROUP w_DESCRIBE_GROUPS w_LIST_GROUPS w_API_VERSIONS w_CREATE_TOPICS)), .val (.int (own_min ((p0 &&& (2147483647 : Int32)) % (15 : Int32)))), .unset, .unset, .unset, .unset] [(.int ((p0 &&& (2147483647 : Int32)) % (15 : Int32))), (.ref b32)])) rfl rfl (hb hby at_180) _ ?_
    show Steps p.tables e below (T63.setTop (mkF m 181 #[.val (.int p0), .val (.int p1), .val (.int p2), .val (.int p3), .val (.ref b1), .val (.ref b32), .val (.int ((p0 &&& (2147483647 : Int32)) % (15 : Int32))), .val (.ref (f1 ((p0 &&& (2147483647 : Int32)) % (15 : Int32)) w_PRODUCE w_FETCH w_LIST_OFFSETS w_METADATA w_OFFSET_COMMIT w_OFFSET_FETCH w_FIND_COORDINATOR w_JOIN_GROUP w_HEARTBEAT w_LEAVE_GROUP w_SYNC_GROUP w_DESCRIBE_GROUPS w_LIST_GROUPS w_API_VERSIONS w_CREATE_TOPICS)), .val (.int (own_min ((p0 &&& (2147483647 : Int32)) % (15 : Int32)))), .unset, .unset, .unset, .unset] [(.int (own_max ((p0 &&& (2147483647 : Int32)) % (15 : Int32))))])) _
    refine XS.istore X63.here hx rfl (hb hby at_181) rfl (l' := #[.val (.int p0), .val (.int p1), .val (.int p2), .val (.int p3), .val (.ref b1), .val (.ref b32), .val (.int ((p0 &&& (2147483647 : Int32)) % (15 : Int32))), .val (.ref (f1 ((p0 &&& (2147483647 : Int32)) % (15 : Int32)) w_PRODUCE w_FETCH w_LIST_OFFSETS w_METADATA w_OFFSET_COMMIT w_OFFSET_FETCH w_FIND_COORDINATOR w_JOIN_GROUP w_HEARTBEAT w_LEAVE_GROUP w_SYNC_GROUP w_DESCRIBE_GROUPS w_LIST_GROUPS w_API_VERSIONS w_CREATE_TOPICS)), .val (.int (own_min ((p0 &&& (2147483647 : Int32)) % (15 : Int32)))), .val (.int (own_max ((p0 &&& (2147483647 : Int32)) % (15 : Int32)))), .unset, .unset, .unset]) rfl ?_
    show Steps p.tables e below (T63.setTop (mkF m 183 #[.val (.int p0), .val (.int p1), .val (.int p2), .val (.int p3), .val (.ref b1), .val (.ref b32), .val (.int ((p0 &&& (2147483647 : Int32)) % (15 : Int32))), .val (.ref (f1 ((p0 &&& (2147483647 : Int32)) % (15 : Int32)) w_PRODUCE w_FETCH w_LIST_OFFSETS w_METADATA w_OFFSET_COMMIT w_OFFSET_FETCH w_FIND_COORDINATOR w_JOIN_GROUP w_HEARTBEAT w_LEAVE_GROUP w_SYNC_GROUP w_DESCRIBE_GROUPS w_LIST_GROUPS w_API_VERSIONS w_CREATE_TOPICS)), .val (.int (own_min ((p0 &&& (2147483647 : Int32)) % (15 : Int32)))), .val (.int (own_max ((p0 &&& (2147483647 : Int32)) % (15 : Int32)))), .unset, .unset, .unset] [])) _
    refine XS.iloadN X63.here hx rfl (hb hby at_183) rfl ?_
    show Steps p.tables e below (T63.setTop (mkF m 184 #[.val (.int p0), .val (.int p1), .val (.int p2), .val (.int p3), .val (.ref b1), .val (.ref b32), .val (.int ((p0 &&& (2147483647 : Int32)) % (15 : Int32))), .val (.ref (f1 ((p0 &&& (2147483647 : Int32)) % (15 : Int32)) w_PRODUCE w_FETCH w_LIST_OFFSETS w_METADATA w_OFFSET_COMMIT w_OFFSET_FETCH w_FIND_COORDINATOR w_JOIN_GROUP w_HEARTBEAT w_LEAVE_GROUP w_SYNC_GROUP w_DESCRIBE_GROUPS w_LIST_GROUPS w_API_VERSIONS w_CREATE_TOPICS)), .val (.int (own_min ((p0 &&& (2147483647 : Int32)) % (15 : Int32)))), .val (.int (own_max ((p0 &&& (2147483647 : Int32)) % (15 : Int32)))), .unset, .unset, .unset] [(.int p1)])) _
    refine XS.iconst X63.here hx rfl (hb hby at_184) ?_
    show Steps p.tables e below (T63.setTop (mkF m 185 #[.val (.int p0), .val (.int p1), .val (.int p2), .val (.int p3), .val (.ref b1), .val (.ref b32), .val (.int ((p0 &&& (2147483647 : Int32)) % (15 : Int32))), .val (.ref (f1 ((p0 &&& (2147483647 : Int32)) % (15 : Int32)) w_PRODUCE w_FETCH w_LIST_OFFSETS w_METADATA w_OFFSET_COMMIT w_OFFSET_FETCH w_FIND_COORDINATOR w_JOIN_GROUP w_HEARTBEAT w_LEAVE_GROUP w_SYNC_GROUP w_DESCRIBE_GROUPS w_LIST_GROUPS w_API_VERSIONS w_CREATE_TOPICS)), .val (.int (own_min ((p0 &&& (2147483647 : Int32)) % (15 : Int32)))), .val (.int (own_max ((p0 &&& (2147483647 : Int32)) % (15 : Int32)))), .unset, .unset, .unset] [(.int (1 : Int32)), (.int p1)])) _
    refine XS.iand X63.here hx rfl (hb hby at_185) rfl ?_
    exact kt
  by_cases hc186_66 : (p1 &&& (1 : Int32)) = (0 : Int32)
  · refine own_back (b := T63.setTop (mkF m 236 #[.val (.int p0), .val (.int p1), .val (.int p2), .val (.int p3), .val (.ref b1), .val (.ref b32), .val (.int ((p0 &&& (2147483647 : Int32)) % (15 : Int32))), .val (.ref (f1 ((p0 &&& (2147483647 : Int32)) % (15 : Int32)) w_PRODUCE w_FETCH w_LIST_OFFSETS w_METADATA w_OFFSET_COMMIT w_OFFSET_FETCH w_FIND_COORDINATOR w_JOIN_GROUP w_HEARTBEAT w_LEAVE_GROUP w_SYNC_GROUP w_DESCRIBE_GROUPS w_LIST_GROUPS w_API_VERSIONS w_CREATE_TOPICS)), .val (.int (own_min ((p0 &&& (2147483647 : Int32)) % (15 : Int32)))), .val (.int (own_max ((p0 &&& (2147483647 : Int32)) % (15 : Int32)))), .val (.int (0 : Int32)), .val (.int (p2.toInt16.toInt32)), .unset] [(.int (own_min ((p0 &&& (2147483647 : Int32)) % (15 : Int32)))), (.int (p2.toInt16.toInt32))])) (fun t kt => ?_) ?_
    · show Steps p.tables e below (T63.setTop (mkF m 186 #[.val (.int p0), .val (.int p1), .val (.int p2), .val (.int p3), .val (.ref b1), .val (.ref b32), .val (.int ((p0 &&& (2147483647 : Int32)) % (15 : Int32))), .val (.ref (f1 ((p0 &&& (2147483647 : Int32)) % (15 : Int32)) w_PRODUCE w_FETCH w_LIST_OFFSETS w_METADATA w_OFFSET_COMMIT w_OFFSET_FETCH w_FIND_COORDINATOR w_JOIN_GROUP w_HEARTBEAT w_LEAVE_GROUP w_SYNC_GROUP w_DESCRIBE_GROUPS w_LIST_GROUPS w_API_VERSIONS w_CREATE_TOPICS)), .val (.int (own_min ((p0 &&& (2147483647 : Int32)) % (15 : Int32)))), .val (.int (own_max ((p0 &&& (2147483647 : Int32)) % (15 : Int32)))), .unset, .unset, .unset] [(.int (p1 &&& (1 : Int32)))])) _
      refine XS.ifYes X63.here hx rfl (pc0 := 186) (pc' := 193) rfl (hb hby at_186) rfl ((if0 _ _).trans (teq hc186_66).1) (by decide) (by decide) ?_
      show Steps p.tables e below (T63.setTop (mkF m 193 #[.val (.int p0), .val (.int p1), .val (.int p2), .val (.int p3), .val (.ref b1), .val (.ref b32), .val (.int ((p0 &&& (2147483647 : Int32)) % (15 : Int32))), .val (.ref (f1 ((p0 &&& (2147483647 : Int32)) % (15 : Int32)) w_PRODUCE w_FETCH w_LIST_OFFSETS w_METADATA w_OFFSET_COMMIT w_OFFSET_FETCH w_FIND_COORDINATOR w_JOIN_GROUP w_HEARTBEAT w_LEAVE_GROUP w_SYNC_GROUP w_DESCRIBE_GROUPS w_LIST_GROUPS w_API_VERSIONS w_CREATE_TOPICS)), .val (.int (own_min ((p0 &&& (2147483647 : Int32)) % (15 : Int32)))), .val (.int (own_max ((p0 &&& (2147483647 : Int32)) % (15 : Int32)))), .unset, .unset, .unset] [])) _
      refine XS.iconst X63.here hx rfl (hb hby at_193) ?_
      show Steps p.tables e below (T63.setTop (mkF m 194 #[.val (.int p0), .val (.int p1), .val (.int p2), .val (.int p3), .val (.ref b1), .val (.ref b32), .val (.int ((p0 &&& (2147483647 : Int32)) % (15 : Int32))), .val (.ref (f1 ((p0 &&& (2147483647 : Int32)) % (15 : Int32)) w_PRODUCE w_FETCH w_LIST_OFFSETS w_METADATA w_OFFSET_COMMIT w_OFFSET_FETCH w_FIND_COORDINATOR w_JOIN_GROUP w_HEARTBEAT w_LEAVE_GROUP w_SYNC_GROUP w_DESCRIBE_GROUPS w_LIST_GROUPS w_API_VERSIONS w_CREATE_TOPICS)), .val (.int (own_min ((p0 &&& (2147483647 : Int32)) % (15 : Int32)))), .val (.int (own_max ((p0 &&& (2147483647 : Int32)) % (15 : Int32)))), .unset, .unset, .unset] [(.int (0 : Int32))])) _
      refine XS.istore X63.here hx rfl (hb hby at_194) rfl (l' := #[.val (.int p0), .val (.int p1), .val (.int p2), .val (.int p3), .val (.ref b1), .val (.ref b32), .val (.int ((p0 &&& (2147483647 : Int32)) % (15 : Int32))), .val (.ref (f1 ((p0 &&& (2147483647 : Int32)) % (15 : Int32)) w_PRODUCE w_FETCH w_LIST_OFFSETS w_METADATA w_OFFSET_COMMIT w_OFFSET_FETCH w_FIND_COORDINATOR w_JOIN_GROUP w_HEARTBEAT w_LEAVE_GROUP w_SYNC_GROUP w_DESCRIBE_GROUPS w_LIST_GROUPS w_API_VERSIONS w_CREATE_TOPICS)), .val (.int (own_min ((p0 &&& (2147483647 : Int32)) % (15 : Int32)))), .val (.int (own_max ((p0 &&& (2147483647 : Int32)) % (15 : Int32)))), .val (.int (0 : Int32)), .unset, .unset]) rfl ?_
      show Steps p.tables e below (T63.setTop (mkF m 196 #[.val (.int p0), .val (.int p1), .val (.int p2), .val (.int p3), .val (.ref b1), .val (.ref b32), .val (.int ((p0 &&& (2147483647 : Int32)) % (15 : Int32))), .val (.ref (f1 ((p0 &&& (2147483647 : Int32)) % (15 : Int32)) w_PRODUCE w_FETCH w_LIST_OFFSETS w_METADATA w_OFFSET_COMMIT w_OFFSET_FETCH w_FIND_COORDINATOR w_JOIN_GROUP w_HEARTBEAT w_LEAVE_GROUP w_SYNC_GROUP w_DESCRIBE_GROUPS w_LIST_GROUPS w_API_VERSIONS w_CREATE_TOPICS)), .val (.int (own_min ((p0 &&& (2147483647 : Int32)) % (15 : Int32)))), .val (.int (own_max ((p0 &&& (2147483647 : Int32)) % (15 : Int32)))), .val (.int (0 : Int32)), .unset, .unset] [])) _
      refine XS.iload X63.here hx rfl (hb hby at_196) rfl ?_
      show Steps p.tables e below (T63.setTop (mkF m 198 #[.val (.int p0), .val (.int p1), .val (.int p2), .val (.int p3), .val (.ref b1), .val (.ref b32), .val (.int ((p0 &&& (2147483647 : Int32)) % (15 : Int32))), .val (.ref (f1 ((p0 &&& (2147483647 : Int32)) % (15 : Int32)) w_PRODUCE w_FETCH w_LIST_OFFSETS w_METADATA w_OFFSET_COMMIT w_OFFSET_FETCH w_FIND_COORDINATOR w_JOIN_GROUP w_HEARTBEAT w_LEAVE_GROUP w_SYNC_GROUP w_DESCRIBE_GROUPS w_LIST_GROUPS w_API_VERSIONS w_CREATE_TOPICS)), .val (.int (own_min ((p0 &&& (2147483647 : Int32)) % (15 : Int32)))), .val (.int (own_max ((p0 &&& (2147483647 : Int32)) % (15 : Int32)))), .val (.int (0 : Int32)), .unset, .unset] [(.int (0 : Int32))])) _
      refine XS.ifYes X63.here hx rfl (pc0 := 198) (pc' := 228) rfl (hb hby at_198) rfl ((if0 _ _).trans (teq (by decide : (0 : Int32) = (0 : Int32))).1) (by decide) (by decide) ?_
      show Steps p.tables e below (T63.setTop (mkF m 228 #[.val (.int p0), .val (.int p1), .val (.int p2), .val (.int p3), .val (.ref b1), .val (.ref b32), .val (.int ((p0 &&& (2147483647 : Int32)) % (15 : Int32))), .val (.ref (f1 ((p0 &&& (2147483647 : Int32)) % (15 : Int32)) w_PRODUCE w_FETCH w_LIST_OFFSETS w_METADATA w_OFFSET_COMMIT w_OFFSET_FETCH w_FIND_COORDINATOR w_JOIN_GROUP w_HEARTBEAT w_LEAVE_GROUP w_SYNC_GROUP w_DESCRIBE_GROUPS w_LIST_GROUPS w_API_VERSIONS w_CREATE_TOPICS)), .val (.int (own_min ((p0 &&& (2147483647 : Int32)) % (15 : Int32)))), .val (.int (own_max ((p0 &&& (2147483647 : Int32)) % (15 : Int32)))), .val (.int (0 : Int32)), .unset, .unset] [])) _
      refine XS.iloadN X63.here hx rfl (hb hby at_228) rfl ?_
      show Steps p.tables e below (T63.setTop (mkF m 229 #[.val (.int p0), .val (.int p1), .val (.int p2), .val (.int p3), .val (.ref b1), .val (.ref b32), .val (.int ((p0 &&& (2147483647 : Int32)) % (15 : Int32))), .val (.ref (f1 ((p0 &&& (2147483647 : Int32)) % (15 : Int32)) w_PRODUCE w_FETCH w_LIST_OFFSETS w_METADATA w_OFFSET_COMMIT w_OFFSET_FETCH w_FIND_COORDINATOR w_JOIN_GROUP w_HEARTBEAT w_LEAVE_GROUP w_SYNC_GROUP w_DESCRIBE_GROUPS w_LIST_GROUPS w_API_VERSIONS w_CREATE_TOPICS)), .val (.int (own_min ((p0 &&& (2147483647 : Int32)) % (15 : Int32)))), .val (.int (own_max ((p0 &&& (2147483647 : Int32)) % (15 : Int32)))), .val (.int (0 : Int32)), .unset, .unset] [(.int p2)])) _
      refine XS.i2s X63.here hx rfl (hb hby at_229) rfl ?_
      show Steps p.tables e below (T63.setTop (mkF m 230 #[.val (.int p0), .val (.int p1), .val (.int p2), .val (.int p3), .val (.ref b1), .val (.ref b32), .val (.int ((p0 &&& (2147483647 : Int32)) % (15 : Int32))), .val (.ref (f1 ((p0 &&& (2147483647 : Int32)) % (15 : Int32)) w_PRODUCE w_FETCH w_LIST_OFFSETS w_METADATA w_OFFSET_COMMIT w_OFFSET_FETCH w_FIND_COORDINATOR w_JOIN_GROUP w_HEARTBEAT w_LEAVE_GROUP w_SYNC_GROUP w_DESCRIBE_GROUPS w_LIST_GROUPS w_API_VERSIONS w_CREATE_TOPICS)), .val (.int (own_min ((p0 &&& (2147483647 : Int32)) % (15 : Int32)))), .val (.int (own_max ((p0 &&& (2147483647 : Int32)) % (15 : Int32)))), .val (.int (0 : Int32)), .unset, .unset] [(.int (p2.toInt16.toInt32))])) _
      refine XS.istore X63.here hx rfl (hb hby at_230) rfl (l' := #[.val (.int p0), .val (.int p1), .val (.int p2), .val (.int p3), .val (.ref b1), .val (.ref b32), .val (.int ((p0 &&& (2147483647 : Int32)) % (15 : Int32))), .val (.ref (f1 ((p0 &&& (2147483647 : Int32)) % (15 : Int32)) w_PRODUCE w_FETCH w_LIST_OFFSETS w_METADATA w_OFFSET_COMMIT w_OFFSET_FETCH w_FIND_COORDINATOR w_JOIN_GROUP w_HEARTBEAT w_LEAVE_GROUP w_SYNC_GROUP w_DESCRIBE_GROUPS w_LIST_GROUPS w_API_VERSIONS w_CREATE_TOPICS)), .val (.int (own_min ((p0 &&& (2147483647 : Int32)) % (15 : Int32)))), .val (.int (own_max ((p0 &&& (2147483647 : Int32)) % (15 : Int32)))), .val (.int (0 : Int32)), .val (.int (p2.toInt16.toInt32)), .unset]) rfl ?_
      show Steps p.tables e below (T63.setTop (mkF m 232 #[.val (.int p0), .val (.int p1), .val (.int p2), .val (.int p3), .val (.ref b1), .val (.ref b32), .val (.int ((p0 &&& (2147483647 : Int32)) % (15 : Int32))), .val (.ref (f1 ((p0 &&& (2147483647 : Int32)) % (15 : Int32)) w_PRODUCE w_FETCH w_LIST_OFFSETS w_METADATA w_OFFSET_COMMIT w_OFFSET_FETCH w_FIND_COORDINATOR w_JOIN_GROUP w_HEARTBEAT w_LEAVE_GROUP w_SYNC_GROUP w_DESCRIBE_GROUPS w_LIST_GROUPS w_API_VERSIONS w_CREATE_TOPICS)), .val (.int (own_min ((p0 &&& (2147483647 : Int32)) % (15 : Int32)))), .val (.int (own_max ((p0 &&& (2147483647 : Int32)) % (15 : Int32)))), .val (.int (0 : Int32)), .val (.int (p2.toInt16.toInt32)), .unset] [])) _
      refine XS.iload X63.here hx rfl (hb hby at_232) rfl ?_
      show Steps p.tables e below (T63.setTop (mkF m 234 #[.val (.int p0), .val (.int p1), .val (.int p2), .val (.int p3), .val (.ref b1), .val (.ref b32), .val (.int ((p0 &&& (2147483647 : Int32)) % (15 : Int32))), .val (.ref (f1 ((p0 &&& (2147483647 : Int32)) % (15 : Int32)) w_PRODUCE w_FETCH w_LIST_OFFSETS w_METADATA w_OFFSET_COMMIT w_OFFSET_FETCH w_FIND_COORDINATOR w_JOIN_GROUP w_HEARTBEAT w_LEAVE_GROUP w_SYNC_GROUP w_DESCRIBE_GROUPS w_LIST_GROUPS w_API_VERSIONS w_CREATE_TOPICS)), .val (.int (own_min ((p0 &&& (2147483647 : Int32)) % (15 : Int32)))), .val (.int (own_max ((p0 &&& (2147483647 : Int32)) % (15 : Int32)))), .val (.int (0 : Int32)), .val (.int (p2.toInt16.toInt32)), .unset] [(.int (p2.toInt16.toInt32))])) _
      refine XS.iload X63.here hx rfl (hb hby at_234) rfl ?_
      exact kt
    refine own_back (b := T63.setTop (mkF m 261 #[.val (.int p0), .val (.int p1), .val (.int p2), .val (.int p3), .val (.ref b1), .val (.ref b32), .val (.int ((p0 &&& (2147483647 : Int32)) % (15 : Int32))), .val (.ref (f1 ((p0 &&& (2147483647 : Int32)) % (15 : Int32)) w_PRODUCE w_FETCH w_LIST_OFFSETS w_METADATA w_OFFSET_COMMIT w_OFFSET_FETCH w_FIND_COORDINATOR w_JOIN_GROUP w_HEARTBEAT w_LEAVE_GROUP w_SYNC_GROUP w_DESCRIBE_GROUPS w_LIST_GROUPS w_API_VERSIONS w_CREATE_TOPICS)), .val (.int (own_min ((p0 &&& (2147483647 : Int32)) % (15 : Int32)))), .val (.int (own_max ((p0 &&& (2147483647 : Int32)) % (15 : Int32)))), .val (.int (0 : Int32)), .val (.int (p2.toInt16.toInt32)), .val (.int (m0_0 p0 p1 p2 p3))] [])) (fun t kt => ?_) ?_
    · by_cases hm236_67 : (p2.toInt16.toInt32) < (own_min ((p0 &&& (2147483647 : Int32)) % (15 : Int32)))
      · rw [show (m0_0 p0 p1 p2 p3) = (0 : Int32) from by unfold m0_0; rw [if_pos hm236_67]] at kt
        show Steps p.tables e below (T63.setTop (mkF m 236 #[.val (.int p0), .val (.int p1), .val (.int p2), .val (.int p3), .val (.ref b1), .val (.ref b32), .val (.int ((p0 &&& (2147483647 : Int32)) % (15 : Int32))), .val (.ref (f1 ((p0 &&& (2147483647 : Int32)) % (15 : Int32)) w_PRODUCE w_FETCH w_LIST_OFFSETS w_METADATA w_OFFSET_COMMIT w_OFFSET_FETCH w_FIND_COORDINATOR w_JOIN_GROUP w_HEARTBEAT w_LEAVE_GROUP w_SYNC_GROUP w_DESCRIBE_GROUPS w_LIST_GROUPS w_API_VERSIONS w_CREATE_TOPICS)), .val (.int (own_min ((p0 &&& (2147483647 : Int32)) % (15 : Int32)))), .val (.int (own_max ((p0 &&& (2147483647 : Int32)) % (15 : Int32)))), .val (.int (0 : Int32)), .val (.int (p2.toInt16.toInt32)), .unset] [(.int (own_min ((p0 &&& (2147483647 : Int32)) % (15 : Int32)))), (.int (p2.toInt16.toInt32))])) _
        refine XS.icmpNo X63.here hx rfl (hb hby at_236) rfl (tlt hm236_67).2.1 ?_
        show Steps p.tables e below (T63.setTop (mkF m 239 #[.val (.int p0), .val (.int p1), .val (.int p2), .val (.int p3), .val (.ref b1), .val (.ref b32), .val (.int ((p0 &&& (2147483647 : Int32)) % (15 : Int32))), .val (.ref (f1 ((p0 &&& (2147483647 : Int32)) % (15 : Int32)) w_PRODUCE w_FETCH w_LIST_OFFSETS w_METADATA w_OFFSET_COMMIT w_OFFSET_FETCH w_FIND_COORDINATOR w_JOIN_GROUP w_HEARTBEAT w_LEAVE_GROUP w_SYNC_GROUP w_DESCRIBE_GROUPS w_LIST_GROUPS w_API_VERSIONS w_CREATE_TOPICS)), .val (.int (own_min ((p0 &&& (2147483647 : Int32)) % (15 : Int32)))), .val (.int (own_max ((p0 &&& (2147483647 : Int32)) % (15 : Int32)))), .val (.int (0 : Int32)), .val (.int (p2.toInt16.toInt32)), .unset] [])) _
        refine XS.iconst X63.here hx rfl (hb hby at_239) ?_
        show Steps p.tables e below (T63.setTop (mkF m 240 #[.val (.int p0), .val (.int p1), .val (.int p2), .val (.int p3), .val (.ref b1), .val (.ref b32), .val (.int ((p0 &&& (2147483647 : Int32)) % (15 : Int32))), .val (.ref (f1 ((p0 &&& (2147483647 : Int32)) % (15 : Int32)) w_PRODUCE w_FETCH w_LIST_OFFSETS w_METADATA w_OFFSET_COMMIT w_OFFSET_FETCH w_FIND_COORDINATOR w_JOIN_GROUP w_HEARTBEAT w_LEAVE_GROUP w_SYNC_GROUP w_DESCRIBE_GROUPS w_LIST_GROUPS w_API_VERSIONS w_CREATE_TOPICS)), .val (.int (own_min ((p0 &&& (2147483647 : Int32)) % (15 : Int32)))), .val (.int (own_max ((p0 &&& (2147483647 : Int32)) % (15 : Int32)))), .val (.int (0 : Int32)), .val (.int (p2.toInt16.toInt32)), .unset] [(.int (0 : Int32))])) _
        refine XS.istore X63.here hx rfl (hb hby at_240) rfl (l' := #[.val (.int p0), .val (.int p1), .val (.int p2), .val (.int p3), .val (.ref b1), .val (.ref b32), .val (.int ((p0 &&& (2147483647 : Int32)) % (15 : Int32))), .val (.ref (f1 ((p0 &&& (2147483647 : Int32)) % (15 : Int32)) w_PRODUCE w_FETCH w_LIST_OFFSETS w_METADATA w_OFFSET_COMMIT w_OFFSET_FETCH w_FIND_COORDINATOR w_JOIN_GROUP w_HEARTBEAT w_LEAVE_GROUP w_SYNC_GROUP w_DESCRIBE_GROUPS w_LIST_GROUPS w_API_VERSIONS w_CREATE_TOPICS)), .val (.int (own_min ((p0 &&& (2147483647 : Int32)) % (15 : Int32)))), .val (.int (own_max ((p0 &&& (2147483647 : Int32)) % (15 : Int32)))), .val (.int (0 : Int32)), .val (.int (p2.toInt16.toInt32)), .val (.int (0 : Int32))]) rfl ?_
        show Steps p.tables e below (T63.setTop (mkF m 242 #[.val (.int p0), .val (.int p1), .val (.int p2), .val (.int p3), .val (.ref b1), .val (.ref b32), .val (.int ((p0 &&& (2147483647 : Int32)) % (15 : Int32))), .val (.ref (f1 ((p0 &&& (2147483647 : Int32)) % (15 : Int32)) w_PRODUCE w_FETCH w_LIST_OFFSETS w_METADATA w_OFFSET_COMMIT w_OFFSET_FETCH w_FIND_COORDINATOR w_JOIN_GROUP w_HEARTBEAT w_LEAVE_GROUP w_SYNC_GROUP w_DESCRIBE_GROUPS w_LIST_GROUPS w_API_VERSIONS w_CREATE_TOPICS)), .val (.int (own_min ((p0 &&& (2147483647 : Int32)) % (15 : Int32)))), .val (.int (own_max ((p0 &&& (2147483647 : Int32)) % (15 : Int32)))), .val (.int (0 : Int32)), .val (.int (p2.toInt16.toInt32)), .val (.int (0 : Int32))] [])) _
        refine XS.goto X63.here hx rfl (pc0 := 242) (pc' := 261) rfl (hb hby at_242) (by decide) (by decide) ?_
        exact kt
      · by_cases hm249_68 : (own_max ((p0 &&& (2147483647 : Int32)) % (15 : Int32))) < (p2.toInt16.toInt32)
        · rw [show (m0_0 p0 p1 p2 p3) = (0 : Int32) from by unfold m0_0; rw [if_neg hm236_67, if_pos hm249_68]] at kt
          show Steps p.tables e below (T63.setTop (mkF m 236 #[.val (.int p0), .val (.int p1), .val (.int p2), .val (.int p3), .val (.ref b1), .val (.ref b32), .val (.int ((p0 &&& (2147483647 : Int32)) % (15 : Int32))), .val (.ref (f1 ((p0 &&& (2147483647 : Int32)) % (15 : Int32)) w_PRODUCE w_FETCH w_LIST_OFFSETS w_METADATA w_OFFSET_COMMIT w_OFFSET_FETCH w_FIND_COORDINATOR w_JOIN_GROUP w_HEARTBEAT w_LEAVE_GROUP w_SYNC_GROUP w_DESCRIBE_GROUPS w_LIST_GROUPS w_API_VERSIONS w_CREATE_TOPICS)), .val (.int (own_min ((p0 &&& (2147483647 : Int32)) % (15 : Int32)))), .val (.int (own_max ((p0 &&& (2147483647 : Int32)) % (15 : Int32)))), .val (.int (0 : Int32)), .val (.int (p2.toInt16.toInt32)), .unset] [(.int (own_min ((p0 &&& (2147483647 : Int32)) % (15 : Int32)))), (.int (p2.toInt16.toInt32))])) _
          refine XS.icmpYes X63.here hx rfl (pc0 := 236) (pc' := 245) rfl (hb hby at_236) rfl (flt hm236_67).2.1 (by decide) (by decide) ?_
          show Steps p.tables e below (T63.setTop (mkF m 245 #[.val (.int p0), .val (.int p1), .val (.int p2), .val (.int p3), .val (.ref b1), .val (.ref b32), .val (.int ((p0 &&& (2147483647 : Int32)) % (15 : Int32))), .val (.ref (f1 ((p0 &&& (2147483647 : Int32)) % (15 : Int32)) w_PRODUCE w_FETCH w_LIST_OFFSETS w_METADATA w_OFFSET_COMMIT w_OFFSET_FETCH w_FIND_COORDINATOR w_JOIN_GROUP w_HEARTBEAT w_LEAVE_GROUP w_SYNC_GROUP w_DESCRIBE_GROUPS w_LIST_GROUPS w_API_VERSIONS w_CREATE_TOPICS)), .val (.int (own_min ((p0 &&& (2147483647 : Int32)) % (15 : Int32)))), .val (.int (own_max ((p0 &&& (2147483647 : Int32)) % (15 : Int32)))), .val (.int (0 : Int32)), .val (.int (p2.toInt16.toInt32)), .unset] [])) _
          refine XS.iload X63.here hx rfl (hb hby at_245) rfl ?_
          show Steps p.tables e below (T63.setTop (mkF m 247 #[.val (.int p0), .val (.int p1), .val (.int p2), .val (.int p3), .val (.ref b1), .val (.ref b32), .val (.int ((p0 &&& (2147483647 : Int32)) % (15 : Int32))), .val (.ref (f1 ((p0 &&& (2147483647 : Int32)) % (15 : Int32)) w_PRODUCE w_FETCH w_LIST_OFFSETS w_METADATA w_OFFSET_COMMIT w_OFFSET_FETCH w_FIND_COORDINATOR w_JOIN_GROUP w_HEARTBEAT w_LEAVE_GROUP w_SYNC_GROUP w_DESCRIBE_GROUPS w_LIST_GROUPS w_API_VERSIONS w_CREATE_TOPICS)), .val (.int (own_min ((p0 &&& (2147483647 : Int32)) % (15 : Int32)))), .val (.int (own_max ((p0 &&& (2147483647 : Int32)) % (15 : Int32)))), .val (.int (0 : Int32)), .val (.int (p2.toInt16.toInt32)), .unset] [(.int (p2.toInt16.toInt32))])) _
          refine XS.iload X63.here hx rfl (hb hby at_247) rfl ?_
          show Steps p.tables e below (T63.setTop (mkF m 249 #[.val (.int p0), .val (.int p1), .val (.int p2), .val (.int p3), .val (.ref b1), .val (.ref b32), .val (.int ((p0 &&& (2147483647 : Int32)) % (15 : Int32))), .val (.ref (f1 ((p0 &&& (2147483647 : Int32)) % (15 : Int32)) w_PRODUCE w_FETCH w_LIST_OFFSETS w_METADATA w_OFFSET_COMMIT w_OFFSET_FETCH w_FIND_COORDINATOR w_JOIN_GROUP w_HEARTBEAT w_LEAVE_GROUP w_SYNC_GROUP w_DESCRIBE_GROUPS w_LIST_GROUPS w_API_VERSIONS w_CREATE_TOPICS)), .val (.int (own_min ((p0 &&& (2147483647 : Int32)) % (15 : Int32)))), .val (.int (own_max ((p0 &&& (2147483647 : Int32)) % (15 : Int32)))), .val (.int (0 : Int32)), .val (.int (p2.toInt16.toInt32)), .unset] [(.int (own_max ((p0 &&& (2147483647 : Int32)) % (15 : Int32)))), (.int (p2.toInt16.toInt32))])) _
          refine XS.icmpNo X63.here hx rfl (hb hby at_249) rfl (tlt hm249_68).2.2.2 ?_
          show Steps p.tables e below (T63.setTop (mkF m 252 #[.val (.int p0), .val (.int p1), .val (.int p2), .val (.int p3), .val (.ref b1), .val (.ref b32), .val (.int ((p0 &&& (2147483647 : Int32)) % (15 : Int32))), .val (.ref (f1 ((p0 &&& (2147483647 : Int32)) % (15 : Int32)) w_PRODUCE w_FETCH w_LIST_OFFSETS w_METADATA w_OFFSET_COMMIT w_OFFSET_FETCH w_FIND_COORDINATOR w_JOIN_GROUP w_HEARTBEAT w_LEAVE_GROUP w_SYNC_GROUP w_DESCRIBE_GROUPS w_LIST_GROUPS w_API_VERSIONS w_CREATE_TOPICS)), .val (.int (own_min ((p0 &&& (2147483647 : Int32)) % (15 : Int32)))), .val (.int (own_max ((p0 &&& (2147483647 : Int32)) % (15 : Int32)))), .val (.int (0 : Int32)), .val (.int (p2.toInt16.toInt32)), .unset] [])) _
          refine XS.iconst X63.here hx rfl (hb hby at_252) ?_
          show Steps p.tables e below (T63.setTop (mkF m 253 #[.val (.int p0), .val (.int p1), .val (.int p2), .val (.int p3), .val (.ref b1), .val (.ref b32), .val (.int ((p0 &&& (2147483647 : Int32)) % (15 : Int32))), .val (.ref (f1 ((p0 &&& (2147483647 : Int32)) % (15 : Int32)) w_PRODUCE w_FETCH w_LIST_OFFSETS w_METADATA w_OFFSET_COMMIT w_OFFSET_FETCH w_FIND_COORDINATOR w_JOIN_GROUP w_HEARTBEAT w_LEAVE_GROUP w_SYNC_GROUP w_DESCRIBE_GROUPS w_LIST_GROUPS w_API_VERSIONS w_CREATE_TOPICS)), .val (.int (own_min ((p0 &&& (2147483647 : Int32)) % (15 : Int32)))), .val (.int (own_max ((p0 &&& (2147483647 : Int32)) % (15 : Int32)))), .val (.int (0 : Int32)), .val (.int (p2.toInt16.toInt32)), .unset] [(.int (0 : Int32))])) _
          refine XS.istore X63.here hx rfl (hb hby at_253) rfl (l' := #[.val (.int p0), .val (.int p1), .val (.int p2), .val (.int p3), .val (.ref b1), .val (.ref b32), .val (.int ((p0 &&& (2147483647 : Int32)) % (15 : Int32))), .val (.ref (f1 ((p0 &&& (2147483647 : Int32)) % (15 : Int32)) w_PRODUCE w_FETCH w_LIST_OFFSETS w_METADATA w_OFFSET_COMMIT w_OFFSET_FETCH w_FIND_COORDINATOR w_JOIN_GROUP w_HEARTBEAT w_LEAVE_GROUP w_SYNC_GROUP w_DESCRIBE_GROUPS w_LIST_GROUPS w_API_VERSIONS w_CREATE_TOPICS)), .val (.int (own_min ((p0 &&& (2147483647 : Int32)) % (15 : Int32)))), .val (.int (own_max ((p0 &&& (2147483647 : Int32)) % (15 : Int32)))), .val (.int (0 : Int32)), .val (.int (p2.toInt16.toInt32)), .val (.int (0 : Int32))]) rfl ?_
          show Steps p.tables e below (T63.setTop (mkF m 255 #[.val (.int p0), .val (.int p1), .val (.int p2), .val (.int p3), .val (.ref b1), .val (.ref b32), .val (.int ((p0 &&& (2147483647 : Int32)) % (15 : Int32))), .val (.ref (f1 ((p0 &&& (2147483647 : Int32)) % (15 : Int32)) w_PRODUCE w_FETCH w_LIST_OFFSETS w_METADATA w_OFFSET_COMMIT w_OFFSET_FETCH w_FIND_COORDINATOR w_JOIN_GROUP w_HEARTBEAT w_LEAVE_GROUP w_SYNC_GROUP w_DESCRIBE_GROUPS w_LIST_GROUPS w_API_VERSIONS w_CREATE_TOPICS)), .val (.int (own_min ((p0 &&& (2147483647 : Int32)) % (15 : Int32)))), .val (.int (own_max ((p0 &&& (2147483647 : Int32)) % (15 : Int32)))), .val (.int (0 : Int32)), .val (.int (p2.toInt16.toInt32)), .val (.int (0 : Int32))] [])) _
          refine XS.goto X63.here hx rfl (pc0 := 255) (pc' := 261) rfl (hb hby at_255) (by decide) (by decide) ?_
          exact kt
        · rw [show (m0_0 p0 p1 p2 p3) = (1 : Int32) from by unfold m0_0; rw [if_neg hm236_67, if_neg hm249_68]] at kt
          show Steps p.tables e below (T63.setTop (mkF m 236 #[.val (.int p0), .val (.int p1), .val (.int p2), .val (.int p3), .val (.ref b1), .val (.ref b32), .val (.int ((p0 &&& (2147483647 : Int32)) % (15 : Int32))), .val (.ref (f1 ((p0 &&& (2147483647 : Int32)) % (15 : Int32)) w_PRODUCE w_FETCH w_LIST_OFFSETS w_METADATA w_OFFSET_COMMIT w_OFFSET_FETCH w_FIND_COORDINATOR w_JOIN_GROUP w_HEARTBEAT w_LEAVE_GROUP w_SYNC_GROUP w_DESCRIBE_GROUPS w_LIST_GROUPS w_API_VERSIONS w_CREATE_TOPICS)), .val (.int (own_min ((p0 &&& (2147483647 : Int32)) % (15 : Int32)))), .val (.int (own_max ((p0 &&& (2147483647 : Int32)) % (15 : Int32)))), .val (.int (0 : Int32)), .val (.int (p2.toInt16.toInt32)), .unset] [(.int (own_min ((p0 &&& (2147483647 : Int32)) % (15 : Int32)))), (.int (p2.toInt16.toInt32))])) _
          refine XS.icmpYes X63.here hx rfl (pc0 := 236) (pc' := 245) rfl (hb hby at_236) rfl (flt hm236_67).2.1 (by decide) (by decide) ?_
          show Steps p.tables e below (T63.setTop (mkF m 245 #[.val (.int p0), .val (.int p1), .val (.int p2), .val (.int p3), .val (.ref b1), .val (.ref b32), .val (.int ((p0 &&& (2147483647 : Int32)) % (15 : Int32))), .val (.ref (f1 ((p0 &&& (2147483647 : Int32)) % (15 : Int32)) w_PRODUCE w_FETCH w_LIST_OFFSETS w_METADATA w_OFFSET_COMMIT w_OFFSET_FETCH w_FIND_COORDINATOR w_JOIN_GROUP w_HEARTBEAT w_LEAVE_GROUP w_SYNC_GROUP w_DESCRIBE_GROUPS w_LIST_GROUPS w_API_VERSIONS w_CREATE_TOPICS)), .val (.int (own_min ((p0 &&& (2147483647 : Int32)) % (15 : Int32)))), .val (.int (own_max ((p0 &&& (2147483647 : Int32)) % (15 : Int32)))), .val (.int (0 : Int32)), .val (.int (p2.toInt16.toInt32)), .unset] [])) _
          refine XS.iload X63.here hx rfl (hb hby at_245) rfl ?_
          show Steps p.tables e below (T63.setTop (mkF m 247 #[.val (.int p0), .val (.int p1), .val (.int p2), .val (.int p3), .val (.ref b1), .val (.ref b32), .val (.int ((p0 &&& (2147483647 : Int32)) % (15 : Int32))), .val (.ref (f1 ((p0 &&& (2147483647 : Int32)) % (15 : Int32)) w_PRODUCE w_FETCH w_LIST_OFFSETS w_METADATA w_OFFSET_COMMIT w_OFFSET_FETCH w_FIND_COORDINATOR w_JOIN_GROUP w_HEARTBEAT w_LEAVE_GROUP w_SYNC_GROUP w_DESCRIBE_GROUPS w_LIST_GROUPS w_API_VERSIONS w_CREATE_TOPICS)), .val (.int (own_min ((p0 &&& (2147483647 : Int32)) % (15 : Int32)))), .val (.int (own_max ((p0 &&& (2147483647 : Int32)) % (15 : Int32)))), .val (.int (0 : Int32)), .val (.int (p2.toInt16.toInt32)), .unset] [(.int (p2.toInt16.toInt32))])) _
          refine XS.iload X63.here hx rfl (hb hby at_247) rfl ?_
          show Steps p.tables e below (T63.setTop (mkF m 249 #[.val (.int p0), .val (.int p1), .val (.int p2), .val (.int p3), .val (.ref b1), .val (.ref b32), .val (.int ((p0 &&& (2147483647 : Int32)) % (15 : Int32))), .val (.ref (f1 ((p0 &&& (2147483647 : Int32)) % (15 : Int32)) w_PRODUCE w_FETCH w_LIST_OFFSETS w_METADATA w_OFFSET_COMMIT w_OFFSET_FETCH w_FIND_COORDINATOR w_JOIN_GROUP w_HEARTBEAT w_LEAVE_GROUP w_SYNC_GROUP w_DESCRIBE_GROUPS w_LIST_GROUPS w_API_VERSIONS w_CREATE_TOPICS)), .val (.int (own_min ((p0 &&& (2147483647 : Int32)) % (15 : Int32)))), .val (.int (own_max ((p0 &&& (2147483647 : Int32)) % (15 : Int32)))), .val (.int (0 : Int32)), .val (.int (p2.toInt16.toInt32)), .unset] [(.int (own_max ((p0 &&& (2147483647 : Int32)) % (15 : Int32)))), (.int (p2.toInt16.toInt32))])) _
          refine XS.icmpYes X63.here hx rfl (pc0 := 249) (pc' := 258) rfl (hb hby at_249) rfl (flt hm249_68).2.2.2 (by decide) (by decide) ?_
          show Steps p.tables e below (T63.setTop (mkF m 258 #[.val (.int p0), .val (.int p1), .val (.int p2), .val (.int p3), .val (.ref b1), .val (.ref b32), .val (.int ((p0 &&& (2147483647 : Int32)) % (15 : Int32))), .val (.ref (f1 ((p0 &&& (2147483647 : Int32)) % (15 : Int32)) w_PRODUCE w_FETCH w_LIST_OFFSETS w_METADATA w_OFFSET_COMMIT w_OFFSET_FETCH w_FIND_COORDINATOR w_JOIN_GROUP w_HEARTBEAT w_LEAVE_GROUP w_SYNC_GROUP w_DESCRIBE_GROUPS w_LIST_GROUPS w_API_VERSIONS w_CREATE_TOPICS)), .val (.int (own_min ((p0 &&& (2147483647 : Int32)) % (15 : Int32)))), .val (.int (own_max ((p0 &&& (2147483647 : Int32)) % (15 : Int32)))), .val (.int (0 : Int32)), .val (.int (p2.toInt16.toInt32)), .unset] [])) _
          refine XS.iconst X63.here hx rfl (hb hby at_258) ?_
          show Steps p.tables e below (T63.setTop (mkF m 259 #[.val (.int p0), .val (.int p1), .val (.int p2), .val (.int p3), .val (.ref b1), .val (.ref b32), .val (.int ((p0 &&& (2147483647 : Int32)) % (15 : Int32))), .val (.ref (f1 ((p0 &&& (2147483647 : Int32)) % (15 : Int32)) w_PRODUCE w_FETCH w_LIST_OFFSETS w_METADATA w_OFFSET_COMMIT w_OFFSET_FETCH w_FIND_COORDINATOR w_JOIN_GROUP w_HEARTBEAT w_LEAVE_GROUP w_SYNC_GROUP w_DESCRIBE_GROUPS w_LIST_GROUPS w_API_VERSIONS w_CREATE_TOPICS)), .val (.int (own_min ((p0 &&& (2147483647 : Int32)) % (15 : Int32)))), .val (.int (own_max ((p0 &&& (2147483647 : Int32)) % (15 : Int32)))), .val (.int (0 : Int32)), .val (.int (p2.toInt16.toInt32)), .unset] [(.int (1 : Int32))])) _
          refine XS.istore X63.here hx rfl (hb hby at_259) rfl (l' := #[.val (.int p0), .val (.int p1), .val (.int p2), .val (.int p3), .val (.ref b1), .val (.ref b32), .val (.int ((p0 &&& (2147483647 : Int32)) % (15 : Int32))), .val (.ref (f1 ((p0 &&& (2147483647 : Int32)) % (15 : Int32)) w_PRODUCE w_FETCH w_LIST_OFFSETS w_METADATA w_OFFSET_COMMIT w_OFFSET_FETCH w_FIND_COORDINATOR w_JOIN_GROUP w_HEARTBEAT w_LEAVE_GROUP w_SYNC_GROUP w_DESCRIBE_GROUPS w_LIST_GROUPS w_API_VERSIONS w_CREATE_TOPICS)), .val (.int (own_min ((p0 &&& (2147483647 : Int32)) % (15 : Int32)))), .val (.int (own_max ((p0 &&& (2147483647 : Int32)) % (15 : Int32)))), .val (.int (0 : Int32)), .val (.int (p2.toInt16.toInt32)), .val (.int (1 : Int32))]) rfl ?_
          exact kt
    obtain ⟨cq69, kq69, q69a, q69b, q69c⟩ := isOf hZ e63 (EK.keep K62)
    obtain ⟨_, _, ⟨T69, L69, k69, n69⟩, -, X69, ⟨Lc69, hQ69, l69, y69, z69⟩, st69⟩ := X63.virtualBack hx (y := (⟨"com/example/keptlog/keptlog/protocol/ApiKey", "supports", "(S)Z"⟩ : MethodName)) (z := (⟨"com/example/keptlog/keptlog/protocol/ApiKey", "supports", "(S)Z"⟩ : MethodName)) hown (mvT hZ (hw _ (List.mem_of_getElem? (i := 9) rfl))) (mvT hZ (hw _ (List.mem_of_getElem? (i := 10) rfl))) (notFace_of_selects (args := #[]) (mvT hZ (hw _ (List.mem_of_getElem? (i := 12) rfl)))) (mvT hZ (hw _ (List.mem_of_getElem? (i := 12) rfl))) (mvT hZ (hw _ (List.mem_of_getElem? (i := 11) rfl))) (by decide) (backOf (W := 0) (rm2 l Z aw hw [] (f1 ((p0 &&& (2147483647 : Int32)) % (15 : Int32)) w_PRODUCE w_FETCH w_LIST_OFFSETS w_METADATA w_OFFSET_COMMIT w_OFFSET_FETCH w_FIND_COORDINATOR w_JOIN_GROUP w_HEARTBEAT w_LEAVE_GROUP w_SYNC_GROUP w_DESCRIBE_GROUPS w_LIST_GROUPS w_API_VERSIONS w_CREATE_TOPICS) (p2.toInt16.toInt32) (own_min ((p0 &&& (2147483647 : Int32)) % (15 : Int32))) (own_max ((p0 &&& (2147483647 : Int32)) % (15 : Int32))) h62 n0 Z62 (FLK.keep K62 nin0) (FHK.keep K62 nin0)) hZ (hw _ (List.mem_of_getElem? (i := 13) rfl)) (hw _ (List.mem_of_getElem? (i := 7) rfl)) (by decide) (by decide)) q69a q69c (g := (mkF m 265 #[.val (.int p0), .val (.int p1), .val (.int p2), .val (.int p3), .val (.ref b1), .val (.ref b32), .val (.int ((p0 &&& (2147483647 : Int32)) % (15 : Int32))), .val (.ref (f1 ((p0 &&& (2147483647 : Int32)) % (15 : Int32)) w_PRODUCE w_FETCH w_LIST_OFFSETS w_METADATA w_OFFSET_COMMIT w_OFFSET_FETCH w_FIND_COORDINATOR w_JOIN_GROUP w_HEARTBEAT w_LEAVE_GROUP w_SYNC_GROUP w_DESCRIBE_GROUPS w_LIST_GROUPS w_API_VERSIONS w_CREATE_TOPICS)), .val (.int (own_min ((p0 &&& (2147483647 : Int32)) % (15 : Int32)))), .val (.int (own_max ((p0 &&& (2147483647 : Int32)) % (15 : Int32)))), .val (.int (0 : Int32)), .val (.int (p2.toInt16.toInt32)), .val (.int (m0_0 p0 p1 p2 p3))] [(.int (p2.toInt16.toInt32)), (.ref (f1 ((p0 &&& (2147483647 : Int32)) % (15 : Int32)) w_PRODUCE w_FETCH w_LIST_OFFSETS w_METADATA w_OFFSET_COMMIT w_OFFSET_FETCH w_FIND_COORDINATOR w_JOIN_GROUP w_HEARTBEAT w_LEAVE_GROUP w_SYNC_GROUP w_DESCRIBE_GROUPS w_LIST_GROUPS w_API_VERSIONS w_CREATE_TOPICS))])) rfl (by rw [hml]; rfl) (Steps.refl _) (argsL := [(.int (p2.toInt16.toInt32))]) (rest := []) (lenOf pd_0_1 rfl) rfl (by show 2 * 0 + _ ≤ _; exact Nat.le_of_eq rfl) (hb hby at_265) (fun _ _ => ⟨rfl, e63, (by decide : 2 + 0 ≤ _), (by decide : 30 + 0 ≤ _)⟩)
    dsimp only [Pt.U, Pt.locs, Pt.cells, Pt.slots] at X69 l69 y69 z69 st69 hQ69
    rw [l69, y69, z69] at X69
    obtain ⟨rfl, Nq69, e69⟩ := hQ69
    have N69 := Fr.app N63 Nq69
    refine own_back (b := T69.setTop (mkF m 270 #[.val (.int p0), .val (.int p1), .val (.int p2), .val (.int p3), .val (.ref b1), .val (.ref b32), .val (.int ((p0 &&& (2147483647 : Int32)) % (15 : Int32))), .val (.ref (f1 ((p0 &&& (2147483647 : Int32)) % (15 : Int32)) w_PRODUCE w_FETCH w_LIST_OFFSETS w_METADATA w_OFFSET_COMMIT w_OFFSET_FETCH w_FIND_COORDINATOR w_JOIN_GROUP w_HEARTBEAT w_LEAVE_GROUP w_SYNC_GROUP w_DESCRIBE_GROUPS w_LIST_GROUPS w_API_VERSIONS w_CREATE_TOPICS)), .val (.int (own_min ((p0 &&& (2147483647 : Int32)) % (15 : Int32)))), .val (.int (own_max ((p0 &&& (2147483647 : Int32)) % (15 : Int32)))), .val (.int (0 : Int32)), .val (.int (p2.toInt16.toInt32)), .val (.int (m0_0 p0 p1 p2 p3))] [(.int (m0_0 p0 p1 p2 p3)), (.int (f2 (p2.toInt16.toInt32) (own_min ((p0 &&& (2147483647 : Int32)) % (15 : Int32))) (own_max ((p0 &&& (2147483647 : Int32)) % (15 : Int32)))))])) (fun t kt => ?_) ?_
    · show Steps p.tables e below (T63.setTop (mkF m 261 #[.val (.int p0), .val (.int p1), .val (.int p2), .val (.int p3), .val (.ref b1), .val (.ref b32), .val (.int ((p0 &&& (2147483647 : Int32)) % (15 : Int32))), .val (.ref (f1 ((p0 &&& (2147483647 : Int32)) % (15 : Int32)) w_PRODUCE w_FETCH w_LIST_OFFSETS w_METADATA w_OFFSET_COMMIT w_OFFSET_FETCH w_FIND_COORDINATOR w_JOIN_GROUP w_HEARTBEAT w_LEAVE_GROUP w_SYNC_GROUP w_DESCRIBE_GROUPS w_LIST_GROUPS w_API_VERSIONS w_CREATE_TOPICS)), .val (.int (own_min ((p0 &&& (2147483647 : Int32)) % (15 : Int32)))), .val (.int (own_max ((p0 &&& (2147483647 : Int32)) % (15 : Int32)))), .val (.int (0 : Int32)), .val (.int (p2.toInt16.toInt32)), .val (.int (m0_0 p0 p1 p2 p3))] [])) _
      refine XS.aload X63.here hx rfl (hb hby at_261) rfl rfl ?_
      show Steps p.tables e below (T63.setTop (mkF m 263 #[.val (.int p0), .val (.int p1), .val (.int p2), .val (.int p3), .val (.ref b1), .val (.ref b32), .val (.int ((p0 &&& (2147483647 : Int32)) % (15 : Int32))), .val (.ref (f1 ((p0 &&& (2147483647 : Int32)) % (15 : Int32)) w_PRODUCE w_FETCH w_LIST_OFFSETS w_METADATA w_OFFSET_COMMIT w_OFFSET_FETCH w_FIND_COORDINATOR w_JOIN_GROUP w_HEARTBEAT w_LEAVE_GROUP w_SYNC_GROUP w_DESCRIBE_GROUPS w_LIST_GROUPS w_API_VERSIONS w_CREATE_TOPICS)), .val (.int (own_min ((p0 &&& (2147483647 : Int32)) % (15 : Int32)))), .val (.int (own_max ((p0 &&& (2147483647 : Int32)) % (15 : Int32)))), .val (.int (0 : Int32)), .val (.int (p2.toInt16.toInt32)), .val (.int (m0_0 p0 p1 p2 p3))] [(.ref (f1 ((p0 &&& (2147483647 : Int32)) % (15 : Int32)) w_PRODUCE w_FETCH w_LIST_OFFSETS w_METADATA w_OFFSET_COMMIT w_OFFSET_FETCH w_FIND_COORDINATOR w_JOIN_GROUP w_HEARTBEAT w_LEAVE_GROUP w_SYNC_GROUP w_DESCRIBE_GROUPS w_LIST_GROUPS w_API_VERSIONS w_CREATE_TOPICS))])) _
      refine XS.iload X63.here hx rfl (hb hby at_263) rfl ?_
      show Steps p.tables e below (T63.setTop (mkF m 265 #[.val (.int p0), .val (.int p1), .val (.int p2), .val (.int p3), .val (.ref b1), .val (.ref b32), .val (.int ((p0 &&& (2147483647 : Int32)) % (15 : Int32))), .val (.ref (f1 ((p0 &&& (2147483647 : Int32)) % (15 : Int32)) w_PRODUCE w_FETCH w_LIST_OFFSETS w_METADATA w_OFFSET_COMMIT w_OFFSET_FETCH w_FIND_COORDINATOR w_JOIN_GROUP w_HEARTBEAT w_LEAVE_GROUP w_SYNC_GROUP w_DESCRIBE_GROUPS w_LIST_GROUPS w_API_VERSIONS w_CREATE_TOPICS)), .val (.int (own_min ((p0 &&& (2147483647 : Int32)) % (15 : Int32)))), .val (.int (own_max ((p0 &&& (2147483647 : Int32)) % (15 : Int32)))), .val (.int (0 : Int32)), .val (.int (p2.toInt16.toInt32)), .val (.int (m0_0 p0 p1 p2 p3))] [(.int (p2.toInt16.toInt32)), (.ref (f1 ((p0 &&& (2147483647 : Int32)) % (15 : Int32)) w_PRODUCE w_FETCH w_LIST_OFFSETS w_METADATA w_OFFSET_COMMIT w_OFFSET_FETCH w_FIND_COORDINATOR w_JOIN_GROUP w_HEARTBEAT w_LEAVE_GROUP w_SYNC_GROUP w_DESCRIBE_GROUPS w_LIST_GROUPS w_API_VERSIONS w_CREATE_TOPICS))])) _
      refine st69.trans ?_
      show Steps p.tables e below (T69.setTop (mkF m 268 #[.val (.int p0), .val (.int p1), .val (.int p2), .val (.int p3), .val (.ref b1), .val (.ref b32), .val (.int ((p0 &&& (2147483647 : Int32)) % (15 : Int32))), .val (.ref (f1 ((p0 &&& (2147483647 : Int32)) % (15 : Int32)) w_PRODUCE w_FETCH w_LIST_OFFSETS w_METADATA w_OFFSET_COMMIT w_OFFSET_FETCH w_FIND_COORDINATOR w_JOIN_GROUP w_HEARTBEAT w_LEAVE_GROUP w_SYNC_GROUP w_DESCRIBE_GROUPS w_LIST_GROUPS w_API_VERSIONS w_CREATE_TOPICS)), .val (.int (own_min ((p0 &&& (2147483647 : Int32)) % (15 : Int32)))), .val (.int (own_max ((p0 &&& (2147483647 : Int32)) % (15 : Int32)))), .val (.int (0 : Int32)), .val (.int (p2.toInt16.toInt32)), .val (.int (m0_0 p0 p1 p2 p3))] [(.int (f2 (p2.toInt16.toInt32) (own_min ((p0 &&& (2147483647 : Int32)) % (15 : Int32))) (own_max ((p0 &&& (2147483647 : Int32)) % (15 : Int32)))))])) _
      refine XS.iload X69.here hx rfl (hb hby at_268) rfl ?_
      exact kt
    by_cases hc270_70 : (f2 (p2.toInt16.toInt32) (own_min ((p0 &&& (2147483647 : Int32)) % (15 : Int32))) (own_max ((p0 &&& (2147483647 : Int32)) % (15 : Int32)))) = (m0_0 p0 p1 p2 p3)
    · refine own_back (b := T69.setTop (mkF m 278 #[.val (.int p0), .val (.int p1), .val (.int p2), .val (.int p3), .val (.ref b1), .val (.ref b32), .val (.int ((p0 &&& (2147483647 : Int32)) % (15 : Int32))), .val (.ref (f1 ((p0 &&& (2147483647 : Int32)) % (15 : Int32)) w_PRODUCE w_FETCH w_LIST_OFFSETS w_METADATA w_OFFSET_COMMIT w_OFFSET_FETCH w_FIND_COORDINATOR w_JOIN_GROUP w_HEARTBEAT w_LEAVE_GROUP w_SYNC_GROUP w_DESCRIBE_GROUPS w_LIST_GROUPS w_API_VERSIONS w_CREATE_TOPICS)), .val (.int (own_min ((p0 &&& (2147483647 : Int32)) % (15 : Int32)))), .val (.int (own_max ((p0 &&& (2147483647 : Int32)) % (15 : Int32)))), .val (.int (0 : Int32)), .val (.int (p2.toInt16.toInt32)), .val (.int (m0_0 p0 p1 p2 p3))] [(.int (1 : Int32))])) (fun t kt => ?_) ?_
      · show Steps p.tables e below (T69.setTop (mkF m 270 #[.val (.int p0), .val (.int p1), .val (.int p2), .val (.int p3), .val (.ref b1), .val (.ref b32), .val (.int ((p0 &&& (2147483647 : Int32)) % (15 : Int32))), .val (.ref (f1 ((p0 &&& (2147483647 : Int32)) % (15 : Int32)) w_PRODUCE w_FETCH w_LIST_OFFSETS w_METADATA w_OFFSET_COMMIT w_OFFSET_FETCH w_FIND_COORDINATOR w_JOIN_GROUP w_HEARTBEAT w_LEAVE_GROUP w_SYNC_GROUP w_DESCRIBE_GROUPS w_LIST_GROUPS w_API_VERSIONS w_CREATE_TOPICS)), .val (.int (own_min ((p0 &&& (2147483647 : Int32)) % (15 : Int32)))), .val (.int (own_max ((p0 &&& (2147483647 : Int32)) % (15 : Int32)))), .val (.int (0 : Int32)), .val (.int (p2.toInt16.toInt32)), .val (.int (m0_0 p0 p1 p2 p3))] [(.int (m0_0 p0 p1 p2 p3)), (.int (f2 (p2.toInt16.toInt32) (own_min ((p0 &&& (2147483647 : Int32)) % (15 : Int32))) (own_max ((p0 &&& (2147483647 : Int32)) % (15 : Int32)))))])) _
        refine XS.icmpNo X69.here hx rfl (hb hby at_270) rfl (teq hc270_70).2 ?_
        show Steps p.tables e below (T69.setTop (mkF m 273 #[.val (.int p0), .val (.int p1), .val (.int p2), .val (.int p3), .val (.ref b1), .val (.ref b32), .val (.int ((p0 &&& (2147483647 : Int32)) % (15 : Int32))), .val (.ref (f1 ((p0 &&& (2147483647 : Int32)) % (15 : Int32)) w_PRODUCE w_FETCH w_LIST_OFFSETS w_METADATA w_OFFSET_COMMIT w_OFFSET_FETCH w_FIND_COORDINATOR w_JOIN_GROUP w_HEARTBEAT w_LEAVE_GROUP w_SYNC_GROUP w_DESCRIBE_GROUPS w_LIST_GROUPS w_API_VERSIONS w_CREATE_TOPICS)), .val (.int (own_min ((p0 &&& (2147483647 : Int32)) % (15 : Int32)))), .val (.int (own_max ((p0 &&& (2147483647 : Int32)) % (15 : Int32)))), .val (.int (0 : Int32)), .val (.int (p2.toInt16.toInt32)), .val (.int (m0_0 p0 p1 p2 p3))] [])) _
        refine XS.iconst X69.here hx rfl (hb hby at_273) ?_
        show Steps p.tables e below (T69.setTop (mkF m 274 #[.val (.int p0), .val (.int p1), .val (.int p2), .val (.int p3), .val (.ref b1), .val (.ref b32), .val (.int ((p0 &&& (2147483647 : Int32)) % (15 : Int32))), .val (.ref (f1 ((p0 &&& (2147483647 : Int32)) % (15 : Int32)) w_PRODUCE w_FETCH w_LIST_OFFSETS w_METADATA w_OFFSET_COMMIT w_OFFSET_FETCH w_FIND_COORDINATOR w_JOIN_GROUP w_HEARTBEAT w_LEAVE_GROUP w_SYNC_GROUP w_DESCRIBE_GROUPS w_LIST_GROUPS w_API_VERSIONS w_CREATE_TOPICS)), .val (.int (own_min ((p0 &&& (2147483647 : Int32)) % (15 : Int32)))), .val (.int (own_max ((p0 &&& (2147483647 : Int32)) % (15 : Int32)))), .val (.int (0 : Int32)), .val (.int (p2.toInt16.toInt32)), .val (.int (m0_0 p0 p1 p2 p3))] [(.int (1 : Int32))])) _
        refine XS.goto X69.here hx rfl (pc0 := 274) (pc' := 278) rfl (hb hby at_274) (by decide) (by decide) ?_
        exact kt
      obtain ⟨fs, hr, hrun, hended, hW, hsame⟩ := X69.leave (v := some (.int (1 : Int32))) (fun h => by rw [Bd.returns] at h; cases h) (BodyLoose.notSynchronized Bd)
      refine ⟨_, _, ?_, hrun, hended, _, _, rfl, ?_, ⟨_, rfl⟩, hW, hsame.mono (by decide) (by decide)⟩
      · show Steps p.tables e below (T69.setTop (mkF m 278 #[.val (.int p0), .val (.int p1), .val (.int p2), .val (.int p3), .val (.ref b1), .val (.ref b32), .val (.int ((p0 &&& (2147483647 : Int32)) % (15 : Int32))), .val (.ref (f1 ((p0 &&& (2147483647 : Int32)) % (15 : Int32)) w_PRODUCE w_FETCH w_LIST_OFFSETS w_METADATA w_OFFSET_COMMIT w_OFFSET_FETCH w_FIND_COORDINATOR w_JOIN_GROUP w_HEARTBEAT w_LEAVE_GROUP w_SYNC_GROUP w_DESCRIBE_GROUPS w_LIST_GROUPS w_API_VERSIONS w_CREATE_TOPICS)), .val (.int (own_min ((p0 &&& (2147483647 : Int32)) % (15 : Int32)))), .val (.int (own_max ((p0 &&& (2147483647 : Int32)) % (15 : Int32)))), .val (.int (0 : Int32)), .val (.int (p2.toInt16.toInt32)), .val (.int (m0_0 p0 p1 p2 p3))] [(.int (1 : Int32))])) _
        exact retN X69 hx (t := .boolean) Bd.returns (by simp) (hb hby at_278) hr
      · show Q0 Z p0 p1 p2 p3 w_PRODUCE w_FETCH w_LIST_OFFSETS w_METADATA w_OFFSET_COMMIT w_OFFSET_FETCH w_FIND_COORDINATOR w_JOIN_GROUP w_HEARTBEAT w_LEAVE_GROUP w_SYNC_GROUP w_DESCRIBE_GROUPS w_LIST_GROUPS w_API_VERSIONS w_CREATE_TOPICS h0 n0 _ T69.heap _
        rw [e69]
        exact ⟨by rw [show f0 p0 p1 p2 p3 = (1 : Int32) from by unfold f0; rw [if_pos hc186_66, if_pos hc270_70]], N69⟩
    · refine own_back (b := T69.setTop (mkF m 278 #[.val (.int p0), .val (.int p1), .val (.int p2), .val (.int p3), .val (.ref b1), .val (.ref b32), .val (.int ((p0 &&& (2147483647 : Int32)) % (15 : Int32))), .val (.ref (f1 ((p0 &&& (2147483647 : Int32)) % (15 : Int32)) w_PRODUCE w_FETCH w_LIST_OFFSETS w_METADATA w_OFFSET_COMMIT w_OFFSET_FETCH w_FIND_COORDINATOR w_JOIN_GROUP w_HEARTBEAT w_LEAVE_GROUP w_SYNC_GROUP w_DESCRIBE_GROUPS w_LIST_GROUPS w_API_VERSIONS w_CREATE_TOPICS)), .val (.int (own_min ((p0 &&& (2147483647 : Int32)) % (15 : Int32)))), .val (.int (own_max ((p0 &&& (2147483647 : Int32)) % (15 : Int32)))), .val (.int (0 : Int32)), .val (.int (p2.toInt16.toInt32)), .val (.int (m0_0 p0 p1 p2 p3))] [(.int (0 : Int32))])) (fun t kt => ?_) ?_
      · show Steps p.tables e below (T69.setTop (mkF m 270 #[.val (.int p0), .val (.int p1), .val (.int p2), .val (.int p3), .val (.ref b1), .val (.ref b32), .val (.int ((p0 &&& (2147483647 : Int32)) % (15 : Int32))), .val (.ref (f1 ((p0 &&& (2147483647 : Int32)) % (15 : Int32)) w_PRODUCE w_FETCH w_LIST_OFFSETS w_METADATA w_OFFSET_COMMIT w_OFFSET_FETCH w_FIND_COORDINATOR w_JOIN_GROUP w_HEARTBEAT w_LEAVE_GROUP w_SYNC_GROUP w_DESCRIBE_GROUPS w_LIST_GROUPS w_API_VERSIONS w_CREATE_TOPICS)), .val (.int (own_min ((p0 &&& (2147483647 : Int32)) % (15 : Int32)))), .val (.int (own_max ((p0 &&& (2147483647 : Int32)) % (15 : Int32)))), .val (.int (0 : Int32)), .val (.int (p2.toInt16.toInt32)), .val (.int (m0_0 p0 p1 p2 p3))] [(.int (m0_0 p0 p1 p2 p3)), (.int (f2 (p2.toInt16.toInt32) (own_min ((p0 &&& (2147483647 : Int32)) % (15 : Int32))) (own_max ((p0 &&& (2147483647 : Int32)) % (15 : Int32)))))])) _
        refine XS.icmpYes X69.here hx rfl (pc0 := 270) (pc' := 277) rfl (hb hby at_270) rfl (feq hc270_70).2 (by decide) (by decide) ?_
        show Steps p.tables e below (T69.setTop (mkF m 277 #[.val (.int p0), .val (.int p1), .val (.int p2), .val (.int p3), .val (.ref b1), .val (.ref b32), .val (.int ((p0 &&& (2147483647 : Int32)) % (15 : Int32))), .val (.ref (f1 ((p0 &&& (2147483647 : Int32)) % (15 : Int32)) w_PRODUCE w_FETCH w_LIST_OFFSETS w_METADATA w_OFFSET_COMMIT w_OFFSET_FETCH w_FIND_COORDINATOR w_JOIN_GROUP w_HEARTBEAT w_LEAVE_GROUP w_SYNC_GROUP w_DESCRIBE_GROUPS w_LIST_GROUPS w_API_VERSIONS w_CREATE_TOPICS)), .val (.int (own_min ((p0 &&& (2147483647 : Int32)) % (15 : Int32)))), .val (.int (own_max ((p0 &&& (2147483647 : Int32)) % (15 : Int32)))), .val (.int (0 : Int32)), .val (.int (p2.toInt16.toInt32)), .val (.int (m0_0 p0 p1 p2 p3))] [])) _
        refine XS.iconst X69.here hx rfl (hb hby at_277) ?_
        exact kt
      obtain ⟨fs, hr, hrun, hended, hW, hsame⟩ := X69.leave (v := some (.int (0 : Int32))) (fun h => by rw [Bd.returns] at h; cases h) (BodyLoose.notSynchronized Bd)
      refine ⟨_, _, ?_, hrun, hended, _, _, rfl, ?_, ⟨_, rfl⟩, hW, hsame.mono (by decide) (by decide)⟩
      · show Steps p.tables e below (T69.setTop (mkF m 278 #[.val (.int p0), .val (.int p1), .val (.int p2), .val (.int p3), .val (.ref b1), .val (.ref b32), .val (.int ((p0 &&& (2147483647 : Int32)) % (15 : Int32))), .val (.ref (f1 ((p0 &&& (2147483647 : Int32)) % (15 : Int32)) w_PRODUCE w_FETCH w_LIST_OFFSETS w_METADATA w_OFFSET_COMMIT w_OFFSET_FETCH w_FIND_COORDINATOR w_JOIN_GROUP w_HEARTBEAT w_LEAVE_GROUP w_SYNC_GROUP w_DESCRIBE_GROUPS w_LIST_GROUPS w_API_VERSIONS w_CREATE_TOPICS)), .val (.int (own_min ((p0 &&& (2147483647 : Int32)) % (15 : Int32)))), .val (.int (own_max ((p0 &&& (2147483647 : Int32)) % (15 : Int32)))), .val (.int (0 : Int32)), .val (.int (p2.toInt16.toInt32)), .val (.int (m0_0 p0 p1 p2 p3))] [(.int (0 : Int32))])) _
        exact retN X69 hx (t := .boolean) Bd.returns (by simp) (hb hby at_278) hr
      · show Q0 Z p0 p1 p2 p3 w_PRODUCE w_FETCH w_LIST_OFFSETS w_METADATA w_OFFSET_COMMIT w_OFFSET_FETCH w_FIND_COORDINATOR w_JOIN_GROUP w_HEARTBEAT w_LEAVE_GROUP w_SYNC_GROUP w_DESCRIBE_GROUPS w_LIST_GROUPS w_API_VERSIONS w_CREATE_TOPICS h0 n0 _ T69.heap _
        rw [e69]
        exact ⟨by rw [show f0 p0 p1 p2 p3 = (0 : Int32) from by unfold f0; rw [if_pos hc186_66, if_neg hc270_70]], N69⟩
  · refine own_back (b := T63.setTop (mkF m 236 #[.val (.int p0), .val (.int p1), .val (.int p2), .val (.int p3), .val (.ref b1), .val (.ref b32), .val (.int ((p0 &&& (2147483647 : Int32)) % (15 : Int32))), .val (.ref (f1 ((p0 &&& (2147483647 : Int32)) % (15 : Int32)) w_PRODUCE w_FETCH w_LIST_OFFSETS w_METADATA w_OFFSET_COMMIT w_OFFSET_FETCH w_FIND_COORDINATOR w_JOIN_GROUP w_HEARTBEAT w_LEAVE_GROUP w_SYNC_GROUP w_DESCRIBE_GROUPS w_LIST_GROUPS w_API_VERSIONS w_CREATE_TOPICS)), .val (.int (own_min ((p0 &&& (2147483647 : Int32)) % (15 : Int32)))), .val (.int (own_max ((p0 &&& (2147483647 : Int32)) % (15 : Int32)))), .val (.int (1 : Int32)), .val (.int ((((own_min ((p0 &&& (2147483647 : Int32)) % (15 : Int32))) - (1 : Int32)) + ((p3 &&& (2147483647 : Int32)) % (((own_max ((p0 &&& (2147483647 : Int32)) % (15 : Int32))) - (own_min ((p0 &&& (2147483647 : Int32)) % (15 : Int32)))) + (3 : Int32)))).toInt16.toInt32)), .val (.int (((own_max ((p0 &&& (2147483647 : Int32)) % (15 : Int32))) - (own_min ((p0 &&& (2147483647 : Int32)) % (15 : Int32)))) + (3 : Int32)))] [(.int (own_min ((p0 &&& (2147483647 : Int32)) % (15 : Int32)))), (.int ((((own_min ((p0 &&& (2147483647 : Int32)) % (15 : Int32))) - (1 : Int32)) + ((p3 &&& (2147483647 : Int32)) % (((own_max ((p0 &&& (2147483647 : Int32)) % (15 : Int32))) - (own_min ((p0 &&& (2147483647 : Int32)) % (15 : Int32)))) + (3 : Int32)))).toInt16.toInt32))])) (fun t kt => ?_) ?_
    · show Steps p.tables e below (T63.setTop (mkF m 186 #[.val (.int p0), .val (.int p1), .val (.int p2), .val (.int p3), .val (.ref b1), .val (.ref b32), .val (.int ((p0 &&& (2147483647 : Int32)) % (15 : Int32))), .val (.ref (f1 ((p0 &&& (2147483647 : Int32)) % (15 : Int32)) w_PRODUCE w_FETCH w_LIST_OFFSETS w_METADATA w_OFFSET_COMMIT w_OFFSET_FETCH w_FIND_COORDINATOR w_JOIN_GROUP w_HEARTBEAT w_LEAVE_GROUP w_SYNC_GROUP w_DESCRIBE_GROUPS w_LIST_GROUPS w_API_VERSIONS w_CREATE_TOPICS)), .val (.int (own_min ((p0 &&& (2147483647 : Int32)) % (15 : Int32)))), .val (.int (own_max ((p0 &&& (2147483647 : Int32)) % (15 : Int32)))), .unset, .unset, .unset] [(.int (p1 &&& (1 : Int32)))])) _
      refine XS.ifNo X63.here hx rfl (hb hby at_186) rfl ((if0 _ _).trans (feq hc186_66).1) ?_
      show Steps p.tables e below (T63.setTop (mkF m 189 #[.val (.int p0), .val (.int p1), .val (.int p2), .val (.int p3), .val (.ref b1), .val (.ref b32), .val (.int ((p0 &&& (2147483647 : Int32)) % (15 : Int32))), .val (.ref (f1 ((p0 &&& (2147483647 : Int32)) % (15 : Int32)) w_PRODUCE w_FETCH w_LIST_OFFSETS w_METADATA w_OFFSET_COMMIT w_OFFSET_FETCH w_FIND_COORDINATOR w_JOIN_GROUP w_HEARTBEAT w_LEAVE_GROUP w_SYNC_GROUP w_DESCRIBE_GROUPS w_LIST_GROUPS w_API_VERSIONS w_CREATE_TOPICS)), .val (.int (own_min ((p0 &&& (2147483647 : Int32)) % (15 : Int32)))), .val (.int (own_max ((p0 &&& (2147483647 : Int32)) % (15 : Int32)))), .unset, .unset, .unset] [])) _
      refine XS.iconst X63.here hx rfl (hb hby at_189) ?_
      show Steps p.tables e below (T63.setTop (mkF m 190 #[.val (.int p0), .val (.int p1), .val (.int p2), .val (.int p3), .val (.ref b1), .val (.ref b32), .val (.int ((p0 &&& (2147483647 : Int32)) % (15 : Int32))), .val (.ref (f1 ((p0 &&& (2147483647 : Int32)) % (15 : Int32)) w_PRODUCE w_FETCH w_LIST_OFFSETS w_METADATA w_OFFSET_COMMIT w_OFFSET_FETCH w_FIND_COORDINATOR w_JOIN_GROUP w_HEARTBEAT w_LEAVE_GROUP w_SYNC_GROUP w_DESCRIBE_GROUPS w_LIST_GROUPS w_API_VERSIONS w_CREATE_TOPICS)), .val (.int (own_min ((p0 &&& (2147483647 : Int32)) % (15 : Int32)))), .val (.int (own_max ((p0 &&& (2147483647 : Int32)) % (15 : Int32)))), .unset, .unset, .unset] [(.int (1 : Int32))])) _
      refine XS.goto X63.here hx rfl (pc0 := 190) (pc' := 194) rfl (hb hby at_190) (by decide) (by decide) ?_
      show Steps p.tables e below (T63.setTop (mkF m 194 #[.val (.int p0), .val (.int p1), .val (.int p2), .val (.int p3), .val (.ref b1), .val (.ref b32), .val (.int ((p0 &&& (2147483647 : Int32)) % (15 : Int32))), .val (.ref (f1 ((p0 &&& (2147483647 : Int32)) % (15 : Int32)) w_PRODUCE w_FETCH w_LIST_OFFSETS w_METADATA w_OFFSET_COMMIT w_OFFSET_FETCH w_FIND_COORDINATOR w_JOIN_GROUP w_HEARTBEAT w_LEAVE_GROUP w_SYNC_GROUP w_DESCRIBE_GROUPS w_LIST_GROUPS w_API_VERSIONS w_CREATE_TOPICS)), .val (.int (own_min ((p0 &&& (2147483647 : Int32)) % (15 : Int32)))), .val (.int (own_max ((p0 &&& (2147483647 : Int32)) % (15 : Int32)))), .unset, .unset, .unset] [(.int (1 : Int32))])) _
      refine XS.istore X63.here hx rfl (hb hby at_194) rfl (l' := #[.val (.int p0), .val (.int p1), .val (.int p2), .val (.int p3), .val (.ref b1), .val (.ref b32), .val (.int ((p0 &&& (2147483647 : Int32)) % (15 : Int32))), .val (.ref (f1 ((p0 &&& (2147483647 : Int32)) % (15 : Int32)) w_PRODUCE w_FETCH w_LIST_OFFSETS w_METADATA w_OFFSET_COMMIT w_OFFSET_FETCH w_FIND_COORDINATOR w_JOIN_GROUP w_HEARTBEAT w_LEAVE_GROUP w_SYNC_GROUP w_DESCRIBE_GROUPS w_LIST_GROUPS w_API_VERSIONS w_CREATE_TOPICS)), .val (.int (own_min ((p0 &&& (2147483647 : Int32)) % (15 : Int32)))), .val (.int (own_max ((p0 &&& (2147483647 : Int32)) % (15 : Int32)))), .val (.int (1 : Int32)), .unset, .unset]) rfl ?_
      show Steps p.tables e below (T63.setTop (mkF m 196 #[.val (.int p0), .val (.int p1), .val (.int p2), .val (.int p3), .val (.ref b1), .val (.ref b32), .val (.int ((p0 &&& (2147483647 : Int32)) % (15 : Int32))), .val (.ref (f1 ((p0 &&& (2147483647 : Int32)) % (15 : Int32)) w_PRODUCE w_FETCH w_LIST_OFFSETS w_METADATA w_OFFSET_COMMIT w_OFFSET_FETCH w_FIND_COORDINATOR w_JOIN_GROUP w_HEARTBEAT w_LEAVE_GROUP w_SYNC_GROUP w_DESCRIBE_GROUPS w_LIST_GROUPS w_API_VERSIONS w_CREATE_TOPICS)), .val (.int (own_min ((p0 &&& (2147483647 : Int32)) % (15 : Int32)))), .val (.int (own_max ((p0 &&& (2147483647 : Int32)) % (15 : Int32)))), .val (.int (1 : Int32)), .unset, .unset] [])) _
      refine XS.iload X63.here hx rfl (hb hby at_196) rfl ?_
      show Steps p.tables e below (T63.setTop (mkF m 198 #[.val (.int p0), .val (.int p1), .val (.int p2), .val (.int p3), .val (.ref b1), .val (.ref b32), .val (.int ((p0 &&& (2147483647 : Int32)) % (15 : Int32))), .val (.ref (f1 ((p0 &&& (2147483647 : Int32)) % (15 : Int32)) w_PRODUCE w_FETCH w_LIST_OFFSETS w_METADATA w_OFFSET_COMMIT w_OFFSET_FETCH w_FIND_COORDINATOR w_JOIN_GROUP w_HEARTBEAT w_LEAVE_GROUP w_SYNC_GROUP w_DESCRIBE_GROUPS w_LIST_GROUPS w_API_VERSIONS w_CREATE_TOPICS)), .val (.int (own_min ((p0 &&& (2147483647 : Int32)) % (15 : Int32)))), .val (.int (own_max ((p0 &&& (2147483647 : Int32)) % (15 : Int32)))), .val (.int (1 : Int32)), .unset, .unset] [(.int (1 : Int32))])) _
      refine XS.ifNo X63.here hx rfl (hb hby at_198) rfl ((if0 _ _).trans (feq (by decide : ¬ ((1 : Int32) = (0 : Int32)))).1) ?_
      show Steps p.tables e below (T63.setTop (mkF m 201 #[.val (.int p0), .val (.int p1), .val (.int p2), .val (.int p3), .val (.ref b1), .val (.ref b32), .val (.int ((p0 &&& (2147483647 : Int32)) % (15 : Int32))), .val (.ref (f1 ((p0 &&& (2147483647 : Int32)) % (15 : Int32)) w_PRODUCE w_FETCH w_LIST_OFFSETS w_METADATA w_OFFSET_COMMIT w_OFFSET_FETCH w_FIND_COORDINATOR w_JOIN_GROUP w_HEARTBEAT w_LEAVE_GROUP w_SYNC_GROUP w_DESCRIBE_GROUPS w_LIST_GROUPS w_API_VERSIONS w_CREATE_TOPICS)), .val (.int (own_min ((p0 &&& (2147483647 : Int32)) % (15 : Int32)))), .val (.int (own_max ((p0 &&& (2147483647 : Int32)) % (15 : Int32)))), .val (.int (1 : Int32)), .unset, .unset] [])) _
      refine XS.iload X63.here hx rfl (hb hby at_201) rfl ?_
      show Steps p.tables e below (T63.setTop (mkF m 203 #[.val (.int p0), .val (.int p1), .val (.int p2), .val (.int p3), .val (.ref b1), .val (.ref b32), .val (.int ((p0 &&& (2147483647 : Int32)) % (15 : Int32))), .val (.ref (f1 ((p0 &&& (2147483647 : Int32)) % (15 : Int32)) w_PRODUCE w_FETCH w_LIST_OFFSETS w_METADATA w_OFFSET_COMMIT w_OFFSET_FETCH w_FIND_COORDINATOR w_JOIN_GROUP w_HEARTBEAT w_LEAVE_GROUP w_SYNC_GROUP w_DESCRIBE_GROUPS w_LIST_GROUPS w_API_VERSIONS w_CREATE_TOPICS)), .val (.int (own_min ((p0 &&& (2147483647 : Int32)) % (15 : Int32)))), .val (.int (own_max ((p0 &&& (2147483647 : Int32)) % (15 : Int32)))), .val (.int (1 : Int32)), .unset, .unset] [(.int (own_max ((p0 &&& (2147483647 : Int32)) % (15 : Int32))))])) _
      refine XS.iload X63.here hx rfl (hb hby at_203) rfl ?_
      show Steps p.tables e below (T63.setTop (mkF m 205 #[.val (.int p0), .val (.int p1), .val (.int p2), .val (.int p3), .val (.ref b1), .val (.ref b32), .val (.int ((p0 &&& (2147483647 : Int32)) % (15 : Int32))), .val (.ref (f1 ((p0 &&& (2147483647 : Int32)) % (15 : Int32)) w_PRODUCE w_FETCH w_LIST_OFFSETS w_METADATA w_OFFSET_COMMIT w_OFFSET_FETCH w_FIND_COORDINATOR w_JOIN_GROUP w_HEARTBEAT w_LEAVE_GROUP w_SYNC_GROUP w_DESCRIBE_GROUPS w_LIST_GROUPS w_API_VERSIONS w_CREATE_TOPICS)), .val (.int (own_min ((p0 &&& (2147483647 : Int32)) % (15 : Int32)))), .val (.int (own_max ((p0 &&& (2147483647 : Int32)) % (15 : Int32)))), .val (.int (1 : Int32)), .unset, .unset] [(.int (own_min ((p0 &&& (2147483647 : Int32)) % (15 : Int32)))), (.int (own_max ((p0 &&& (2147483647 : Int32)) % (15 : Int32))))])) _
      refine XS.isub X63.here hx rfl (hb hby at_205) rfl ?_
      show Steps p.tables e below (T63.setTop (mkF m 206 #[.val (.int p0), .val (.int p1), .val (.int p2), .val (.int p3), .val (.ref b1), .val (.ref b32), .val (.int ((p0 &&& (2147483647 : Int32)) % (15 : Int32))), .val (.ref (f1 ((p0 &&& (2147483647 : Int32)) % (15 : Int32)) w_PRODUCE w_FETCH w_LIST_OFFSETS w_METADATA w_OFFSET_COMMIT w_OFFSET_FETCH w_FIND_COORDINATOR w_JOIN_GROUP w_HEARTBEAT w_LEAVE_GROUP w_SYNC_GROUP w_DESCRIBE_GROUPS w_LIST_GROUPS w_API_VERSIONS w_CREATE_TOPICS)), .val (.int (own_min ((p0 &&& (2147483647 : Int32)) % (15 : Int32)))), .val (.int (own_max ((p0 &&& (2147483647 : Int32)) % (15 : Int32)))), .val (.int (1 : Int32)), .unset, .unset] [(.int ((own_max ((p0 &&& (2147483647 : Int32)) % (15 : Int32))) - (own_min ((p0 &&& (2147483647 : Int32)) % (15 : Int32)))))])) _
      refine XS.iconst X63.here hx rfl (hb hby at_206) ?_
      show Steps p.tables e below (T63.setTop (mkF m 207 #[.val (.int p0), .val (.int p1), .val (.int p2), .val (.int p3), .val (.ref b1), .val (.ref b32), .val (.int ((p0 &&& (2147483647 : Int32)) % (15 : Int32))), .val (.ref (f1 ((p0 &&& (2147483647 : Int32)) % (15 : Int32)) w_PRODUCE w_FETCH w_LIST_OFFSETS w_METADATA w_OFFSET_COMMIT w_OFFSET_FETCH w_FIND_COORDINATOR w_JOIN_GROUP w_HEARTBEAT w_LEAVE_GROUP w_SYNC_GROUP w_DESCRIBE_GROUPS w_LIST_GROUPS w_API_VERSIONS w_CREATE_TOPICS)), .val (.int (own_min ((p0 &&& (2147483647 : Int32)) % (15 : Int32)))), .val (.int (own_max ((p0 &&& (2147483647 : Int32)) % (15 : Int32)))), .val (.int (1 : Int32)), .unset, .unset] [(.int (3 : Int32)), (.int ((own_max ((p0 &&& (2147483647 : Int32)) % (15 : Int32))) - (own_min ((p0 &&& (2147483647 : Int32)) % (15 : Int32)))))])) _
      refine XS.iadd X63.here hx rfl (hb hby at_207) rfl ?_
      show Steps p.tables e below (T63.setTop (mkF m 208 #[.val (.int p0), .val (.int p1), .val (.int p2), .val (.int p3), .val (.ref b1), .val (.ref b32), .val (.int ((p0 &&& (2147483647 : Int32)) % (15 : Int32))), .val (.ref (f1 ((p0 &&& (2147483647 : Int32)) % (15 : Int32)) w_PRODUCE w_FETCH w_LIST_OFFSETS w_METADATA w_OFFSET_COMMIT w_OFFSET_FETCH w_FIND_COORDINATOR w_JOIN_GROUP w_HEARTBEAT w_LEAVE_GROUP w_SYNC_GROUP w_DESCRIBE_GROUPS w_LIST_GROUPS w_API_VERSIONS w_CREATE_TOPICS)), .val (.int (own_min ((p0 &&& (2147483647 : Int32)) % (15 : Int32)))), .val (.int (own_max ((p0 &&& (2147483647 : Int32)) % (15 : Int32)))), .val (.int (1 : Int32)), .unset, .unset] [(.int (((own_max ((p0 &&& (2147483647 : Int32)) % (15 : Int32))) - (own_min ((p0 &&& (2147483647 : Int32)) % (15 : Int32)))) + (3 : Int32)))])) _
      refine XS.istore X63.here hx rfl (hb hby at_208) rfl (l' := #[.val (.int p0), .val (.int p1), .val (.int p2), .val (.int p3), .val (.ref b1), .val (.ref b32), .val (.int ((p0 &&& (2147483647 : Int32)) % (15 : Int32))), .val (.ref (f1 ((p0 &&& (2147483647 : Int32)) % (15 : Int32)) w_PRODUCE w_FETCH w_LIST_OFFSETS w_METADATA w_OFFSET_COMMIT w_OFFSET_FETCH w_FIND_COORDINATOR w_JOIN_GROUP w_HEARTBEAT w_LEAVE_GROUP w_SYNC_GROUP w_DESCRIBE_GROUPS w_LIST_GROUPS w_API_VERSIONS w_CREATE_TOPICS)), .val (.int (own_min ((p0 &&& (2147483647 : Int32)) % (15 : Int32)))), .val (.int (own_max ((p0 &&& (2147483647 : Int32)) % (15 : Int32)))), .val (.int (1 : Int32)), .unset, .val (.int (((own_max ((p0 &&& (2147483647 : Int32)) % (15 : Int32))) - (own_min ((p0 &&& (2147483647 : Int32)) % (15 : Int32)))) + (3 : Int32)))]) rfl ?_
      show Steps p.tables e below (T63.setTop (mkF m 210 #[.val (.int p0), .val (.int p1), .val (.int p2), .val (.int p3), .val (.ref b1), .val (.ref b32), .val (.int ((p0 &&& (2147483647 : Int32)) % (15 : Int32))), .val (.ref (f1 ((p0 &&& (2147483647 : Int32)) % (15 : Int32)) w_PRODUCE w_FETCH w_LIST_OFFSETS w_METADATA w_OFFSET_COMMIT w_OFFSET_FETCH w_FIND_COORDINATOR w_JOIN_GROUP w_HEARTBEAT w_LEAVE_GROUP w_SYNC_GROUP w_DESCRIBE_GROUPS w_LIST_GROUPS w_API_VERSIONS w_CREATE_TOPICS)), .val (.int (own_min ((p0 &&& (2147483647 : Int32)) % (15 : Int32)))), .val (.int (own_max ((p0 &&& (2147483647 : Int32)) % (15 : Int32)))), .val (.int (1 : Int32)), .unset, .val (.int (((own_max ((p0 &&& (2147483647 : Int32)) % (15 : Int32))) - (own_min ((p0 &&& (2147483647 : Int32)) % (15 : Int32)))) + (3 : Int32)))] [])) _
      refine XS.iload X63.here hx rfl (hb hby at_210) rfl ?_
      show Steps p.tables e below (T63.setTop (mkF m 212 #[.val (.int p0), .val (.int p1), .val (.int p2), .val (.int p3), .val (.ref b1), .val (.ref b32), .val (.int ((p0 &&& (2147483647 : Int32)) % (15 : Int32))), .val (.ref (f1 ((p0 &&& (2147483647 : Int32)) % (15 : Int32)) w_PRODUCE w_FETCH w_LIST_OFFSETS w_METADATA w_OFFSET_COMMIT w_OFFSET_FETCH w_FIND_COORDINATOR w_JOIN_GROUP w_HEARTBEAT w_LEAVE_GROUP w_SYNC_GROUP w_DESCRIBE_GROUPS w_LIST_GROUPS w_API_VERSIONS w_CREATE_TOPICS)), .val (.int (own_min ((p0 &&& (2147483647 : Int32)) % (15 : Int32)))), .val (.int (own_max ((p0 &&& (2147483647 : Int32)) % (15 : Int32)))), .val (.int (1 : Int32)), .unset, .val (.int (((own_max ((p0 &&& (2147483647 : Int32)) % (15 : Int32))) - (own_min ((p0 &&& (2147483647 : Int32)) % (15 : Int32)))) + (3 : Int32)))] [(.int (own_min ((p0 &&& (2147483647 : Int32)) % (15 : Int32))))])) _
      refine XS.iconst X63.here hx rfl (hb hby at_212) ?_
      show Steps p.tables e below (T63.setTop (mkF m 213 #[.val (.int p0), .val (.int p1), .val (.int p2), .val (.int p3), .val (.ref b1), .val (.ref b32), .val (.int ((p0 &&& (2147483647 : Int32)) % (15 : Int32))), .val (.ref (f1 ((p0 &&& (2147483647 : Int32)) % (15 : Int32)) w_PRODUCE w_FETCH w_LIST_OFFSETS w_METADATA w_OFFSET_COMMIT w_OFFSET_FETCH w_FIND_COORDINATOR w_JOIN_GROUP w_HEARTBEAT w_LEAVE_GROUP w_SYNC_GROUP w_DESCRIBE_GROUPS w_LIST_GROUPS w_API_VERSIONS w_CREATE_TOPICS)), .val (.int (own_min ((p0 &&& (2147483647 : Int32)) % (15 : Int32)))), .val (.int (own_max ((p0 &&& (2147483647 : Int32)) % (15 : Int32)))), .val (.int (1 : Int32)), .unset, .val (.int (((own_max ((p0 &&& (2147483647 : Int32)) % (15 : Int32))) - (own_min ((p0 &&& (2147483647 : Int32)) % (15 : Int32)))) + (3 : Int32)))] [(.int (1 : Int32)), (.int (own_min ((p0 &&& (2147483647 : Int32)) % (15 : Int32))))])) _
      refine XS.isub X63.here hx rfl (hb hby at_213) rfl ?_
      show Steps p.tables e below (T63.setTop (mkF m 214 #[.val (.int p0), .val (.int p1), .val (.int p2), .val (.int p3), .val (.ref b1), .val (.ref b32), .val (.int ((p0 &&& (2147483647 : Int32)) % (15 : Int32))), .val (.ref (f1 ((p0 &&& (2147483647 : Int32)) % (15 : Int32)) w_PRODUCE w_FETCH w_LIST_OFFSETS w_METADATA w_OFFSET_COMMIT w_OFFSET_FETCH w_FIND_COORDINATOR w_JOIN_GROUP w_HEARTBEAT w_LEAVE_GROUP w_SYNC_GROUP w_DESCRIBE_GROUPS w_LIST_GROUPS w_API_VERSIONS w_CREATE_TOPICS)), .val (.int (own_min ((p0 &&& (2147483647 : Int32)) % (15 : Int32)))), .val (.int (own_max ((p0 &&& (2147483647 : Int32)) % (15 : Int32)))), .val (.int (1 : Int32)), .unset, .val (.int (((own_max ((p0 &&& (2147483647 : Int32)) % (15 : Int32))) - (own_min ((p0 &&& (2147483647 : Int32)) % (15 : Int32)))) + (3 : Int32)))] [(.int ((own_min ((p0 &&& (2147483647 : Int32)) % (15 : Int32))) - (1 : Int32)))])) _
      refine XS.iloadN X63.here hx rfl (hb hby at_214) rfl ?_
      show Steps p.tables e below (T63.setTop (mkF m 215 #[.val (.int p0), .val (.int p1), .val (.int p2), .val (.int p3), .val (.ref b1), .val (.ref b32), .val (.int ((p0 &&& (2147483647 : Int32)) % (15 : Int32))), .val (.ref (f1 ((p0 &&& (2147483647 : Int32)) % (15 : Int32)) w_PRODUCE w_FETCH w_LIST_OFFSETS w_METADATA w_OFFSET_COMMIT w_OFFSET_FETCH w_FIND_COORDINATOR w_JOIN_GROUP w_HEARTBEAT w_LEAVE_GROUP w_SYNC_GROUP w_DESCRIBE_GROUPS w_LIST_GROUPS w_API_VERSIONS w_CREATE_TOPICS)), .val (.int (own_min ((p0 &&& (2147483647 : Int32)) % (15 : Int32)))), .val (.int (own_max ((p0 &&& (2147483647 : Int32)) % (15 : Int32)))), .val (.int (1 : Int32)), .unset, .val (.int (((own_max ((p0 &&& (2147483647 : Int32)) % (15 : Int32))) - (own_min ((p0 &&& (2147483647 : Int32)) % (15 : Int32)))) + (3 : Int32)))] [(.int p3), (.int ((own_min ((p0 &&& (2147483647 : Int32)) % (15 : Int32))) - (1 : Int32)))])) _
      refine X63.ldcInt hx hown (mvT hZ (hw _ (List.mem_of_getElem? (i := 1) rfl))) (g := (mkF m 215 #[.val (.int p0), .val (.int p1), .val (.int p2), .val (.int p3), .val (.ref b1), .val (.ref b32), .val (.int ((p0 &&& (2147483647 : Int32)) % (15 : Int32))), .val (.ref (f1 ((p0 &&& (2147483647 : Int32)) % (15 : Int32)) w_PRODUCE w_FETCH w_LIST_OFFSETS w_METADATA w_OFFSET_COMMIT w_OFFSET_FETCH w_FIND_COORDINATOR w_JOIN_GROUP w_HEARTBEAT w_LEAVE_GROUP w_SYNC_GROUP w_DESCRIBE_GROUPS w_LIST_GROUPS w_API_VERSIONS w_CREATE_TOPICS)), .val (.int (own_min ((p0 &&& (2147483647 : Int32)) % (15 : Int32)))), .val (.int (own_max ((p0 &&& (2147483647 : Int32)) % (15 : Int32)))), .val (.int (1 : Int32)), .unset, .val (.int (((own_max ((p0 &&& (2147483647 : Int32)) % (15 : Int32))) - (own_min ((p0 &&& (2147483647 : Int32)) % (15 : Int32)))) + (3 : Int32)))] [(.int p3), (.int ((own_min ((p0 &&& (2147483647 : Int32)) % (15 : Int32))) - (1 : Int32)))])) rfl (hb hby at_215) _ ?_
      show Steps p.tables e below (T63.setTop (mkF m 217 #[.val (.int p0), .val (.int p1), .val (.int p2), .val (.int p3), .val (.ref b1), .val (.ref b32), .val (.int ((p0 &&& (2147483647 : Int32)) % (15 : Int32))), .val (.ref (f1 ((p0 &&& (2147483647 : Int32)) % (15 : Int32)) w_PRODUCE w_FETCH w_LIST_OFFSETS w_METADATA w_OFFSET_COMMIT w_OFFSET_FETCH w_FIND_COORDINATOR w_JOIN_GROUP w_HEARTBEAT w_LEAVE_GROUP w_SYNC_GROUP w_DESCRIBE_GROUPS w_LIST_GROUPS w_API_VERSIONS w_CREATE_TOPICS)), .val (.int (own_min ((p0 &&& (2147483647 : Int32)) % (15 : Int32)))), .val (.int (own_max ((p0 &&& (2147483647 : Int32)) % (15 : Int32)))), .val (.int (1 : Int32)), .unset, .val (.int (((own_max ((p0 &&& (2147483647 : Int32)) % (15 : Int32))) - (own_min ((p0 &&& (2147483647 : Int32)) % (15 : Int32)))) + (3 : Int32)))] [(.int (2147483647 : Int32)), (.int p3), (.int ((own_min ((p0 &&& (2147483647 : Int32)) % (15 : Int32))) - (1 : Int32)))])) _
      refine XS.iand X63.here hx rfl (hb hby at_217) rfl ?_
      show Steps p.tables e below (T63.setTop (mkF m 218 #[.val (.int p0), .val (.int p1), .val (.int p2), .val (.int p3), .val (.ref b1), .val (.ref b32), .val (.int ((p0 &&& (2147483647 : Int32)) % (15 : Int32))), .val (.ref (f1 ((p0 &&& (2147483647 : Int32)) % (15 : Int32)) w_PRODUCE w_FETCH w_LIST_OFFSETS w_METADATA w_OFFSET_COMMIT w_OFFSET_FETCH w_FIND_COORDINATOR w_JOIN_GROUP w_HEARTBEAT w_LEAVE_GROUP w_SYNC_GROUP w_DESCRIBE_GROUPS w_LIST_GROUPS w_API_VERSIONS w_CREATE_TOPICS)), .val (.int (own_min ((p0 &&& (2147483647 : Int32)) % (15 : Int32)))), .val (.int (own_max ((p0 &&& (2147483647 : Int32)) % (15 : Int32)))), .val (.int (1 : Int32)), .unset, .val (.int (((own_max ((p0 &&& (2147483647 : Int32)) % (15 : Int32))) - (own_min ((p0 &&& (2147483647 : Int32)) % (15 : Int32)))) + (3 : Int32)))] [(.int (p3 &&& (2147483647 : Int32))), (.int ((own_min ((p0 &&& (2147483647 : Int32)) % (15 : Int32))) - (1 : Int32)))])) _
      refine XS.iload X63.here hx rfl (hb hby at_218) rfl ?_
      show Steps p.tables e below (T63.setTop (mkF m 220 #[.val (.int p0), .val (.int p1), .val (.int p2), .val (.int p3), .val (.ref b1), .val (.ref b32), .val (.int ((p0 &&& (2147483647 : Int32)) % (15 : Int32))), .val (.ref (f1 ((p0 &&& (2147483647 : Int32)) % (15 : Int32)) w_PRODUCE w_FETCH w_LIST_OFFSETS w_METADATA w_OFFSET_COMMIT w_OFFSET_FETCH w_FIND_COORDINATOR w_JOIN_GROUP w_HEARTBEAT w_LEAVE_GROUP w_SYNC_GROUP w_DESCRIBE_GROUPS w_LIST_GROUPS w_API_VERSIONS w_CREATE_TOPICS)), .val (.int (own_min ((p0 &&& (2147483647 : Int32)) % (15 : Int32)))), .val (.int (own_max ((p0 &&& (2147483647 : Int32)) % (15 : Int32)))), .val (.int (1 : Int32)), .unset, .val (.int (((own_max ((p0 &&& (2147483647 : Int32)) % (15 : Int32))) - (own_min ((p0 &&& (2147483647 : Int32)) % (15 : Int32)))) + (3 : Int32)))] [(.int (((own_max ((p0 &&& (2147483647 : Int32)) % (15 : Int32))) - (own_min ((p0 &&& (2147483647 : Int32)) % (15 : Int32)))) + (3 : Int32))), (.int (p3 &&& (2147483647 : Int32))), (.int ((own_min ((p0 &&& (2147483647 : Int32)) % (15 : Int32))) - (1 : Int32)))])) _
      refine iremM X63 hx rfl (hb hby at_220) rfl (own_span _ (own_k p0)) ?_
      show Steps p.tables e below (T63.setTop (mkF m 221 #[.val (.int p0), .val (.int p1), .val (.int p2), .val (.int p3), .val (.ref b1), .val (.ref b32), .val (.int ((p0 &&& (2147483647 : Int32)) % (15 : Int32))), .val (.ref (f1 ((p0 &&& (2147483647 : Int32)) % (15 : Int32)) w_PRODUCE w_FETCH w_LIST_OFFSETS w_METADATA w_OFFSET_COMMIT w_OFFSET_FETCH w_FIND_COORDINATOR w_JOIN_GROUP w_HEARTBEAT w_LEAVE_GROUP w_SYNC_GROUP w_DESCRIBE_GROUPS w_LIST_GROUPS w_API_VERSIONS w_CREATE_TOPICS)), .val (.int (own_min ((p0 &&& (2147483647 : Int32)) % (15 : Int32)))), .val (.int (own_max ((p0 &&& (2147483647 : Int32)) % (15 : Int32)))), .val (.int (1 : Int32)), .unset, .val (.int (((own_max ((p0 &&& (2147483647 : Int32)) % (15 : Int32))) - (own_min ((p0 &&& (2147483647 : Int32)) % (15 : Int32)))) + (3 : Int32)))] [(.int ((p3 &&& (2147483647 : Int32)) % (((own_max ((p0 &&& (2147483647 : Int32)) % (15 : Int32))) - (own_min ((p0 &&& (2147483647 : Int32)) % (15 : Int32)))) + (3 : Int32)))), (.int ((own_min ((p0 &&& (2147483647 : Int32)) % (15 : Int32))) - (1 : Int32)))])) _
      refine XS.iadd X63.here hx rfl (hb hby at_221) rfl ?_
      show Steps p.tables e below (T63.setTop (mkF m 222 #[.val (.int p0), .val (.int p1), .val (.int p2), .val (.int p3), .val (.ref b1), .val (.ref b32), .val (.int ((p0 &&& (2147483647 : Int32)) % (15 : Int32))), .val (.ref (f1 ((p0 &&& (2147483647 : Int32)) % (15 : Int32)) w_PRODUCE w_FETCH w_LIST_OFFSETS w_METADATA w_OFFSET_COMMIT w_OFFSET_FETCH w_FIND_COORDINATOR w_JOIN_GROUP w_HEARTBEAT w_LEAVE_GROUP w_SYNC_GROUP w_DESCRIBE_GROUPS w_LIST_GROUPS w_API_VERSIONS w_CREATE_TOPICS)), .val (.int (own_min ((p0 &&& (2147483647 : Int32)) % (15 : Int32)))), .val (.int (own_max ((p0 &&& (2147483647 : Int32)) % (15 : Int32)))), .val (.int (1 : Int32)), .unset, .val (.int (((own_max ((p0 &&& (2147483647 : Int32)) % (15 : Int32))) - (own_min ((p0 &&& (2147483647 : Int32)) % (15 : Int32)))) + (3 : Int32)))] [(.int (((own_min ((p0 &&& (2147483647 : Int32)) % (15 : Int32))) - (1 : Int32)) + ((p3 &&& (2147483647 : Int32)) % (((own_max ((p0 &&& (2147483647 : Int32)) % (15 : Int32))) - (own_min ((p0 &&& (2147483647 : Int32)) % (15 : Int32)))) + (3 : Int32)))))])) _
      refine XS.i2s X63.here hx rfl (hb hby at_222) rfl ?_
      show Steps p.tables e below (T63.setTop (mkF m 223 #[.val (.int p0), .val (.int p1), .val (.int p2), .val (.int p3), .val (.ref b1), .val (.ref b32), .val (.int ((p0 &&& (2147483647 : Int32)) % (15 : Int32))), .val (.ref (f1 ((p0 &&& (2147483647 : Int32)) % (15 : Int32)) w_PRODUCE w_FETCH w_LIST_OFFSETS w_METADATA w_OFFSET_COMMIT w_OFFSET_FETCH w_FIND_COORDINATOR w_JOIN_GROUP w_HEARTBEAT w_LEAVE_GROUP w_SYNC_GROUP w_DESCRIBE_GROUPS w_LIST_GROUPS w_API_VERSIONS w_CREATE_TOPICS)), .val (.int (own_min ((p0 &&& (2147483647 : Int32)) % (15 : Int32)))), .val (.int (own_max ((p0 &&& (2147483647 : Int32)) % (15 : Int32)))), .val (.int (1 : Int32)), .unset, .val (.int (((own_max ((p0 &&& (2147483647 : Int32)) % (15 : Int32))) - (own_min ((p0 &&& (2147483647 : Int32)) % (15 : Int32)))) + (3 : Int32)))] [(.int ((((own_min ((p0 &&& (2147483647 : Int32)) % (15 : Int32))) - (1 : Int32)) + ((p3 &&& (2147483647 : Int32)) % (((own_max ((p0 &&& (2147483647 : Int32)) % (15 : Int32))) - (own_min ((p0 &&& (2147483647 : Int32)) % (15 : Int32)))) + (3 : Int32)))).toInt16.toInt32))])) _
      refine XS.istore X63.here hx rfl (hb hby at_223) rfl (l' := #[.val (.int p0), .val (.int p1), .val (.int p2), .val (.int p3), .val (.ref b1), .val (.ref b32), .val (.int ((p0 &&& (2147483647 : Int32)) % (15 : Int32))), .val (.ref (f1 ((p0 &&& (2147483647 : Int32)) % (15 : Int32)) w_PRODUCE w_FETCH w_LIST_OFFSETS w_METADATA w_OFFSET_COMMIT w_OFFSET_FETCH w_FIND_COORDINATOR w_JOIN_GROUP w_HEARTBEAT w_LEAVE_GROUP w_SYNC_GROUP w_DESCRIBE_GROUPS w_LIST_GROUPS w_API_VERSIONS w_CREATE_TOPICS)), .val (.int (own_min ((p0 &&& (2147483647 : Int32)) % (15 : Int32)))), .val (.int (own_max ((p0 &&& (2147483647 : Int32)) % (15 : Int32)))), .val (.int (1 : Int32)), .val (.int ((((own_min ((p0 &&& (2147483647 : Int32)) % (15 : Int32))) - (1 : Int32)) + ((p3 &&& (2147483647 : Int32)) % (((own_max ((p0 &&& (2147483647 : Int32)) % (15 : Int32))) - (own_min ((p0 &&& (2147483647 : Int32)) % (15 : Int32)))) + (3 : Int32)))).toInt16.toInt32)), .val (.int (((own_max ((p0 &&& (2147483647 : Int32)) % (15 : Int32))) - (own_min ((p0 &&& (2147483647 : Int32)) % (15 : Int32)))) + (3 : Int32)))]) rfl ?_
      show Steps p.tables e below (T63.setTop (mkF m 225 #[.val (.int p0), .val (.int p1), .val (.int p2), .val (.int p3), .val (.ref b1), .val (.ref b32), .val (.int ((p0 &&& (2147483647 : Int32)) % (15 : Int32))), .val (.ref (f1 ((p0 &&& (2147483647 : Int32)) % (15 : Int32)) w_PRODUCE w_FETCH w_LIST_OFFSETS w_METADATA w_OFFSET_COMMIT w_OFFSET_FETCH w_FIND_COORDINATOR w_JOIN_GROUP w_HEARTBEAT w_LEAVE_GROUP w_SYNC_GROUP w_DESCRIBE_GROUPS w_LIST_GROUPS w_API_VERSIONS w_CREATE_TOPICS)), .val (.int (own_min ((p0 &&& (2147483647 : Int32)) % (15 : Int32)))), .val (.int (own_max ((p0 &&& (2147483647 : Int32)) % (15 : Int32)))), .val (.int (1 : Int32)), .val (.int ((((own_min ((p0 &&& (2147483647 : Int32)) % (15 : Int32))) - (1 : Int32)) + ((p3 &&& (2147483647 : Int32)) % (((own_max ((p0 &&& (2147483647 : Int32)) % (15 : Int32))) - (own_min ((p0 &&& (2147483647 : Int32)) % (15 : Int32)))) + (3 : Int32)))).toInt16.toInt32)), .val (.int (((own_max ((p0 &&& (2147483647 : Int32)) % (15 : Int32))) - (own_min ((p0 &&& (2147483647 : Int32)) % (15 : Int32)))) + (3 : Int32)))] [])) _
      refine XS.goto X63.here hx rfl (pc0 := 225) (pc' := 232) rfl (hb hby at_225) (by decide) (by decide) ?_
      show Steps p.tables e below (T63.setTop (mkF m 232 #[.val (.int p0), .val (.int p1), .val (.int p2), .val (.int p3), .val (.ref b1), .val (.ref b32), .val (.int ((p0 &&& (2147483647 : Int32)) % (15 : Int32))), .val (.ref (f1 ((p0 &&& (2147483647 : Int32)) % (15 : Int32)) w_PRODUCE w_FETCH w_LIST_OFFSETS w_METADATA w_OFFSET_COMMIT w_OFFSET_FETCH w_FIND_COORDINATOR w_JOIN_GROUP w_HEARTBEAT w_LEAVE_GROUP w_SYNC_GROUP w_DESCRIBE_GROUPS w_LIST_GROUPS w_API_VERSIONS w_CREATE_TOPICS)), .val (.int (own_min ((p0 &&& (2147483647 : Int32)) % (15 : Int32)))), .val (.int (own_max ((p0 &&& (2147483647 : Int32)) % (15 : Int32)))), .val (.int (1 : Int32)), .val (.int ((((own_min ((p0 &&& (2147483647 : Int32)) % (15 : Int32))) - (1 : Int32)) + ((p3 &&& (2147483647 : Int32)) % (((own_max ((p0 &&& (2147483647 : Int32)) % (15 : Int32))) - (own_min ((p0 &&& (2147483647 : Int32)) % (15 : Int32)))) + (3 : Int32)))).toInt16.toInt32)), .val (.int (((own_max ((p0 &&& (2147483647 : Int32)) % (15 : Int32))) - (own_min ((p0 &&& (2147483647 : Int32)) % (15 : Int32)))) + (3 : Int32)))] [])) _
      refine XS.iload X63.here hx rfl (hb hby at_232) rfl ?_
      show Steps p.tables e below (T63.setTop (mkF m 234 #[.val (.int p0), .val (.int p1), .val (.int p2), .val (.int p3), .val (.ref b1), .val (.ref b32), .val (.int ((p0 &&& (2147483647 : Int32)) % (15 : Int32))), .val (.ref (f1 ((p0 &&& (2147483647 : Int32)) % (15 : Int32)) w_PRODUCE w_FETCH w_LIST_OFFSETS w_METADATA w_OFFSET_COMMIT w_OFFSET_FETCH w_FIND_COORDINATOR w_JOIN_GROUP w_HEARTBEAT w_LEAVE_GROUP w_SYNC_GROUP w_DESCRIBE_GROUPS w_LIST_GROUPS w_API_VERSIONS w_CREATE_TOPICS)), .val (.int (own_min ((p0 &&& (2147483647 : Int32)) % (15 : Int32)))), .val (.int (own_max ((p0 &&& (2147483647 : Int32)) % (15 : Int32)))), .val (.int (1 : Int32)), .val (.int ((((own_min ((p0 &&& (2147483647 : Int32)) % (15 : Int32))) - (1 : Int32)) + ((p3 &&& (2147483647 : Int32)) % (((own_max ((p0 &&& (2147483647 : Int32)) % (15 : Int32))) - (own_min ((p0 &&& (2147483647 : Int32)) % (15 : Int32)))) + (3 : Int32)))).toInt16.toInt32)), .val (.int (((own_max ((p0 &&& (2147483647 : Int32)) % (15 : Int32))) - (own_min ((p0 &&& (2147483647 : Int32)) % (15 : Int32)))) + (3 : Int32)))] [(.int ((((own_min ((p0 &&& (2147483647 : Int32)) % (15 : Int32))) - (1 : Int32)) + ((p3 &&& (2147483647 : Int32)) % (((own_max ((p0 &&& (2147483647 : Int32)) % (15 : Int32))) - (own_min ((p0 &&& (2147483647 : Int32)) % (15 : Int32)))) + (3 : Int32)))).toInt16.toInt32))])) _
      refine XS.iload X63.here hx rfl (hb hby at_234) rfl ?_
      exact kt
    refine own_back (b := T63.setTop (mkF m 261 #[.val (.int p0), .val (.int p1), .val (.int p2), .val (.int p3), .val (.ref b1), .val (.ref b32), .val (.int ((p0 &&& (2147483647 : Int32)) % (15 : Int32))), .val (.ref (f1 ((p0 &&& (2147483647 : Int32)) % (15 : Int32)) w_PRODUCE w_FETCH w_LIST_OFFSETS w_METADATA w_OFFSET_COMMIT w_OFFSET_FETCH w_FIND_COORDINATOR w_JOIN_GROUP w_HEARTBEAT w_LEAVE_GROUP w_SYNC_GROUP w_DESCRIBE_GROUPS w_LIST_GROUPS w_API_VERSIONS w_CREATE_TOPICS)), .val (.int (own_min ((p0 &&& (2147483647 : Int32)) % (15 : Int32)))), .val (.int (own_max ((p0 &&& (2147483647 : Int32)) % (15 : Int32)))), .val (.int (1 : Int32)), .val (.int ((((own_min ((p0 &&& (2147483647 : Int32)) % (15 : Int32))) - (1 : Int32)) + ((p3 &&& (2147483647 : Int32)) % (((own_max ((p0 &&& (2147483647 : Int32)) % (15 : Int32))) - (own_min ((p0 &&& (2147483647 : Int32)) % (15 : Int32)))) + (3 : Int32)))).toInt16.toInt32)), .val (.int (m0_1 p0 p1 p2 p3))] [])) (fun t kt => ?_) ?_
    · by_cases hm236_71 : ((((own_min ((p0 &&& (2147483647 : Int32)) % (15 : Int32))) - (1 : Int32)) + ((p3 &&& (2147483647 : Int32)) % (((own_max ((p0 &&& (2147483647 : Int32)) % (15 : Int32))) - (own_min ((p0 &&& (2147483647 : Int32)) % (15 : Int32)))) + (3 : Int32)))).toInt16.toInt32) < (own_min ((p0 &&& (2147483647 : Int32)) % (15 : Int32)))
      · rw [show (m0_1 p0 p1 p2 p3) = (0 : Int32) from by unfold m0_1; rw [if_pos hm236_71]] at kt
        show Steps p.tables e below (T63.setTop (mkF m 236 #[.val (.int p0), .val (.int p1), .val (.int p2), .val (.int p3), .val (.ref b1), .val (.ref b32), .val (.int ((p0 &&& (2147483647 : Int32)) % (15 : Int32))), .val (.ref (f1 ((p0 &&& (2147483647 : Int32)) % (15 : Int32)) w_PRODUCE w_FETCH w_LIST_OFFSETS w_METADATA w_OFFSET_COMMIT w_OFFSET_FETCH w_FIND_COORDINATOR w_JOIN_GROUP w_HEARTBEAT w_LEAVE_GROUP w_SYNC_GROUP w_DESCRIBE_GROUPS w_LIST_GROUPS w_API_VERSIONS w_CREATE_TOPICS)), .val (.int (own_min ((p0 &&& (2147483647 : Int32)) % (15 : Int32)))), .val (.int (own_max ((p0 &&& (2147483647 : Int32)) % (15 : Int32)))), .val (.int (1 : Int32)), .val (.int ((((own_min ((p0 &&& (2147483647 : Int32)) % (15 : Int32))) - (1 : Int32)) + ((p3 &&& (2147483647 : Int32)) % (((own_max ((p0 &&& (2147483647 : Int32)) % (15 : Int32))) - (own_min ((p0 &&& (2147483647 : Int32)) % (15 : Int32)))) + (3 : Int32)))).toInt16.toInt32)), .val (.int (((own_max ((p0 &&& (2147483647 : Int32)) % (15 : Int32))) - (own_min ((p0 &&& (2147483647 : Int32)) % (15 : Int32)))) + (3 : Int32)))] [(.int (own_min ((p0 &&& (2147483647 : Int32)) % (15 : Int32)))), (.int ((((own_min ((p0 &&& (2147483647 : Int32)) % (15 : Int32))) - (1 : Int32)) + ((p3 &&& (2147483647 : Int32)) % (((own_max ((p0 &&& (2147483647 : Int32)) % (15 : Int32))) - (own_min ((p0 &&& (2147483647 : Int32)) % (15 : Int32)))) + (3 : Int32)))).toInt16.toInt32))])) _
        refine XS.icmpNo X63.here hx rfl (hb hby at_236) rfl (tlt hm236_71).2.1 ?_
        show Steps p.tables e below (T63.setTop (mkF m 239 #[.val (.int p0), .val (.int p1), .val (.int p2), .val (.int p3), .val (.ref b1), .val (.ref b32), .val (.int ((p0 &&& (2147483647 : Int32)) % (15 : Int32))), .val (.ref (f1 ((p0 &&& (2147483647 : Int32)) % (15 : Int32)) w_PRODUCE w_FETCH w_LIST_OFFSETS w_METADATA w_OFFSET_COMMIT w_OFFSET_FETCH w_FIND_COORDINATOR w_JOIN_GROUP w_HEARTBEAT w_LEAVE_GROUP w_SYNC_GROUP w_DESCRIBE_GROUPS w_LIST_GROUPS w_API_VERSIONS w_CREATE_TOPICS)), .val (.int (own_min ((p0 &&& (2147483647 : Int32)) % (15 : Int32)))), .val (.int (own_max ((p0 &&& (2147483647 : Int32)) % (15 : Int32)))), .val (.int (1 : Int32)), .val (.int ((((own_min ((p0 &&& (2147483647 : Int32)) % (15 : Int32))) - (1 : Int32)) + ((p3 &&& (2147483647 : Int32)) % (((own_max ((p0 &&& (2147483647 : Int32)) % (15 : Int32))) - (own_min ((p0 &&& (2147483647 : Int32)) % (15 : Int32)))) + (3 : Int32)))).toInt16.toInt32)), .val (.int (((own_max ((p0 &&& (2147483647 : Int32)) % (15 : Int32))) - (own_min ((p0 &&& (2147483647 : Int32)) % (15 : Int32)))) + (3 : Int32)))] [])) _
        refine XS.iconst X63.here hx rfl (hb hby at_239) ?_
        show Steps p.tables e below (T63.setTop (mkF m 240 #[.val (.int p0), .val (.int p1), .val (.int p2), .val (.int p3), .val (.ref b1), .val (.ref b32), .val (.int ((p0 &&& (2147483647 : Int32)) % (15 : Int32))), .val (.ref (f1 ((p0 &&& (2147483647 : Int32)) % (15 : Int32)) w_PRODUCE w_FETCH w_LIST_OFFSETS w_METADATA w_OFFSET_COMMIT w_OFFSET_FETCH w_FIND_COORDINATOR w_JOIN_GROUP w_HEARTBEAT w_LEAVE_GROUP w_SYNC_GROUP w_DESCRIBE_GROUPS w_LIST_GROUPS w_API_VERSIONS w_CREATE_TOPICS)), .val (.int (own_min ((p0 &&& (2147483647 : Int32)) % (15 : Int32)))), .val (.int (own_max ((p0 &&& (2147483647 : Int32)) % (15 : Int32)))), .val (.int (1 : Int32)), .val (.int ((((own_min ((p0 &&& (2147483647 : Int32)) % (15 : Int32))) - (1 : Int32)) + ((p3 &&& (2147483647 : Int32)) % (((own_max ((p0 &&& (2147483647 : Int32)) % (15 : Int32))) - (own_min ((p0 &&& (2147483647 : Int32)) % (15 : Int32)))) + (3 : Int32)))).toInt16.toInt32)), .val (.int (((own_max ((p0 &&& (2147483647 : Int32)) % (15 : Int32))) - (own_min ((p0 &&& (2147483647 : Int32)) % (15 : Int32)))) + (3 : Int32)))] [(.int (0 : Int32))])) _
        refine XS.istore X63.here hx rfl (hb hby at_240) rfl (l' := #[.val (.int p0), .val (.int p1), .val (.int p2), .val (.int p3), .val (.ref b1), .val (.ref b32), .val (.int ((p0 &&& (2147483647 : Int32)) % (15 : Int32))), .val (.ref (f1 ((p0 &&& (2147483647 : Int32)) % (15 : Int32)) w_PRODUCE w_FETCH w_LIST_OFFSETS w_METADATA w_OFFSET_COMMIT w_OFFSET_FETCH w_FIND_COORDINATOR w_JOIN_GROUP w_HEARTBEAT w_LEAVE_GROUP w_SYNC_GROUP w_DESCRIBE_GROUPS w_LIST_GROUPS w_API_VERSIONS w_CREATE_TOPICS)), .val (.int (own_min ((p0 &&& (2147483647 : Int32)) % (15 : Int32)))), .val (.int (own_max ((p0 &&& (2147483647 : Int32)) % (15 : Int32)))), .val (.int (1 : Int32)), .val (.int ((((own_min ((p0 &&& (2147483647 : Int32)) % (15 : Int32))) - (1 : Int32)) + ((p3 &&& (2147483647 : Int32)) % (((own_max ((p0 &&& (2147483647 : Int32)) % (15 : Int32))) - (own_min ((p0 &&& (2147483647 : Int32)) % (15 : Int32)))) + (3 : Int32)))).toInt16.toInt32)), .val (.int (0 : Int32))]) rfl ?_
        show Steps p.tables e below (T63.setTop (mkF m 242 #[.val (.int p0), .val (.int p1), .val (.int p2), .val (.int p3), .val (.ref b1), .val (.ref b32), .val (.int ((p0 &&& (2147483647 : Int32)) % (15 : Int32))), .val (.ref (f1 ((p0 &&& (2147483647 : Int32)) % (15 : Int32)) w_PRODUCE w_FETCH w_LIST_OFFSETS w_METADATA w_OFFSET_COMMIT w_OFFSET_FETCH w_FIND_COORDINATOR w_JOIN_GROUP w_HEARTBEAT w_LEAVE_GROUP w_SYNC_GROUP w_DESCRIBE_GROUPS w_LIST_GROUPS w_API_VERSIONS w_CREATE_TOPICS)), .val (.int (own_min ((p0 &&& (2147483647 : Int32)) % (15 : Int32)))), .val (.int (own_max ((p0 &&& (2147483647 : Int32)) % (15 : Int32)))), .val (.int (1 : Int32)), .val (.int ((((own_min ((p0 &&& (2147483647 : Int32)) % (15 : Int32))) - (1 : Int32)) + ((p3 &&& (2147483647 : Int32)) % (((own_max ((p0 &&& (2147483647 : Int32)) % (15 : Int32))) - (own_min ((p0 &&& (2147483647 : Int32)) % (15 : Int32)))) + (3 : Int32)))).toInt16.toInt32)), .val (.int (0 : Int32))] [])) _
        refine XS.goto X63.here hx rfl (pc0 := 242) (pc' := 261) rfl (hb hby at_242) (by decide) (by decide) ?_
        exact kt
      · by_cases hm249_72 : (own_max ((p0 &&& (2147483647 : Int32)) % (15 : Int32))) < ((((own_min ((p0 &&& (2147483647 : Int32)) % (15 : Int32))) - (1 : Int32)) + ((p3 &&& (2147483647 : Int32)) % (((own_max ((p0 &&& (2147483647 : Int32)) % (15 : Int32))) - (own_min ((p0 &&& (2147483647 : Int32)) % (15 : Int32)))) + (3 : Int32)))).toInt16.toInt32)
        · rw [show (m0_1 p0 p1 p2 p3) = (0 : Int32) from by unfold m0_1; rw [if_neg hm236_71, if_pos hm249_72]] at kt
          show Steps p.tables e below (T63.setTop (mkF m 236 #[.val (.int p0), .val (.int p1), .val (.int p2), .val (.int p3), .val (.ref b1), .val (.ref b32), .val (.int ((p0 &&& (2147483647 : Int32)) % (15 : Int32))), .val (.ref (f1 ((p0 &&& (2147483647 : Int32)) % (15 : Int32)) w_PRODUCE w_FETCH w_LIST_OFFSETS w_METADATA w_OFFSET_COMMIT w_OFFSET_FETCH w_FIND_COORDINATOR w_JOIN_GROUP w_HEARTBEAT w_LEAVE_GROUP w_SYNC_GROUP w_DESCRIBE_GROUPS w_LIST_GROUPS w_API_VERSIONS w_CREATE_TOPICS)), .val (.int (own_min ((p0 &&& (2147483647 : Int32)) % (15 : Int32)))), .val (.int (own_max ((p0 &&& (2147483647 : Int32)) % (15 : Int32)))), .val (.int (1 : Int32)), .val (.int ((((own_min ((p0 &&& (2147483647 : Int32)) % (15 : Int32))) - (1 : Int32)) + ((p3 &&& (2147483647 : Int32)) % (((own_max ((p0 &&& (2147483647 : Int32)) % (15 : Int32))) - (own_min ((p0 &&& (2147483647 : Int32)) % (15 : Int32)))) + (3 : Int32)))).toInt16.toInt32)), .val (.int (((own_max ((p0 &&& (2147483647 : Int32)) % (15 : Int32))) - (own_min ((p0 &&& (2147483647 : Int32)) % (15 : Int32)))) + (3 : Int32)))] [(.int (own_min ((p0 &&& (2147483647 : Int32)) % (15 : Int32)))), (.int ((((own_min ((p0 &&& (2147483647 : Int32)) % (15 : Int32))) - (1 : Int32)) + ((p3 &&& (2147483647 : Int32)) % (((own_max ((p0 &&& (2147483647 : Int32)) % (15 : Int32))) - (own_min ((p0 &&& (2147483647 : Int32)) % (15 : Int32)))) + (3 : Int32)))).toInt16.toInt32))])) _
          refine XS.icmpYes X63.here hx rfl (pc0 := 236) (pc' := 245) rfl (hb hby at_236) rfl (flt hm236_71).2.1 (by decide) (by decide) ?_
          show Steps p.tables e below (T63.setTop (mkF m 245 #[.val (.int p0), .val (.int p1), .val (.int p2), .val (.int p3), .val (.ref b1), .val (.ref b32), .val (.int ((p0 &&& (2147483647 : Int32)) % (15 : Int32))), .val (.ref (f1 ((p0 &&& (2147483647 : Int32)) % (15 : Int32)) w_PRODUCE w_FETCH w_LIST_OFFSETS w_METADATA w_OFFSET_COMMIT w_OFFSET_FETCH w_FIND_COORDINATOR w_JOIN_GROUP w_HEARTBEAT w_LEAVE_GROUP w_SYNC_GROUP w_DESCRIBE_GROUPS w_LIST_GROUPS w_API_VERSIONS w_CREATE_TOPICS)), .val (.int (own_min ((p0 &&& (2147483647 : Int32)) % (15 : Int32)))), .val (.int (own_max ((p0 &&& (2147483647 : Int32)) % (15 : Int32)))), .val (.int (1 : Int32)), .val (.int ((((own_min ((p0 &&& (2147483647 : Int32)) % (15 : Int32))) - (1 : Int32)) + ((p3 &&& (2147483647 : Int32)) % (((own_max ((p0 &&& (2147483647 : Int32)) % (15 : Int32))) - (own_min ((p0 &&& (2147483647 : Int32)) % (15 : Int32)))) + (3 : Int32)))).toInt16.toInt32)), .val (.int (((own_max ((p0 &&& (2147483647 : Int32)) % (15 : Int32))) - (own_min ((p0 &&& (2147483647 : Int32)) % (15 : Int32)))) + (3 : Int32)))] [])) _
          refine XS.iload X63.here hx rfl (hb hby at_245) rfl ?_
          show Steps p.tables e below (T63.setTop (mkF m 247 #[.val (.int p0), .val (.int p1), .val (.int p2), .val (.int p3), .val (.ref b1), .val (.ref b32), .val (.int ((p0 &&& (2147483647 : Int32)) % (15 : Int32))), .val (.ref (f1 ((p0 &&& (2147483647 : Int32)) % (15 : Int32)) w_PRODUCE w_FETCH w_LIST_OFFSETS w_METADATA w_OFFSET_COMMIT w_OFFSET_FETCH w_FIND_COORDINATOR w_JOIN_GROUP w_HEARTBEAT w_LEAVE_GROUP w_SYNC_GROUP w_DESCRIBE_GROUPS w_LIST_GROUPS w_API_VERSIONS w_CREATE_TOPICS)), .val (.int (own_min ((p0 &&& (2147483647 : Int32)) % (15 : Int32)))), .val (.int (own_max ((p0 &&& (2147483647 : Int32)) % (15 : Int32)))), .val (.int (1 : Int32)), .val (.int ((((own_min ((p0 &&& (2147483647 : Int32)) % (15 : Int32))) - (1 : Int32)) + ((p3 &&& (2147483647 : Int32)) % (((own_max ((p0 &&& (2147483647 : Int32)) % (15 : Int32))) - (own_min ((p0 &&& (2147483647 : Int32)) % (15 : Int32)))) + (3 : Int32)))).toInt16.toInt32)), .val (.int (((own_max ((p0 &&& (2147483647 : Int32)) % (15 : Int32))) - (own_min ((p0 &&& (2147483647 : Int32)) % (15 : Int32)))) + (3 : Int32)))] [(.int ((((own_min ((p0 &&& (2147483647 : Int32)) % (15 : Int32))) - (1 : Int32)) + ((p3 &&& (2147483647 : Int32)) % (((own_max ((p0 &&& (2147483647 : Int32)) % (15 : Int32))) - (own_min ((p0 &&& (2147483647 : Int32)) % (15 : Int32)))) + (3 : Int32)))).toInt16.toInt32))])) _
          refine XS.iload X63.here hx rfl (hb hby at_247) rfl ?_
          show Steps p.tables e below (T63.setTop (mkF m 249 #[.val (.int p0), .val (.int p1), .val (.int p2), .val (.int p3), .val (.ref b1), .val (.ref b32), .val (.int ((p0 &&& (2147483647 : Int32)) % (15 : Int32))), .val (.ref (f1 ((p0 &&& (2147483647 : Int32)) % (15 : Int32)) w_PRODUCE w_FETCH w_LIST_OFFSETS w_METADATA w_OFFSET_COMMIT w_OFFSET_FETCH w_FIND_COORDINATOR w_JOIN_GROUP w_HEARTBEAT w_LEAVE_GROUP w_SYNC_GROUP w_DESCRIBE_GROUPS w_LIST_GROUPS w_API_VERSIONS w_CREATE_TOPICS)), .val (.int (own_min ((p0 &&& (2147483647 : Int32)) % (15 : Int32)))), .val (.int (own_max ((p0 &&& (2147483647 : Int32)) % (15 : Int32)))), .val (.int (1 : Int32)), .val (.int ((((own_min ((p0 &&& (2147483647 : Int32)) % (15 : Int32))) - (1 : Int32)) + ((p3 &&& (2147483647 : Int32)) % (((own_max ((p0 &&& (2147483647 : Int32)) % (15 : Int32))) - (own_min ((p0 &&& (2147483647 : Int32)) % (15 : Int32)))) + (3 : Int32)))).toInt16.toInt32)), .val (.int (((own_max ((p0 &&& (2147483647 : Int32)) % (15 : Int32))) - (own_min ((p0 &&& (2147483647 : Int32)) % (15 : Int32)))) + (3 : Int32)))] [(.int (own_max ((p0 &&& (2147483647 : Int32)) % (15 : Int32)))), (.int ((((own_min ((p0 &&& (2147483647 : Int32)) % (15 : Int32))) - (1 : Int32)) + ((p3 &&& (2147483647 : Int32)) % (((own_max ((p0 &&& (2147483647 : Int32)) % (15 : Int32))) - (own_min ((p0 &&& (2147483647 : Int32)) % (15 : Int32)))) + (3 : Int32)))).toInt16.toInt32))])) _
          refine XS.icmpNo X63.here hx rfl (hb hby at_249) rfl (tlt hm249_72).2.2.2 ?_
          show Steps p.tables e below (T63.setTop (mkF m 252 #[.val (.int p0), .val (.int p1), .val (.int p2), .val (.int p3), .val (.ref b1), .val (.ref b32), .val (.int ((p0 &&& (2147483647 : Int32)) % (15 : Int32))), .val (.ref (f1 ((p0 &&& (2147483647 : Int32)) % (15 : Int32)) w_PRODUCE w_FETCH w_LIST_OFFSETS w_METADATA w_OFFSET_COMMIT w_OFFSET_FETCH w_FIND_COORDINATOR w_JOIN_GROUP w_HEARTBEAT w_LEAVE_GROUP w_SYNC_GROUP w_DESCRIBE_GROUPS w_LIST_GROUPS w_API_VERSIONS w_CREATE_TOPICS)), .val (.int (own_min ((p0 &&& (2147483647 : Int32)) % (15 : Int32)))), .val (.int (own_max ((p0 &&& (2147483647 : Int32)) % (15 : Int32)))), .val (.int (1 : Int32)), .val (.int ((((own_min ((p0 &&& (2147483647 : Int32)) % (15 : Int32))) - (1 : Int32)) + ((p3 &&& (2147483647 : Int32)) % (((own_max ((p0 &&& (2147483647 : Int32)) % (15 : Int32))) - (own_min ((p0 &&& (2147483647 : Int32)) % (15 : Int32)))) + (3 : Int32)))).toInt16.toInt32)), .val (.int (((own_max ((p0 &&& (2147483647 : Int32)) % (15 : Int32))) - (own_min ((p0 &&& (2147483647 : Int32)) % (15 : Int32)))) + (3 : Int32)))] [])) _
          refine XS.iconst X63.here hx rfl (hb hby at_252) ?_
          show Steps p.tables e below (T63.setTop (mkF m 253 #[.val (.int p0), .val (.int p1), .val (.int p2), .val (.int p3), .val (.ref b1), .val (.ref b32), .val (.int ((p0 &&& (2147483647 : Int32)) % (15 : Int32))), .val (.ref (f1 ((p0 &&& (2147483647 : Int32)) % (15 : Int32)) w_PRODUCE w_FETCH w_LIST_OFFSETS w_METADATA w_OFFSET_COMMIT w_OFFSET_FETCH w_FIND_COORDINATOR w_JOIN_GROUP w_HEARTBEAT w_LEAVE_GROUP w_SYNC_GROUP w_DESCRIBE_GROUPS w_LIST_GROUPS w_API_VERSIONS w_CREATE_TOPICS)), .val (.int (own_min ((p0 &&& (2147483647 : Int32)) % (15 : Int32)))), .val (.int (own_max ((p0 &&& (2147483647 : Int32)) % (15 : Int32)))), .val (.int (1 : Int32)), .val (.int ((((own_min ((p0 &&& (2147483647 : Int32)) % (15 : Int32))) - (1 : Int32)) + ((p3 &&& (2147483647 : Int32)) % (((own_max ((p0 &&& (2147483647 : Int32)) % (15 : Int32))) - (own_min ((p0 &&& (2147483647 : Int32)) % (15 : Int32)))) + (3 : Int32)))).toInt16.toInt32)), .val (.int (((own_max ((p0 &&& (2147483647 : Int32)) % (15 : Int32))) - (own_min ((p0 &&& (2147483647 : Int32)) % (15 : Int32)))) + (3 : Int32)))] [(.int (0 : Int32))])) _
          refine XS.istore X63.here hx rfl (hb hby at_253) rfl (l' := #[.val (.int p0), .val (.int p1), .val (.int p2), .val (.int p3), .val (.ref b1), .val (.ref b32), .val (.int ((p0 &&& (2147483647 : Int32)) % (15 : Int32))), .val (.ref (f1 ((p0 &&& (2147483647 : Int32)) % (15 : Int32)) w_PRODUCE w_FETCH w_LIST_OFFSETS w_METADATA w_OFFSET_COMMIT w_OFFSET_FETCH w_FIND_COORDINATOR w_JOIN_GROUP w_HEARTBEAT w_LEAVE_GROUP w_SYNC_GROUP w_DESCRIBE_GROUPS w_LIST_GROUPS w_API_VERSIONS w_CREATE_TOPICS)), .val (.int (own_min ((p0 &&& (2147483647 : Int32)) % (15 : Int32)))), .val (.int (own_max ((p0 &&& (2147483647 : Int32)) % (15 : Int32)))), .val (.int (1 : Int32)), .val (.int ((((own_min ((p0 &&& (2147483647 : Int32)) % (15 : Int32))) - (1 : Int32)) + ((p3 &&& (2147483647 : Int32)) % (((own_max ((p0 &&& (2147483647 : Int32)) % (15 : Int32))) - (own_min ((p0 &&& (2147483647 : Int32)) % (15 : Int32)))) + (3 : Int32)))).toInt16.toInt32)), .val (.int (0 : Int32))]) rfl ?_
          show Steps p.tables e below (T63.setTop (mkF m 255 #[.val (.int p0), .val (.int p1), .val (.int p2), .val (.int p3), .val (.ref b1), .val (.ref b32), .val (.int ((p0 &&& (2147483647 : Int32)) % (15 : Int32))), .val (.ref (f1 ((p0 &&& (2147483647 : Int32)) % (15 : Int32)) w_PRODUCE w_FETCH w_LIST_OFFSETS w_METADATA w_OFFSET_COMMIT w_OFFSET_FETCH w_FIND_COORDINATOR w_JOIN_GROUP w_HEARTBEAT w_LEAVE_GROUP w_SYNC_GROUP w_DESCRIBE_GROUPS w_LIST_GROUPS w_API_VERSIONS w_CREATE_TOPICS)), .val (.int (own_min ((p0 &&& (2147483647 : Int32)) % (15 : Int32)))), .val (.int (own_max ((p0 &&& (2147483647 : Int32)) % (15 : Int32)))), .val (.int (1 : Int32)), .val (.int ((((own_min ((p0 &&& (2147483647 : Int32)) % (15 : Int32))) - (1 : Int32)) + ((p3 &&& (2147483647 : Int32)) % (((own_max ((p0 &&& (2147483647 : Int32)) % (15 : Int32))) - (own_min ((p0 &&& (2147483647 : Int32)) % (15 : Int32)))) + (3 : Int32)))).toInt16.toInt32)), .val (.int (0 : Int32))] [])) _
          refine XS.goto X63.here hx rfl (pc0 := 255) (pc' := 261) rfl (hb hby at_255) (by decide) (by decide) ?_
          exact kt
        · rw [show (m0_1 p0 p1 p2 p3) = (1 : Int32) from by unfold m0_1; rw [if_neg hm236_71, if_neg hm249_72]] at kt
          show Steps p.tables e below (T63.setTop (mkF m 236 #[.val (.int p0), .val (.int p1), .val (.int p2), .val (.int p3), .val (.ref b1), .val (.ref b32), .val (.int ((p0 &&& (2147483647 : Int32)) % (15 : Int32))), .val (.ref (f1 ((p0 &&& (2147483647 : Int32)) % (15 : Int32)) w_PRODUCE w_FETCH w_LIST_OFFSETS w_METADATA w_OFFSET_COMMIT w_OFFSET_FETCH w_FIND_COORDINATOR w_JOIN_GROUP w_HEARTBEAT w_LEAVE_GROUP w_SYNC_GROUP w_DESCRIBE_GROUPS w_LIST_GROUPS w_API_VERSIONS w_CREATE_TOPICS)), .val (.int (own_min ((p0 &&& (2147483647 : Int32)) % (15 : Int32)))), .val (.int (own_max ((p0 &&& (2147483647 : Int32)) % (15 : Int32)))), .val (.int (1 : Int32)), .val (.int ((((own_min ((p0 &&& (2147483647 : Int32)) % (15 : Int32))) - (1 : Int32)) + ((p3 &&& (2147483647 : Int32)) % (((own_max ((p0 &&& (2147483647 : Int32)) % (15 : Int32))) - (own_min ((p0 &&& (2147483647 : Int32)) % (15 : Int32)))) + (3 : Int32)))).toInt16.toInt32)), .val (.int (((own_max ((p0 &&& (2147483647 : Int32)) % (15 : Int32))) - (own_min ((p0 &&& (2147483647 : Int32)) % (15 : Int32)))) + (3 : Int32)))] [(.int (own_min ((p0 &&& (2147483647 : Int32)) % (15 : Int32)))), (.int ((((own_min ((p0 &&& (2147483647 : Int32)) % (15 : Int32))) - (1 : Int32)) + ((p3 &&& (2147483647 : Int32)) % (((own_max ((p0 &&& (2147483647 : Int32)) % (15 : Int32))) - (own_min ((p0 &&& (2147483647 : Int32)) % (15 : Int32)))) + (3 : Int32)))).toInt16.toInt32))])) _
          refine XS.icmpYes X63.here hx rfl (pc0 := 236) (pc' := 245) rfl (hb hby at_236) rfl (flt hm236_71).2.1 (by decide) (by decide) ?_
          show Steps p.tables e below (T63.setTop (mkF m 245 #[.val (.int p0), .val (.int p1), .val (.int p2), .val (.int p3), .val (.ref b1), .val (.ref b32), .val (.int ((p0 &&& (2147483647 : Int32)) % (15 : Int32))), .val (.ref (f1 ((p0 &&& (2147483647 : Int32)) % (15 : Int32)) w_PRODUCE w_FETCH w_LIST_OFFSETS w_METADATA w_OFFSET_COMMIT w_OFFSET_FETCH w_FIND_COORDINATOR w_JOIN_GROUP w_HEARTBEAT w_LEAVE_GROUP w_SYNC_GROUP w_DESCRIBE_GROUPS w_LIST_GROUPS w_API_VERSIONS w_CREATE_TOPICS)), .val (.int (own_min ((p0 &&& (2147483647 : Int32)) % (15 : Int32)))), .val (.int (own_max ((p0 &&& (2147483647 : Int32)) % (15 : Int32)))), .val (.int (1 : Int32)), .val (.int ((((own_min ((p0 &&& (2147483647 : Int32)) % (15 : Int32))) - (1 : Int32)) + ((p3 &&& (2147483647 : Int32)) % (((own_max ((p0 &&& (2147483647 : Int32)) % (15 : Int32))) - (own_min ((p0 &&& (2147483647 : Int32)) % (15 : Int32)))) + (3 : Int32)))).toInt16.toInt32)), .val (.int (((own_max ((p0 &&& (2147483647 : Int32)) % (15 : Int32))) - (own_min ((p0 &&& (2147483647 : Int32)) % (15 : Int32)))) + (3 : Int32)))] [])) _
          refine XS.iload X63.here hx rfl (hb hby at_245) rfl ?_
          show Steps p.tables e below (T63.setTop (mkF m 247 #[.val (.int p0), .val (.int p1), .val (.int p2), .val (.int p3), .val (.ref b1), .val (.ref b32), .val (.int ((p0 &&& (2147483647 : Int32)) % (15 : Int32))), .val (.ref (f1 ((p0 &&& (2147483647 : Int32)) % (15 : Int32)) w_PRODUCE w_FETCH w_LIST_OFFSETS w_METADATA w_OFFSET_COMMIT w_OFFSET_FETCH w_FIND_COORDINATOR w_JOIN_GROUP w_HEARTBEAT w_LEAVE_GROUP w_SYNC_GROUP w_DESCRIBE_GROUPS w_LIST_GROUPS w_API_VERSIONS w_CREATE_TOPICS)), .val (.int (own_min ((p0 &&& (2147483647 : Int32)) % (15 : Int32)))), .val (.int (own_max ((p0 &&& (2147483647 : Int32)) % (15 : Int32)))), .val (.int (1 : Int32)), .val (.int ((((own_min ((p0 &&& (2147483647 : Int32)) % (15 : Int32))) - (1 : Int32)) + ((p3 &&& (2147483647 : Int32)) % (((own_max ((p0 &&& (2147483647 : Int32)) % (15 : Int32))) - (own_min ((p0 &&& (2147483647 : Int32)) % (15 : Int32)))) + (3 : Int32)))).toInt16.toInt32)), .val (.int (((own_max ((p0 &&& (2147483647 : Int32)) % (15 : Int32))) - (own_min ((p0 &&& (2147483647 : Int32)) % (15 : Int32)))) + (3 : Int32)))] [(.int ((((own_min ((p0 &&& (2147483647 : Int32)) % (15 : Int32))) - (1 : Int32)) + ((p3 &&& (2147483647 : Int32)) % (((own_max ((p0 &&& (2147483647 : Int32)) % (15 : Int32))) - (own_min ((p0 &&& (2147483647 : Int32)) % (15 : Int32)))) + (3 : Int32)))).toInt16.toInt32))])) _
          refine XS.iload X63.here hx rfl (hb hby at_247) rfl ?_
          show Steps p.tables e below (T63.setTop (mkF m 249 #[.val (.int p0), .val (.int p1), .val (.int p2), .val (.int p3), .val (.ref b1), .val (.ref b32), .val (.int ((p0 &&& (2147483647 : Int32)) % (15 : Int32))), .val (.ref (f1 ((p0 &&& (2147483647 : Int32)) % (15 : Int32)) w_PRODUCE w_FETCH w_LIST_OFFSETS w_METADATA w_OFFSET_COMMIT w_OFFSET_FETCH w_FIND_COORDINATOR w_JOIN_GROUP w_HEARTBEAT w_LEAVE_GROUP w_SYNC_GROUP w_DESCRIBE_GROUPS w_LIST_GROUPS w_API_VERSIONS w_CREATE_TOPICS)), .val (.int (own_min ((p0 &&& (2147483647 : Int32)) % (15 : Int32)))), .val (.int (own_max ((p0 &&& (2147483647 : Int32)) % (15 : Int32)))), .val (.int (1 : Int32)), .val (.int ((((own_min ((p0 &&& (2147483647 : Int32)) % (15 : Int32))) - (1 : Int32)) + ((p3 &&& (2147483647 : Int32)) % (((own_max ((p0 &&& (2147483647 : Int32)) % (15 : Int32))) - (own_min ((p0 &&& (2147483647 : Int32)) % (15 : Int32)))) + (3 : Int32)))).toInt16.toInt32)), .val (.int (((own_max ((p0 &&& (2147483647 : Int32)) % (15 : Int32))) - (own_min ((p0 &&& (2147483647 : Int32)) % (15 : Int32)))) + (3 : Int32)))] [(.int (own_max ((p0 &&& (2147483647 : Int32)) % (15 : Int32)))), (.int ((((own_min ((p0 &&& (2147483647 : Int32)) % (15 : Int32))) - (1 : Int32)) + ((p3 &&& (2147483647 : Int32)) % (((own_max ((p0 &&& (2147483647 : Int32)) % (15 : Int32))) - (own_min ((p0 &&& (2147483647 : Int32)) % (15 : Int32)))) + (3 : Int32)))).toInt16.toInt32))])) _
          refine XS.icmpYes X63.here hx rfl (pc0 := 249) (pc' := 258) rfl (hb hby at_249) rfl (flt hm249_72).2.2.2 (by decide) (by decide) ?_
          show Steps p.tables e below (T63.setTop (mkF m 258 #[.val (.int p0), .val (.int p1), .val (.int p2), .val (.int p3), .val (.ref b1), .val (.ref b32), .val (.int ((p0 &&& (2147483647 : Int32)) % (15 : Int32))), .val (.ref (f1 ((p0 &&& (2147483647 : Int32)) % (15 : Int32)) w_PRODUCE w_FETCH w_LIST_OFFSETS w_METADATA w_OFFSET_COMMIT w_OFFSET_FETCH w_FIND_COORDINATOR w_JOIN_GROUP w_HEARTBEAT w_LEAVE_GROUP w_SYNC_GROUP w_DESCRIBE_GROUPS w_LIST_GROUPS w_API_VERSIONS w_CREATE_TOPICS)), .val (.int (own_min ((p0 &&& (2147483647 : Int32)) % (15 : Int32)))), .val (.int (own_max ((p0 &&& (2147483647 : Int32)) % (15 : Int32)))), .val (.int (1 : Int32)), .val (.int ((((own_min ((p0 &&& (2147483647 : Int32)) % (15 : Int32))) - (1 : Int32)) + ((p3 &&& (2147483647 : Int32)) % (((own_max ((p0 &&& (2147483647 : Int32)) % (15 : Int32))) - (own_min ((p0 &&& (2147483647 : Int32)) % (15 : Int32)))) + (3 : Int32)))).toInt16.toInt32)), .val (.int (((own_max ((p0 &&& (2147483647 : Int32)) % (15 : Int32))) - (own_min ((p0 &&& (2147483647 : Int32)) % (15 : Int32)))) + (3 : Int32)))] [])) _
          refine XS.iconst X63.here hx rfl (hb hby at_258) ?_
          show Steps p.tables e below (T63.setTop (mkF m 259 #[.val (.int p0), .val (.int p1), .val (.int p2), .val (.int p3), .val (.ref b1), .val (.ref b32), .val (.int ((p0 &&& (2147483647 : Int32)) % (15 : Int32))), .val (.ref (f1 ((p0 &&& (2147483647 : Int32)) % (15 : Int32)) w_PRODUCE w_FETCH w_LIST_OFFSETS w_METADATA w_OFFSET_COMMIT w_OFFSET_FETCH w_FIND_COORDINATOR w_JOIN_GROUP w_HEARTBEAT w_LEAVE_GROUP w_SYNC_GROUP w_DESCRIBE_GROUPS w_LIST_GROUPS w_API_VERSIONS w_CREATE_TOPICS)), .val (.int (own_min ((p0 &&& (2147483647 : Int32)) % (15 : Int32)))), .val (.int (own_max ((p0 &&& (2147483647 : Int32)) % (15 : Int32)))), .val (.int (1 : Int32)), .val (.int ((((own_min ((p0 &&& (2147483647 : Int32)) % (15 : Int32))) - (1 : Int32)) + ((p3 &&& (2147483647 : Int32)) % (((own_max ((p0 &&& (2147483647 : Int32)) % (15 : Int32))) - (own_min ((p0 &&& (2147483647 : Int32)) % (15 : Int32)))) + (3 : Int32)))).toInt16.toInt32)), .val (.int (((own_max ((p0 &&& (2147483647 : Int32)) % (15 : Int32))) - (own_min ((p0 &&& (2147483647 : Int32)) % (15 : Int32)))) + (3 : Int32)))] [(.int (1 : Int32))])) _
          refine XS.istore X63.here hx rfl (hb hby at_259) rfl (l' := #[.val (.int p0), .val (.int p1), .val (.int p2), .val (.int p3), .val (.ref b1), .val (.ref b32), .val (.int ((p0 &&& (2147483647 : Int32)) % (15 : Int32))), .val (.ref (f1 ((p0 &&& (2147483647 : Int32)) % (15 : Int32)) w_PRODUCE w_FETCH w_LIST_OFFSETS w_METADATA w_OFFSET_COMMIT w_OFFSET_FETCH w_FIND_COORDINATOR w_JOIN_GROUP w_HEARTBEAT w_LEAVE_GROUP w_SYNC_GROUP w_DESCRIBE_GROUPS w_LIST_GROUPS w_API_VERSIONS w_CREATE_TOPICS)), .val (.int (own_min ((p0 &&& (2147483647 : Int32)) % (15 : Int32)))), .val (.int (own_max ((p0 &&& (2147483647 : Int32)) % (15 : Int32)))), .val (.int (1 : Int32)), .val (.int ((((own_min ((p0 &&& (2147483647 : Int32)) % (15 : Int32))) - (1 : Int32)) + ((p3 &&& (2147483647 : Int32)) % (((own_max ((p0 &&& (2147483647 : Int32)) % (15 : Int32))) - (own_min ((p0 &&& (2147483647 : Int32)) % (15 : Int32)))) + (3 : Int32)))).toInt16.toInt32)), .val (.int (1 : Int32))]) rfl ?_
          exact kt
    obtain ⟨cq73, kq73, q73a, q73b, q73c⟩ := isOf hZ e63 (EK.keep K62)
    obtain ⟨_, _, ⟨T73, L73, k73, n73⟩, -, X73, ⟨Lc73, hQ73, l73, y73, z73⟩, st73⟩ := X63.virtualBack hx (y := (⟨"com/example/keptlog/keptlog/protocol/ApiKey", "supports", "(S)Z"⟩ : MethodName)) (z := (⟨"com/example/keptlog/keptlog/protocol/ApiKey", "supports", "(S)Z"⟩ : MethodName)) hown (mvT hZ (hw _ (List.mem_of_getElem? (i := 9) rfl))) (mvT hZ (hw _ (List.mem_of_getElem? (i := 10) rfl))) (notFace_of_selects (args := #[]) (mvT hZ (hw _ (List.mem_of_getElem? (i := 12) rfl)))) (mvT hZ (hw _ (List.mem_of_getElem? (i := 12) rfl))) (mvT hZ (hw _ (List.mem_of_getElem? (i := 11) rfl))) (by decide) (backOf (W := 0) (rm2 l Z aw hw [] (f1 ((p0 &&& (2147483647 : Int32)) % (15 : Int32)) w_PRODUCE w_FETCH w_LIST_OFFSETS w_METADATA w_OFFSET_COMMIT w_OFFSET_FETCH w_FIND_COORDINATOR w_JOIN_GROUP w_HEARTBEAT w_LEAVE_GROUP w_SYNC_GROUP w_DESCRIBE_GROUPS w_LIST_GROUPS w_API_VERSIONS w_CREATE_TOPICS) ((((own_min ((p0 &&& (2147483647 : Int32)) % (15 : Int32))) - (1 : Int32)) + ((p3 &&& (2147483647 : Int32)) % (((own_max ((p0 &&& (2147483647 : Int32)) % (15 : Int32))) - (own_min ((p0 &&& (2147483647 : Int32)) % (15 : Int32)))) + (3 : Int32)))).toInt16.toInt32) (own_min ((p0 &&& (2147483647 : Int32)) % (15 : Int32))) (own_max ((p0 &&& (2147483647 : Int32)) % (15 : Int32))) h62 n0 Z62 (FLK.keep K62 nin0) (FHK.keep K62 nin0)) hZ (hw _ (List.mem_of_getElem? (i := 13) rfl)) (hw _ (List.mem_of_getElem? (i := 7) rfl)) (by decide) (by decide)) q73a q73c (g := (mkF m 265 #[.val (.int p0), .val (.int p1), .val (.int p2), .val (.int p3), .val (.ref b1), .val (.ref b32), .val (.int ((p0 &&& (2147483647 : Int32)) % (15 : Int32))), .val (.ref (f1 ((p0 &&& (2147483647 : Int32)) % (15 : Int32)) w_PRODUCE w_FETCH w_LIST_OFFSETS w_METADATA w_OFFSET_COMMIT w_OFFSET_FETCH w_FIND_COORDINATOR w_JOIN_GROUP w_HEARTBEAT w_LEAVE_GROUP w_SYNC_GROUP w_DESCRIBE_GROUPS w_LIST_GROUPS w_API_VERSIONS w_CREATE_TOPICS)), .val (.int (own_min ((p0 &&& (2147483647 : Int32)) % (15 : Int32)))), .val (.int (own_max ((p0 &&& (2147483647 : Int32)) % (15 : Int32)))), .val (.int (1 : Int32)), .val (.int ((((own_min ((p0 &&& (2147483647 : Int32)) % (15 : Int32))) - (1 : Int32)) + ((p3 &&& (2147483647 : Int32)) % (((own_max ((p0 &&& (2147483647 : Int32)) % (15 : Int32))) - (own_min ((p0 &&& (2147483647 : Int32)) % (15 : Int32)))) + (3 : Int32)))).toInt16.toInt32)), .val (.int (m0_1 p0 p1 p2 p3))] [(.int ((((own_min ((p0 &&& (2147483647 : Int32)) % (15 : Int32))) - (1 : Int32)) + ((p3 &&& (2147483647 : Int32)) % (((own_max ((p0 &&& (2147483647 : Int32)) % (15 : Int32))) - (own_min ((p0 &&& (2147483647 : Int32)) % (15 : Int32)))) + (3 : Int32)))).toInt16.toInt32)), (.ref (f1 ((p0 &&& (2147483647 : Int32)) % (15 : Int32)) w_PRODUCE w_FETCH w_LIST_OFFSETS w_METADATA w_OFFSET_COMMIT w_OFFSET_FETCH w_FIND_COORDINATOR w_JOIN_GROUP w_HEARTBEAT w_LEAVE_GROUP w_SYNC_GROUP w_DESCRIBE_GROUPS w_LIST_GROUPS w_API_VERSIONS w_CREATE_TOPICS))])) rfl (by rw [hml]; rfl) (Steps.refl _) (argsL := [(.int ((((own_min ((p0 &&& (2147483647 : Int32)) % (15 : Int32))) - (1 : Int32)) + ((p3 &&& (2147483647 : Int32)) % (((own_max ((p0 &&& (2147483647 : Int32)) % (15 : Int32))) - (own_min ((p0 &&& (2147483647 : Int32)) % (15 : Int32)))) + (3 : Int32)))).toInt16.toInt32))]) (rest := []) (lenOf pd_0_1 rfl) rfl (by show 2 * 0 + _ ≤ _; exact Nat.le_of_eq rfl) (hb hby at_265) (fun _ _ => ⟨rfl, e63, (by decide : 2 + 0 ≤ _), (by decide : 30 + 0 ≤ _)⟩)
    dsimp only [Pt.U, Pt.locs, Pt.cells, Pt.slots] at X73 l73 y73 z73 st73 hQ73
    rw [l73, y73, z73] at X73
    obtain ⟨rfl, Nq73, e73⟩ := hQ73
    have N73 := Fr.app N63 Nq73
    refine own_back (b := T73.setTop (mkF m 270 #[.val (.int p0), .val (.int p1), .val (.int p2), .val (.int p3), .val (.ref b1), .val (.ref b32), .val (.int ((p0 &&& (2147483647 : Int32)) % (15 : Int32))), .val (.ref (f1 ((p0 &&& (2147483647 : Int32)) % (15 : Int32)) w_PRODUCE w_FETCH w_LIST_OFFSETS w_METADATA w_OFFSET_COMMIT w_OFFSET_FETCH w_FIND_COORDINATOR w_JOIN_GROUP w_HEARTBEAT w_LEAVE_GROUP w_SYNC_GROUP w_DESCRIBE_GROUPS w_LIST_GROUPS w_API_VERSIONS w_CREATE_TOPICS)), .val (.int (own_min ((p0 &&& (2147483647 : Int32)) % (15 : Int32)))), .val (.int (own_max ((p0 &&& (2147483647 : Int32)) % (15 : Int32)))), .val (.int (1 : Int32)), .val (.int ((((own_min ((p0 &&& (2147483647 : Int32)) % (15 : Int32))) - (1 : Int32)) + ((p3 &&& (2147483647 : Int32)) % (((own_max ((p0 &&& (2147483647 : Int32)) % (15 : Int32))) - (own_min ((p0 &&& (2147483647 : Int32)) % (15 : Int32)))) + (3 : Int32)))).toInt16.toInt32)), .val (.int (m0_1 p0 p1 p2 p3))] [(.int (m0_1 p0 p1 p2 p3)), (.int (f2 ((((own_min ((p0 &&& (2147483647 : Int32)) % (15 : Int32))) - (1 : Int32)) + ((p3 &&& (2147483647 : Int32)) % (((own_max ((p0 &&& (2147483647 : Int32)) % (15 : Int32))) - (own_min ((p0 &&& (2147483647 : Int32)) % (15 : Int32)))) + (3 : Int32)))).toInt16.toInt32) (own_min ((p0 &&& (2147483647 : Int32)) % (15 : Int32))) (own_max ((p0 &&& (2147483647 : Int32)) % (15 : Int32)))))])) (fun t kt => ?_) ?_
    · show Steps p.tables e below (T63.setTop (mkF m 261 #[.val (.int p0), .val (.int p1), .val (.int p2), .val (.int p3), .val (.ref b1), .val (.ref b32), .val (.int ((p0 &&& (2147483647 : Int32)) % (15 : Int32))), .val (.ref (f1 ((p0 &&& (2147483647 : Int32)) % (15 : Int32)) w_PRODUCE w_FETCH w_LIST_OFFSETS w_METADATA w_OFFSET_COMMIT w_OFFSET_FETCH w_FIND_COORDINATOR w_JOIN_GROUP w_HEARTBEAT w_LEAVE_GROUP w_SYNC_GROUP w_DESCRIBE_GROUPS w_LIST_GROUPS w_API_VERSIONS w_CREATE_TOPICS)), .val (.int (own_min ((p0 &&& (2147483647 : Int32)) % (15 : Int32)))), .val (.int (own_max ((p0 &&& (2147483647 : Int32)) % (15 : Int32)))), .val (.int (1 : Int32)), .val (.int ((((own_min ((p0 &&& (2147483647 : Int32)) % (15 : Int32))) - (1 : Int32)) + ((p3 &&& (2147483647 : Int32)) % (((own_max ((p0 &&& (2147483647 : Int32)) % (15 : Int32))) - (own_min ((p0 &&& (2147483647 : Int32)) % (15 : Int32)))) + (3 : Int32)))).toInt16.toInt32)), .val (.int (m0_1 p0 p1 p2 p3))] [])) _
      refine XS.aload X63.here hx rfl (hb hby at_261) rfl rfl ?_
      show Steps p.tables e below (T63.setTop (mkF m 263 #[.val (.int p0), .val (.int p1), .val (.int p2), .val (.int p3), .val (.ref b1), .val (.ref b32), .val (.int ((p0 &&& (2147483647 : Int32)) % (15 : Int32))), .val (.ref (f1 ((p0 &&& (2147483647 : Int32)) % (15 : Int32)) w_PRODUCE w_FETCH w_LIST_OFFSETS w_METADATA w_OFFSET_COMMIT w_OFFSET_FETCH w_FIND_COORDINATOR w_JOIN_GROUP w_HEARTBEAT w_LEAVE_GROUP w_SYNC_GROUP w_DESCRIBE_GROUPS w_LIST_GROUPS w_API_VERSIONS w_CREATE_TOPICS)), .val (.int (own_min ((p0 &&& (2147483647 : Int32)) % (15 : Int32)))), .val (.int (own_max ((p0 &&& (2147483647 : Int32)) % (15 : Int32)))), .val (.int (1 : Int32)), .val (.int ((((own_min ((p0 &&& (2147483647 : Int32)) % (15 : Int32))) - (1 : Int32)) + ((p3 &&& (2147483647 : Int32)) % (((own_max ((p0 &&& (2147483647 : Int32)) % (15 : Int32))) - (own_min ((p0 &&& (2147483647 : Int32)) % (15 : Int32)))) + (3 : Int32)))).toInt16.toInt32)), .val (.int (m0_1 p0 p1 p2 p3))] [(.ref (f1 ((p0 &&& (2147483647 : Int32)) % (15 : Int32)) w_PRODUCE w_FETCH w_LIST_OFFSETS w_METADATA w_OFFSET_COMMIT w_OFFSET_FETCH w_FIND_COORDINATOR w_JOIN_GROUP w_HEARTBEAT w_LEAVE_GROUP w_SYNC_GROUP w_DESCRIBE_GROUPS w_LIST_GROUPS w_API_VERSIONS w_CREATE_TOPICS))])) _
      refine XS.iload X63.here hx rfl (hb hby at_263) rfl ?_
      show Steps p.tables e below (T63.setTop (mkF m 265 #[.val (.int p0), .val (.int p1), .val (.int p2), .val (.int p3), .val (.ref b1), .val (.ref b32), .val (.int ((p0 &&& (2147483647 : Int32)) % (15 : Int32))), .val (.ref (f1 ((p0 &&& (2147483647 : Int32)) % (15 : Int32)) w_PRODUCE w_FETCH w_LIST_OFFSETS w_METADATA w_OFFSET_COMMIT w_OFFSET_FETCH w_FIND_COORDINATOR w_JOIN_GROUP w_HEARTBEAT w_LEAVE_GROUP w_SYNC_GROUP w_DESCRIBE_GROUPS w_LIST_GROUPS w_API_VERSIONS w_CREATE_TOPICS)), .val (.int (own_min ((p0 &&& (2147483647 : Int32)) % (15 : Int32)))), .val (.int (own_max ((p0 &&& (2147483647 : Int32)) % (15 : Int32)))), .val (.int (1 : Int32)), .val (.int ((((own_min ((p0 &&& (2147483647 : Int32)) % (15 : Int32))) - (1 : Int32)) + ((p3 &&& (2147483647 : Int32)) % (((own_max ((p0 &&& (2147483647 : Int32)) % (15 : Int32))) - (own_min ((p0 &&& (2147483647 : Int32)) % (15 : Int32)))) + (3 : Int32)))).toInt16.toInt32)), .val (.int (m0_1 p0 p1 p2 p3))] [(.int ((((own_min ((p0 &&& (2147483647 : Int32)) % (15 : Int32))) - (1 : Int32)) + ((p3 &&& (2147483647 : Int32)) % (((own_max ((p0 &&& (2147483647 : Int32)) % (15 : Int32))) - (own_min ((p0 &&& (2147483647 : Int32)) % (15 : Int32)))) + (3 : Int32)))).toInt16.toInt32)), (.ref (f1 ((p0 &&& (2147483647 : Int32)) % (15 : Int32)) w_PRODUCE w_FETCH w_LIST_OFFSETS w_METADATA w_OFFSET_COMMIT w_OFFSET_FETCH w_FIND_COORDINATOR w_JOIN_GROUP w_HEARTBEAT w_LEAVE_GROUP w_SYNC_GROUP w_DESCRIBE_GROUPS w_LIST_GROUPS w_API_VERSIONS w_CREATE_TOPICS))])) _
      refine st73.trans ?_
      show Steps p.tables e below (T73.setTop (mkF m 268 #[.val (.int p0), .val (.int p1), .val (.int p2), .val (.int p3), .val (.ref b1), .val (.ref b32), .val (.int ((p0 &&& (2147483647 : Int32)) % (15 : Int32))), .val (.ref (f1 ((p0 &&& (2147483647 : Int32)) % (15 : Int32)) w_PRODUCE w_FETCH w_LIST_OFFSETS w_METADATA w_OFFSET_COMMIT w_OFFSET_FETCH w_FIND_COORDINATOR w_JOIN_GROUP w_HEARTBEAT w_LEAVE_GROUP w_SYNC_GROUP w_DESCRIBE_GROUPS w_LIST_GROUPS w_API_VERSIONS w_CREATE_TOPICS)), .val (.int (own_min ((p0 &&& (2147483647 : Int32)) % (15 : Int32)))), .val (.int (own_max ((p0 &&& (2147483647 : Int32)) % (15 : Int32)))), .val (.int (1 : Int32)), .val (.int ((((own_min ((p0 &&& (2147483647 : Int32)) % (15 : Int32))) - (1 : Int32)) + ((p3 &&& (2147483647 : Int32)) % (((own_max ((p0 &&& (2147483647 : Int32)) % (15 : Int32))) - (own_min ((p0 &&& (2147483647 : Int32)) % (15 : Int32)))) + (3 : Int32)))).toInt16.toInt32)), .val (.int (m0_1 p0 p1 p2 p3))] [(.int (f2 ((((own_min ((p0 &&& (2147483647 : Int32)) % (15 : Int32))) - (1 : Int32)) + ((p3 &&& (2147483647 : Int32)) % (((own_max ((p0 &&& (2147483647 : Int32)) % (15 : Int32))) - (own_min ((p0 &&& (2147483647 : Int32)) % (15 : Int32)))) + (3 : Int32)))).toInt16.toInt32) (own_min ((p0 &&& (2147483647 : Int32)) % (15 : Int32))) (own_max ((p0 &&& (2147483647 : Int32)) % (15 : Int32)))))])) _
      refine XS.iload X73.here hx rfl (hb hby at_268) rfl ?_
      exact kt
    by_cases hc270_74 : (f2 ((((own_min ((p0 &&& (2147483647 : Int32)) % (15 : Int32))) - (1 : Int32)) + ((p3 &&& (2147483647 : Int32)) % (((own_max ((p0 &&& (2147483647 : Int32)) % (15 : Int32))) - (own_min ((p0 &&& (2147483647 : Int32)) % (15 : Int32)))) + (3 : Int32)))).toInt16.toInt32) (own_min ((p0 &&& (2147483647 : Int32)) % (15 : Int32))) (own_max ((p0 &&& (2147483647 : Int32)) % (15 : Int32)))) = (m0_1 p0 p1 p2 p3)
    · refine own_back (b := T73.setTop (mkF m 278 #[.val (.int p0), .val (.int p1), .val (.int p2), .val (.int p3), .val (.ref b1), .val (.ref b32), .val (.int ((p0 &&& (2147483647 : Int32)) % (15 : Int32))), .val (.ref (f1 ((p0 &&& (2147483647 : Int32)) % (15 : Int32)) w_PRODUCE w_FETCH w_LIST_OFFSETS w_METADATA w_OFFSET_COMMIT w_OFFSET_FETCH w_FIND_COORDINATOR w_JOIN_GROUP w_HEARTBEAT w_LEAVE_GROUP w_SYNC_GROUP w_DESCRIBE_GROUPS w_LIST_GROUPS w_API_VERSIONS w_CREATE_TOPICS)), .val (.int (own_min ((p0 &&& (2147483647 : Int32)) % (15 : Int32)))), .val (.int (own_max ((p0 &&& (2147483647 : Int32)) % (15 : Int32)))), .val (.int (1 : Int32)), .val (.int ((((own_min ((p0 &&& (2147483647 : Int32)) % (15 : Int32))) - (1 : Int32)) + ((p3 &&& (2147483647 : Int32)) % (((own_max ((p0 &&& (2147483647 : Int32)) % (15 : Int32))) - (own_min ((p0 &&& (2147483647 : Int32)) % (15 : Int32)))) + (3 : Int32)))).toInt16.toInt32)), .val (.int (m0_1 p0 p1 p2 p3))] [(.int (1 : Int32))])) (fun t kt => ?_) ?_
      · show Steps p.tables e below (T73.setTop (mkF m 270 #[.val (.int p0), .val (.int p1), .val (.int p2), .val (.int p3), .val (.ref b1), .val (.ref b32), .val (.int ((p0 &&& (2147483647 : Int32)) % (15 : Int32))), .val (.ref (f1 ((p0 &&& (2147483647 : Int32)) % (15 : Int32)) w_PRODUCE w_FETCH w_LIST_OFFSETS w_METADATA w_OFFSET_COMMIT w_OFFSET_FETCH w_FIND_COORDINATOR w_JOIN_GROUP w_HEARTBEAT w_LEAVE_GROUP w_SYNC_GROUP w_DESCRIBE_GROUPS w_LIST_GROUPS w_API_VERSIONS w_CREATE_TOPICS)), .val (.int (own_min ((p0 &&& (2147483647 : Int32)) % (15 : Int32)))), .val (.int (own_max ((p0 &&& (2147483647 : Int32)) % (15 : Int32)))), .val (.int (1 : Int32)), .val (.int ((((own_min ((p0 &&& (2147483647 : Int32)) % (15 : Int32))) - (1 : Int32)) + ((p3 &&& (2147483647 : Int32)) % (((own_max ((p0 &&& (2147483647 : Int32)) % (15 : Int32))) - (own_min ((p0 &&& (2147483647 : Int32)) % (15 : Int32)))) + (3 : Int32)))).toInt16.toInt32)), .val (.int (m0_1 p0 p1 p2 p3))] [(.int (m0_1 p0 p1 p2 p3)), (.int (f2 ((((own_min ((p0 &&& (2147483647 : Int32)) % (15 : Int32))) - (1 : Int32)) + ((p3 &&& (2147483647 : Int32)) % (((own_max ((p0 &&& (2147483647 : Int32)) % (15 : Int32))) - (own_min ((p0 &&& (2147483647 : Int32)) % (15 : Int32)))) + (3 : Int32)))).toInt16.toInt32) (own_min ((p0 &&& (2147483647 : Int32)) % (15 : Int32))) (own_max ((p0 &&& (2147483647 : Int32)) % (15 : Int32)))))])) _
        refine XS.icmpNo X73.here hx rfl (hb hby at_270) rfl (teq hc270_74).2 ?_
        show Steps p.tables e below (T73.setTop (mkF m 273 #[.val (.int p0), .val (.int p1), .val (.int p2), .val (.int p3), .val (.ref b1), .val (.ref b32), .val (.int ((p0 &&& (2147483647 : Int32)) % (15 : Int32))), .val (.ref (f1 ((p0 &&& (2147483647 : Int32)) % (15 : Int32)) w_PRODUCE w_FETCH w_LIST_OFFSETS w_METADATA w_OFFSET_COMMIT w_OFFSET_FETCH w_FIND_COORDINATOR w_JOIN_GROUP w_HEARTBEAT w_LEAVE_GROUP w_SYNC_GROUP w_DESCRIBE_GROUPS w_LIST_GROUPS w_API_VERSIONS w_CREATE_TOPICS)), .val (.int (own_min ((p0 &&& (2147483647 : Int32)) % (15 : Int32)))), .val (.int (own_max ((p0 &&& (2147483647 : Int32)) % (15 : Int32)))), .val (.int (1 : Int32)), .val (.int ((((own_min ((p0 &&& (2147483647 : Int32)) % (15 : Int32))) - (1 : Int32)) + ((p3 &&& (2147483647 : Int32)) % (((own_max ((p0 &&& (2147483647 : Int32)) % (15 : Int32))) - (own_min ((p0 &&& (2147483647 : Int32)) % (15 : Int32)))) + (3 : Int32)))).toInt16.toInt32)), .val (.int (m0_1 p0 p1 p2 p3))] [])) _
        refine XS.iconst X73.here hx rfl (hb hby at_273) ?_
        show Steps p.tables e below (T73.setTop (mkF m 274 #[.val (.int p0), .val (.int p1), .val (.int p2), .val (.int p3), .val (.ref b1), .val (.ref b32), .val (.int ((p0 &&& (2147483647 : Int32)) % (15 : Int32))), .val (.ref (f1 ((p0 &&& (2147483647 : Int32)) % (15 : Int32)) w_PRODUCE w_FETCH w_LIST_OFFSETS w_METADATA w_OFFSET_COMMIT w_OFFSET_FETCH w_FIND_COORDINATOR w_JOIN_GROUP w_HEARTBEAT w_LEAVE_GROUP w_SYNC_GROUP w_DESCRIBE_GROUPS w_LIST_GROUPS w_API_VERSIONS w_CREATE_TOPICS)), .val (.int (own_min ((p0 &&& (2147483647 : Int32)) % (15 : Int32)))), .val (.int (own_max ((p0 &&& (2147483647 : Int32)) % (15 : Int32)))), .val (.int (1 : Int32)), .val (.int ((((own_min ((p0 &&& (2147483647 : Int32)) % (15 : Int32))) - (1 : Int32)) + ((p3 &&& (2147483647 : Int32)) % (((own_max ((p0 &&& (2147483647 : Int32)) % (15 : Int32))) - (own_min ((p0 &&& (2147483647 : Int32)) % (15 : Int32)))) + (3 : Int32)))).toInt16.toInt32)), .val (.int (m0_1 p0 p1 p2 p3))] [(.int (1 : Int32))])) _
        refine XS.goto X73.here hx rfl (pc0 := 274) (pc' := 278) rfl (hb hby at_274) (by decide) (by decide) ?_
        exact kt
      obtain ⟨fs, hr, hrun, hended, hW, hsame⟩ := X73.leave (v := some (.int (1 : Int32))) (fun h => by rw [Bd.returns] at h; cases h) (BodyLoose.notSynchronized Bd)
      refine ⟨_, _, ?_, hrun, hended, _, _, rfl, ?_, ⟨_, rfl⟩, hW, hsame.mono (by decide) (by decide)⟩
      · show Steps p.tables e below (T73.setTop (mkF m 278 #[.val (.int p0), .val (.int p1), .val (.int p2), .val (.int p3), .val (.ref b1), .val (.ref b32), .val (.int ((p0 &&& (2147483647 : Int32)) % (15 : Int32))), .val (.ref (f1 ((p0 &&& (2147483647 : Int32)) % (15 : Int32)) w_PRODUCE w_FETCH w_LIST_OFFSETS w_METADATA w_OFFSET_COMMIT w_OFFSET_FETCH w_FIND_COORDINATOR w_JOIN_GROUP w_HEARTBEAT w_LEAVE_GROUP w_SYNC_GROUP w_DESCRIBE_GROUPS w_LIST_GROUPS w_API_VERSIONS w_CREATE_TOPICS)), .val (.int (own_min ((p0 &&& (2147483647 : Int32)) % (15 : Int32)))), .val (.int (own_max ((p0 &&& (2147483647 : Int32)) % (15 : Int32)))), .val (.int (1 : Int32)), .val (.int ((((own_min ((p0 &&& (2147483647 : Int32)) % (15 : Int32))) - (1 : Int32)) + ((p3 &&& (2147483647 : Int32)) % (((own_max ((p0 &&& (2147483647 : Int32)) % (15 : Int32))) - (own_min ((p0 &&& (2147483647 : Int32)) % (15 : Int32)))) + (3 : Int32)))).toInt16.toInt32)), .val (.int (m0_1 p0 p1 p2 p3))] [(.int (1 : Int32))])) _
        exact retN X73 hx (t := .boolean) Bd.returns (by simp) (hb hby at_278) hr
      · show Q0 Z p0 p1 p2 p3 w_PRODUCE w_FETCH w_LIST_OFFSETS w_METADATA w_OFFSET_COMMIT w_OFFSET_FETCH w_FIND_COORDINATOR w_JOIN_GROUP w_HEARTBEAT w_LEAVE_GROUP w_SYNC_GROUP w_DESCRIBE_GROUPS w_LIST_GROUPS w_API_VERSIONS w_CREATE_TOPICS h0 n0 _ T73.heap _
        rw [e73]
        exact ⟨by rw [show f0 p0 p1 p2 p3 = (1 : Int32) from by unfold f0; rw [if_neg hc186_66, if_pos hc270_74]], N73⟩
    · refine own_back (b := T73.setTop (mkF m 278 #[.val (.int p0), .val (.int p1), .val (.int p2), .val (.int p3), .val (.ref b1), .val (.ref b32), .val (.int ((p0 &&& (2147483647 : Int32)) % (15 : Int32))), .val (.ref (f1 ((p0 &&& (2147483647 : Int32)) % (15 : Int32)) w_PRODUCE w_FETCH w_LIST_OFFSETS w_METADATA w_OFFSET_COMMIT w_OFFSET_FETCH w_FIND_COORDINATOR w_JOIN_GROUP w_HEARTBEAT w_LEAVE_GROUP w_SYNC_GROUP w_DESCRIBE_GROUPS w_LIST_GROUPS w_API_VERSIONS w_CREATE_TOPICS)), .val (.int (own_min ((p0 &&& (2147483647 : Int32)) % (15 : Int32)))), .val (.int (own_max ((p0 &&& (2147483647 : Int32)) % (15 : Int32)))), .val (.int (1 : Int32)), .val (.int ((((own_min ((p0 &&& (2147483647 : Int32)) % (15 : Int32))) - (1 : Int32)) + ((p3 &&& (2147483647 : Int32)) % (((own_max ((p0 &&& (2147483647 : Int32)) % (15 : Int32))) - (own_min ((p0 &&& (2147483647 : Int32)) % (15 : Int32)))) + (3 : Int32)))).toInt16.toInt32)), .val (.int (m0_1 p0 p1 p2 p3))] [(.int (0 : Int32))])) (fun t kt => ?_) ?_
      · show Steps p.tables e below (T73.setTop (mkF m 270 #[.val (.int p0), .val (.int p1), .val (.int p2), .val (.int p3), .val (.ref b1), .val (.ref b32), .val (.int ((p0 &&& (2147483647 : Int32)) % (15 : Int32))), .val (.ref (f1 ((p0 &&& (2147483647 : Int32)) % (15 : Int32)) w_PRODUCE w_FETCH w_LIST_OFFSETS w_METADATA w_OFFSET_COMMIT w_OFFSET_FETCH w_FIND_COORDINATOR w_JOIN_GROUP w_HEARTBEAT w_LEAVE_GROUP w_SYNC_GROUP w_DESCRIBE_GROUPS w_LIST_GROUPS w_API_VERSIONS w_CREATE_TOPICS)), .val (.int (own_min ((p0 &&& (2147483647 : Int32)) % (15 : Int32)))), .val (.int (own_max ((p0 &&& (2147483647 : Int32)) % (15 : Int32)))), .val (.int (1 : Int32)), .val (.int ((((own_min ((p0 &&& (2147483647 : Int32)) % (15 : Int32))) - (1 : Int32)) + ((p3 &&& (2147483647 : Int32)) % (((own_max ((p0 &&& (2147483647 : Int32)) % (15 : Int32))) - (own_min ((p0 &&& (2147483647 : Int32)) % (15 : Int32)))) + (3 : Int32)))).toInt16.toInt32)), .val (.int (m0_1 p0 p1 p2 p3))] [(.int (m0_1 p0 p1 p2 p3)), (.int (f2 ((((own_min ((p0 &&& (2147483647 : Int32)) % (15 : Int32))) - (1 : Int32)) + ((p3 &&& (2147483647 : Int32)) % (((own_max ((p0 &&& (2147483647 : Int32)) % (15 : Int32))) - (own_min ((p0 &&& (2147483647 : Int32)) % (15 : Int32)))) + (3 : Int32)))).toInt16.toInt32) (own_min ((p0 &&& (2147483647 : Int32)) % (15 : Int32))) (own_max ((p0 &&& (2147483647 : Int32)) % (15 : Int32)))))])) _
        refine XS.icmpYes X73.here hx rfl (pc0 := 270) (pc' := 277) rfl (hb hby at_270) rfl (feq hc270_74).2 (by decide) (by decide) ?_
        show Steps p.tables e below (T73.setTop (mkF m 277 #[.val (.int p0), .val (.int p1), .val (.int p2), .val (.int p3), .val (.ref b1), .val (.ref b32), .val (.int ((p0 &&& (2147483647 : Int32)) % (15 : Int32))), .val (.ref (f1 ((p0 &&& (2147483647 : Int32)) % (15 : Int32)) w_PRODUCE w_FETCH w_LIST_OFFSETS w_METADATA w_OFFSET_COMMIT w_OFFSET_FETCH w_FIND_COORDINATOR w_JOIN_GROUP w_HEARTBEAT w_LEAVE_GROUP w_SYNC_GROUP w_DESCRIBE_GROUPS w_LIST_GROUPS w_API_VERSIONS w_CREATE_TOPICS)), .val (.int (own_min ((p0 &&& (2147483647 : Int32)) % (15 : Int32)))), .val (.int (own_max ((p0 &&& (2147483647 : Int32)) % (15 : Int32)))), .val (.int (1 : Int32)), .val (.int ((((own_min ((p0 &&& (2147483647 : Int32)) % (15 : Int32))) - (1 : Int32)) + ((p3 &&& (2147483647 : Int32)) % (((own_max ((p0 &&& (2147483647 : Int32)) % (15 : Int32))) - (own_min ((p0 &&& (2147483647 : Int32)) % (15 : Int32)))) + (3 : Int32)))).toInt16.toInt32)), .val (.int (m0_1 p0 p1 p2 p3))] [])) _
        refine XS.iconst X73.here hx rfl (hb hby at_277) ?_
        exact kt
      obtain ⟨fs, hr, hrun, hended, hW, hsame⟩ := X73.leave (v := some (.int (0 : Int32))) (fun h => by rw [Bd.returns] at h; cases h) (BodyLoose.notSynchronized Bd)
      refine ⟨_, _, ?_, hrun, hended, _, _, rfl, ?_, ⟨_, rfl⟩, hW, hsame.mono (by decide) (by decide)⟩
      · show Steps p.tables e below (T73.setTop (mkF m 278 #[.val (.int p0), .val (.int p1), .val (.int p2), .val (.int p3), .val (.ref b1), .val (.ref b32), .val (.int ((p0 &&& (2147483647 : Int32)) % (15 : Int32))), .val (.ref (f1 ((p0 &&& (2147483647 : Int32)) % (15 : Int32)) w_PRODUCE w_FETCH w_LIST_OFFSETS w_METADATA w_OFFSET_COMMIT w_OFFSET_FETCH w_FIND_COORDINATOR w_JOIN_GROUP w_HEARTBEAT w_LEAVE_GROUP w_SYNC_GROUP w_DESCRIBE_GROUPS w_LIST_GROUPS w_API_VERSIONS w_CREATE_TOPICS)), .val (.int (own_min ((p0 &&& (2147483647 : Int32)) % (15 : Int32)))), .val (.int (own_max ((p0 &&& (2147483647 : Int32)) % (15 : Int32)))), .val (.int (1 : Int32)), .val (.int ((((own_min ((p0 &&& (2147483647 : Int32)) % (15 : Int32))) - (1 : Int32)) + ((p3 &&& (2147483647 : Int32)) % (((own_max ((p0 &&& (2147483647 : Int32)) % (15 : Int32))) - (own_min ((p0 &&& (2147483647 : Int32)) % (15 : Int32)))) + (3 : Int32)))).toInt16.toInt32)), .val (.int (m0_1 p0 p1 p2 p3))] [(.int (0 : Int32))])) _
        exact retN X73 hx (t := .boolean) Bd.returns (by simp) (hb hby at_278) hr
      · show Q0 Z p0 p1 p2 p3 w_PRODUCE w_FETCH w_LIST_OFFSETS w_METADATA w_OFFSET_COMMIT w_OFFSET_FETCH w_FIND_COORDINATOR w_JOIN_GROUP w_HEARTBEAT w_LEAVE_GROUP w_SYNC_GROUP w_DESCRIBE_GROUPS w_LIST_GROUPS w_API_VERSIONS w_CREATE_TOPICS h0 n0 _ T73.heap _
        rw [e73]
        exact ⟨by rw [show f0 p0 p1 p2 p3 = (0 : Int32) from by unfold f0; rw [if_neg hc186_66, if_neg hc270_74]], N73⟩
theorem own_law (a b c d : Int32) : f0 a b c d = 1 := by
  unfold f0
  split
  · rw [if_pos]; rfl
  · rw [if_pos]; rfl
theorem own_fldc {args : Array Value} {s : State} {t : Term} {a : Addr} {C n d : String} {k : Int32} (ev : t.eval args s none [] s = some (.ref a)) (h : (Jvm.Cond.eq (Term.field t C n d) (Term.int k)).value args s none s [] = some true) : Fld s s.heap a C n d (.int k) := by
  obtain ⟨x, y, ex, ey, kxy, kyx⟩ := cmp_v (Or.inl h)
  have ex' := ex
  rw [fld_at ev] at ex
  obtain rfl : y = .int k := (Option.some.inj ((Term.int_eval k).symm.trans ey)).symm
  obtain ⟨z, rfl⟩ := kyx
  obtain rfl : z = k := gotT (Cond.eq_ints ex' ey) h
  exact Fld.start ex
set_option maxRecDepth 65536 in
set_option maxHeartbeats 40000000 in
theorem comes_1 {Post : Tables → Env → Array Value → State → Outcome → State → Prop} (hpost : ∀ tb e args s v u, (limb_1_1.after args s (.returned v) u = true ∧ limb_1_2.after args s (.returned v) u = true ∧ True) → FrameEnd s (.returned v) u (Jvm.fieldLocs frame_1_writes args s ++ Jvm.arrayLocs frame_1_arrays args s ++ Jvm.staticLocs frame_1_statics s) 16 128 → Post tb e args s (.returned v) u) :
    ArmFor flags0 classFile x code maxLocals ret World_1 tables_1 room_1 Calls_1 rest_1 Pre_1 Post := by
  intro l hfl _ _ p e ha hc hk s m args below hf hA hF happ hP
  obtain ⟨hcalls, hrest, hpre⟩ := hP
  obtain ⟨-, -, -, hnamed, -, -, -, hat⟩ := (Spec.applies_iff hf).mp happ
  obtain ⟨hg, hn⟩ := and_e (Cond.before_iff.mp (show (Jvm.Cond.and given_1 narrow_1).before args s = true from hpre))
  obtain ⟨gc, gr0⟩ := and_e hg
  obtain ⟨ga0, gr1⟩ := and_e gr0
  obtain ⟨ga1, gr2⟩ := and_e gr1
  obtain ⟨ga2, gr3⟩ := and_e gr2
  obtain ⟨w0, w1, w2, w3, rfl⟩ : ∃ w0 w1 w2 w3 : Value, args = #[w0, w1, w2, w3] := by
    have hs : args.size = 4 := by simpa [Cond.value, given_1] using gc
    obtain ⟨L⟩ := args
    match L, hs with
    | [w0, w1, w2, w3], _ => exact ⟨w0, w1, w2, w3, rfl⟩
  have hw := fun d (hd : d ∈ tables_1) => atoms_spec (ws := Jvm.Cond.code x code maxLocals ret :: tables_1) hat d (List.mem_cons_of_mem _ hd)
  have hfit : Fit s := fun {y c} hc i hi => by
    obtain ⟨ha, rfl⟩ := Array.getElem?_eq_some_iff.mp hc
    have q := List.all_eq_true.mp ((Array.all_eq_true_iff_forall_mem.mp hF) _ (Array.getElem_mem ha)) i (List.mem_range.mpr hi)
    simpa [Array.getElem?_eq_getElem hi] using q
  obtain ⟨i0, ei0⟩ := is_v ga0
  obtain rfl : w0 = (.int i0) := Option.some.inj ei0
  obtain ⟨i1, ei1⟩ := is_v ga1
  obtain rfl : w1 = (.int i1) := Option.some.inj ei1
  obtain ⟨i2, ei2⟩ := is_v ga2
  obtain rfl : w2 = (.int i2) := Option.some.inj ei2
  obtain ⟨i3, ei3⟩ := is_v gr3
  obtain rfl : w3 = (.int i3) := Option.some.inj ei3
  obtain ⟨nn0, nnr0⟩ := and_e hn
  obtain ⟨nn1, nnr1⟩ := and_e nnr0
  obtain ⟨nn2, nnr2⟩ := and_e nnr1
  obtain ⟨nn3, nnr3⟩ := and_e nnr2
  obtain ⟨nn4, nnr4⟩ := and_e nnr3
  obtain ⟨nn5, nnr5⟩ := and_e nnr4
  obtain ⟨nn6, nnr6⟩ := and_e nnr5
  obtain ⟨nn7, nnr7⟩ := and_e nnr6
  obtain ⟨nn8, nnr8⟩ := and_e nnr7
  obtain ⟨nn9, nnr9⟩ := and_e nnr8
  obtain ⟨nn10, nnr10⟩ := and_e nnr9
  obtain ⟨nn11, nnr11⟩ := and_e nnr10
  obtain ⟨nn12, nnr12⟩ := and_e nnr11
  obtain ⟨nn13, nnr13⟩ := and_e nnr12
  obtain ⟨nn14, nnr14⟩ := and_e nnr13
  obtain ⟨nn15, nnr15⟩ := and_e nnr14
  obtain ⟨nn16, nnr16⟩ := and_e nnr15
  obtain ⟨nn17, nnr17⟩ := and_e nnr16
  obtain ⟨nn18, nnr18⟩ := and_e nnr17
  obtain ⟨nn19, nnr19⟩ := and_e nnr18
  obtain ⟨nn20, nnr20⟩ := and_e nnr19
  obtain ⟨nn21, nnr21⟩ := and_e nnr20
  obtain ⟨nn22, nnr22⟩ := and_e nnr21
  obtain ⟨nn23, nnr23⟩ := and_e nnr22
  obtain ⟨nn24, nnr24⟩ := and_e nnr23
  obtain ⟨nn25, nnr25⟩ := and_e nnr24
  obtain ⟨nn26, nnr26⟩ := and_e nnr25
  obtain ⟨nn27, nnr27⟩ := and_e nnr26
  obtain ⟨nn28, nnr28⟩ := and_e nnr27
  obtain ⟨nn29, nnr29⟩ := and_e nnr28
  obtain ⟨nn30, nnr30⟩ := and_e nnr29
  obtain ⟨nn31, nnr31⟩ := and_e nnr30
  obtain ⟨nn32, nnr32⟩ := and_e nnr31
  obtain ⟨nn33, nnr33⟩ := and_e nnr32
  obtain ⟨nn34, nnr34⟩ := and_e nnr33
  obtain ⟨nn35, nnr35⟩ := and_e nnr34
  obtain ⟨nn36, nnr36⟩ := and_e nnr35
  obtain ⟨nn37, nnr37⟩ := and_e nnr36
  obtain ⟨nn38, nnr38⟩ := and_e nnr37
  obtain ⟨nn39, nnr39⟩ := and_e nnr38
  obtain ⟨nn40, nnr40⟩ := and_e nnr39
  obtain ⟨nn41, nnr41⟩ := and_e nnr40
  obtain ⟨nn42, nnr42⟩ := and_e nnr41
  obtain ⟨nn43, nnr43⟩ := and_e nnr42
  have nn44 := nnr43
  obtain ⟨w_PRODUCE, ev_PRODUCE⟩ := exa_v nn0
  have E_PRODUCE := Exa.start ev_PRODUCE nn0
  have S_PRODUCE := Sta.start ev_PRODUCE (Or.inr ⟨(hw _ (List.mem_of_getElem? (i := 7) rfl)), (hw _ (List.mem_of_getElem? (i := 8) rfl))⟩)
  obtain ⟨w_LIST_GROUPS, ev_LIST_GROUPS⟩ := exa_v nn3
  have E_LIST_GROUPS := Exa.start ev_LIST_GROUPS nn3
  have S_LIST_GROUPS := Sta.start ev_LIST_GROUPS (Or.inr ⟨(hw _ (List.mem_of_getElem? (i := 7) rfl)), (hw _ (List.mem_of_getElem? (i := 19) rfl))⟩)
  obtain ⟨w_OFFSET_COMMIT, ev_OFFSET_COMMIT⟩ := exa_v nn5
  have E_OFFSET_COMMIT := Exa.start ev_OFFSET_COMMIT nn5
  have S_OFFSET_COMMIT := Sta.start ev_OFFSET_COMMIT (Or.inr ⟨(hw _ (List.mem_of_getElem? (i := 7) rfl)), (hw _ (List.mem_of_getElem? (i := 21) rfl))⟩)
  obtain ⟨w_FETCH, ev_FETCH⟩ := exa_v nn8
  have E_FETCH := Exa.start ev_FETCH nn8
  have S_FETCH := Sta.start ev_FETCH (Or.inr ⟨(hw _ (List.mem_of_getElem? (i := 7) rfl)), (hw _ (List.mem_of_getElem? (i := 23) rfl))⟩)
  obtain ⟨w_METADATA, ev_METADATA⟩ := exa_v nn11
  have E_METADATA := Exa.start ev_METADATA nn11
  have S_METADATA := Sta.start ev_METADATA (Or.inr ⟨(hw _ (List.mem_of_getElem? (i := 7) rfl)), (hw _ (List.mem_of_getElem? (i := 25) rfl))⟩)
  obtain ⟨w_CREATE_TOPICS, ev_CREATE_TOPICS⟩ := exa_v nn14
  have E_CREATE_TOPICS := Exa.start ev_CREATE_TOPICS nn14
  have S_CREATE_TOPICS := Sta.start ev_CREATE_TOPICS (Or.inr ⟨(hw _ (List.mem_of_getElem? (i := 7) rfl)), (hw _ (List.mem_of_getElem? (i := 27) rfl))⟩)
  obtain ⟨w_FIND_COORDINATOR, ev_FIND_COORDINATOR⟩ := exa_v nn17
  have E_FIND_COORDINATOR := Exa.start ev_FIND_COORDINATOR nn17
  have S_FIND_COORDINATOR := Sta.start ev_FIND_COORDINATOR (Or.inr ⟨(hw _ (List.mem_of_getElem? (i := 7) rfl)), (hw _ (List.mem_of_getElem? (i := 29) rfl))⟩)
  obtain ⟨w_HEARTBEAT, ev_HEARTBEAT⟩ := exa_v nn20
  have E_HEARTBEAT := Exa.start ev_HEARTBEAT nn20
  have S_HEARTBEAT := Sta.start ev_HEARTBEAT (Or.inr ⟨(hw _ (List.mem_of_getElem? (i := 7) rfl)), (hw _ (List.mem_of_getElem? (i := 31) rfl))⟩)
  obtain ⟨w_LIST_OFFSETS, ev_LIST_OFFSETS⟩ := exa_v nn23
  have E_LIST_OFFSETS := Exa.start ev_LIST_OFFSETS nn23
  have S_LIST_OFFSETS := Sta.start ev_LIST_OFFSETS (Or.inr ⟨(hw _ (List.mem_of_getElem? (i := 7) rfl)), (hw _ (List.mem_of_getElem? (i := 33) rfl))⟩)
  obtain ⟨w_API_VERSIONS, ev_API_VERSIONS⟩ := exa_v nn26
  have E_API_VERSIONS := Exa.start ev_API_VERSIONS nn26
  have S_API_VERSIONS := Sta.start ev_API_VERSIONS (Or.inr ⟨(hw _ (List.mem_of_getElem? (i := 7) rfl)), (hw _ (List.mem_of_getElem? (i := 35) rfl))⟩)
  obtain ⟨w_JOIN_GROUP, ev_JOIN_GROUP⟩ := exa_v nn29
  have E_JOIN_GROUP := Exa.start ev_JOIN_GROUP nn29
  have S_JOIN_GROUP := Sta.start ev_JOIN_GROUP (Or.inr ⟨(hw _ (List.mem_of_getElem? (i := 7) rfl)), (hw _ (List.mem_of_getElem? (i := 37) rfl))⟩)
  obtain ⟨w_SYNC_GROUP, ev_SYNC_GROUP⟩ := exa_v nn32
  have E_SYNC_GROUP := Exa.start ev_SYNC_GROUP nn32
  have S_SYNC_GROUP := Sta.start ev_SYNC_GROUP (Or.inr ⟨(hw _ (List.mem_of_getElem? (i := 7) rfl)), (hw _ (List.mem_of_getElem? (i := 39) rfl))⟩)
  obtain ⟨w_OFFSET_FETCH, ev_OFFSET_FETCH⟩ := exa_v nn34
  have E_OFFSET_FETCH := Exa.start ev_OFFSET_FETCH nn34
  have S_OFFSET_FETCH := Sta.start ev_OFFSET_FETCH (Or.inr ⟨(hw _ (List.mem_of_getElem? (i := 7) rfl)), (hw _ (List.mem_of_getElem? (i := 41) rfl))⟩)
  obtain ⟨w_LEAVE_GROUP, ev_LEAVE_GROUP⟩ := exa_v nn38
  have E_LEAVE_GROUP := Exa.start ev_LEAVE_GROUP nn38
  have S_LEAVE_GROUP := Sta.start ev_LEAVE_GROUP (Or.inr ⟨(hw _ (List.mem_of_getElem? (i := 7) rfl)), (hw _ (List.mem_of_getElem? (i := 43) rfl))⟩)
  obtain ⟨w_DESCRIBE_GROUPS, ev_DESCRIBE_GROUPS⟩ := exa_v nn42
  have E_DESCRIBE_GROUPS := Exa.start ev_DESCRIBE_GROUPS nn42
  have S_DESCRIBE_GROUPS := Sta.start ev_DESCRIBE_GROUPS (Or.inr ⟨(hw _ (List.mem_of_getElem? (i := 7) rfl)), (hw _ (List.mem_of_getElem? (i := 45) rfl))⟩)
  have F_minVersion_PRODUCE := own_fldc ev_PRODUCE nn1
  have F_maxVersion_PRODUCE := own_fldc ev_PRODUCE nn2
  have F_minVersion_LIST_GROUPS := own_fldc ev_LIST_GROUPS nn4
  have F_minVersion_OFFSET_COMMIT := own_fldc ev_OFFSET_COMMIT nn6
  have F_maxVersion_OFFSET_COMMIT := own_fldc ev_OFFSET_COMMIT nn7
  have F_minVersion_FETCH := own_fldc ev_FETCH nn9
  have F_maxVersion_LIST_GROUPS := own_fldc ev_LIST_GROUPS nn10
  have F_minVersion_METADATA := own_fldc ev_METADATA nn12
  have F_maxVersion_METADATA := own_fldc ev_METADATA nn13
  have F_minVersion_CREATE_TOPICS := own_fldc ev_CREATE_TOPICS nn15
  have F_maxVersion_CREATE_TOPICS := own_fldc ev_CREATE_TOPICS nn16
  have F_minVersion_FIND_COORDINATOR := own_fldc ev_FIND_COORDINATOR nn18
  have F_maxVersion_FETCH := own_fldc ev_FETCH nn19
  have F_minVersion_HEARTBEAT := own_fldc ev_HEARTBEAT nn21
  have F_maxVersion_HEARTBEAT := own_fldc ev_HEARTBEAT nn22
  have F_minVersion_LIST_OFFSETS := own_fldc ev_LIST_OFFSETS nn24
  have F_maxVersion_LIST_OFFSETS := own_fldc ev_LIST_OFFSETS nn25
  have F_minVersion_API_VERSIONS := own_fldc ev_API_VERSIONS nn27
  have F_maxVersion_API_VERSIONS := own_fldc ev_API_VERSIONS nn28
  have F_minVersion_JOIN_GROUP := own_fldc ev_JOIN_GROUP nn30
  have F_maxVersion_JOIN_GROUP := own_fldc ev_JOIN_GROUP nn31
  have F_minVersion_SYNC_GROUP := own_fldc ev_SYNC_GROUP nn33
  have F_minVersion_OFFSET_FETCH := own_fldc ev_OFFSET_FETCH nn35
  have F_maxVersion_OFFSET_FETCH := own_fldc ev_OFFSET_FETCH nn36
  have F_maxVersion_FIND_COORDINATOR := own_fldc ev_FIND_COORDINATOR nn37
  have F_minVersion_LEAVE_GROUP := own_fldc ev_LEAVE_GROUP nn39
  have F_maxVersion_LEAVE_GROUP := own_fldc ev_LEAVE_GROUP nn40
  have F_maxVersion_SYNC_GROUP := own_fldc ev_SYNC_GROUP nn41
  have F_minVersion_DESCRIBE_GROUPS := own_fldc ev_DESCRIBE_GROUPS nn43
  have F_maxVersion_DESCRIBE_GROUPS := own_fldc ev_DESCRIBE_GROUPS nn44
  obtain ⟨n, o, h1, h2, h3, _, L, rfl, ⟨rfl, N⟩, hq⟩ := rm0 l s _ hw tables_1 i0 i1 i2 i3 w_PRODUCE w_FETCH w_LIST_OFFSETS w_METADATA w_OFFSET_COMMIT w_OFFSET_FETCH w_FIND_COORDINATOR w_JOIN_GROUP w_HEARTBEAT w_LEAVE_GROUP w_SYNC_GROUP w_DESCRIBE_GROUPS w_LIST_GROUPS w_API_VERSIONS w_CREATE_TOPICS s.heap s.heap.size (Nat.le_refl _) S_PRODUCE S_FETCH S_LIST_OFFSETS S_METADATA S_OFFSET_COMMIT S_OFFSET_FETCH S_FIND_COORDINATOR S_JOIN_GROUP S_HEARTBEAT S_LEAVE_GROUP S_SYNC_GROUP S_DESCRIBE_GROUPS S_LIST_GROUPS S_API_VERSIONS S_CREATE_TOPICS E_PRODUCE E_FETCH E_LIST_OFFSETS E_METADATA E_OFFSET_COMMIT E_OFFSET_FETCH E_FIND_COORDINATOR E_JOIN_GROUP E_HEARTBEAT E_LEAVE_GROUP E_SYNC_GROUP E_DESCRIBE_GROUPS E_LIST_GROUPS E_API_VERSIONS E_CREATE_TOPICS F_minVersion_PRODUCE F_minVersion_FETCH F_minVersion_LIST_OFFSETS F_minVersion_METADATA F_minVersion_OFFSET_COMMIT F_minVersion_OFFSET_FETCH F_minVersion_FIND_COORDINATOR F_minVersion_JOIN_GROUP F_minVersion_HEARTBEAT F_minVersion_LEAVE_GROUP F_minVersion_SYNC_GROUP F_minVersion_DESCRIBE_GROUPS F_minVersion_LIST_GROUPS F_minVersion_API_VERSIONS F_minVersion_CREATE_TOPICS F_maxVersion_PRODUCE F_maxVersion_FETCH F_maxVersion_LIST_OFFSETS F_maxVersion_METADATA F_maxVersion_OFFSET_COMMIT F_maxVersion_OFFSET_FETCH F_maxVersion_FIND_COORDINATOR F_maxVersion_JOIN_GROUP F_maxVersion_HEARTBEAT F_maxVersion_LEAVE_GROUP F_maxVersion_SYNC_GROUP F_maxVersion_DESCRIBE_GROUPS F_maxVersion_LIST_GROUPS F_maxVersion_API_VERSIONS F_maxVersion_CREATE_TOPICS p e ha hc hk s m _ below hf ((Spec.applies_iff_loose hf).mp happ).1 ⟨rfl, State.Warmed39.refl s, rfl⟩ trivial
  refine ⟨n, _, h1, h2, h3, hpost _ _ _ _ _ _ ⟨Cond.after_iff.mpr rfl, Cond.after_iff.mpr (eq_i res_at (Term.int_eval (1)) (congrArg Value.int (own_law i0 i1 i2 i3))), trivial⟩ ⟨hq.1, hq.2.1, (hq.2.2.sift fun y hy => Or.inr (N y hy)).mono (by decide) (by decide)⟩⟩
theorem main_1_1 : Claimed_1_1 := comes_1 fun _ _ _ _ _ _ h hF => ⟨h.1, hF⟩
theorem main_1_2 : Claimed_1_2 := comes_1 fun _ _ _ _ _ _ h hF => ⟨h.2.1, hF⟩
end Jvm.Pilot.@@N@@
namespace Jvm.Pilot.@@N@@
open Jvm Jvm.ClassFile Sem Op Lib Jvm.Free Jvm.Stand Jvm.Pilot.@@N@@.Jvm.D
/-! MADE BY PROGRAM (witnessworld.py) out of the Statement's table words and the real class files: 12 classes; the members and pool entries that the words name. The judged class is class 1, her method 2. -/
namespace start1
open Jvm.ClassFile
def u (s : String) : CpInfo := .utf8 (stringToUtf16 s)
/-- a pool by its gaps: so many unusable entries, then the entry; so many at the end -/
def gap : Nat → List CpInfo → List CpInfo
  | 0, r => r
  | n + 1, r => .unusable :: gap n r
def poolList (es : List (Nat × CpInfo)) (last : Nat) : List CpInfo := es.foldr (fun e r => gap e.1 (e.2 :: r)) (gap last [])
def pool (es : List (Nat × CpInfo)) (last : Nat) : Array CpInfo := ⟨poolList es last⟩
def fileOf (pool : Array CpInfo) (this : Nat) (attrs : Array Attribute := #[]) (ms : Array MethodInfo := #[]) (fl : Nat := 33) (sup : Nat := 0) (ifs : Array Nat := #[]) (fds : Array FieldInfo := #[]) : ClassFile where
  minorVersion := 0
  majorVersion := 65
  constantPool := pool
  accessFlags := fl
  thisClass := this
  superClass := sup
  interfaces := ifs
  fields := fds
  methods := ms
  attributes := attrs
def plain (name : String) (sup : Option ClassId) : Class where
  name := name
  kind := .ordinary
  loader := none
  accessFlags := 33
  super := sup
  interfaces := #[]
  cf := none
  fields := #[]
  methods := #[]
  instanceTypes := #[]
  staticTypes := #[]
  resolved := #[]
  callSites := []
  init := .initialized
  statics := none
  mirror := none

def pool0 : Array CpInfo := pool [(5, u "<init>"), (0, u "()V"), (1, .class_ 10), (1, u "java/lang/Object")] 113

def k0m0 : Method := { name := "<init>", desc := "()V", sig := { parameters := [], returnType := none }, accessFlags := 1, code := none }
/-- java/lang/Object -/
def k0 : Class := { plain "java/lang/Object" none with
  accessFlags := 33
  interfaces := #[]
  cf := some (fileOf pool0 8 #[] #[{ accessFlags := 1, nameIndex := 5, descriptorIndex := 6, attributes := #[] }] 33 0 #[] #[])
  fields := #[]
  methods := #[k0m0]
  instanceTypes := #[]
  staticTypes := #[]
  resolved := Array.replicate 124 none
  statics := none }

def pool1 : Array CpInfo := pool [(2, .class_ 4), (1, u "java/lang/Object"), (0, u "<init>"), (0, u "()V"), (0, .fieldref 8 9), (0, .class_ 10), (0, .nameAndType 11 12), (0, u "com/example/keptlog/keptlog/protocol/ApiKey"), (0, u "PRODUCE"), (0, u "Lcom/example/keptlog/keptlog/protocol/ApiKey;"), (0, .fieldref 8 14), (0, .nameAndType 15 12), (0, u "FETCH"), (0, .fieldref 8 17), (0, .nameAndType 18 12), (0, u "LIST_OFFSETS"), (0, .fieldref 8 20), (0, .nameAndType 21 12), (0, u "METADATA"), (0, .fieldref 8 23), (0, .nameAndType 24 12), (0, u "OFFSET_COMMIT"), (0, .fieldref 8 26), (0, .nameAndType 27 12), (0, u "OFFSET_FETCH"), (0, .fieldref 8 29), (0, .nameAndType 30 12), (0, u "FIND_COORDINATOR"), (0, .fieldref 8 32), (0, .nameAndType 33 12), (0, u "JOIN_GROUP"), (0, .fieldref 8 35), (0, .nameAndType 36 12), (0, u "HEARTBEAT"), (0, .fieldref 8 38), (0, .nameAndType 39 12), (0, u "LEAVE_GROUP"), (0, .fieldref 8 41), (0, .nameAndType 42 12), (0, u "SYNC_GROUP"), (0, .fieldref 8 44), (0, .nameAndType 45 12), (0, u "DESCRIBE_GROUPS"), (0, .fieldref 8 47), (0, .nameAndType 48 12), (0, u "LIST_GROUPS"), (0, .fieldref 8 50), (0, .nameAndType 51 12), (0, u "API_VERSIONS"), (0, .fieldref 8 53), (0, .nameAndType 54 12), (0, u "CREATE_TOPICS"), (0, .integer 2147483647), (0, .methodref 57 58), (0, .class_ 59), (0, .nameAndType 60 61), (0, u "com/example/keptlog/keptlog/protocol/ApiKeySupportsPinLaw"), (0, u "key"), (0, u "(I)Lcom/example/keptlog/keptlog/protocol/ApiKey;"), (0, .methodref 8 63), (0, .nameAndType 64 65), (0, u "supports"), (0, u "(S)Z"), (3, u "law"), (0, u "(IIII)Z")] 4

def k1m0 : Method := { name := "<init>", desc := "()V", sig := { parameters := [], returnType := none }, accessFlags := 1, code := none }
def k1c1 : Code := { maxStack := 2, maxLocals := 1, code := method_2_code, exceptionTable := #[], attributes := #[] }
def k1m1 : Method := { name := "key", desc := "(I)Lcom/example/keptlog/keptlog/protocol/ApiKey;", sig := { parameters := [.int], returnType := some (.object "com/example/keptlog/keptlog/protocol/ApiKey") }, accessFlags := 10, code := some k1c1 }
def k1c2 : Code := { maxStack := 4, maxLocals := 13, code := code, exceptionTable := #[], attributes := #[] }
def k1m2 : Method := { name := "law", desc := "(IIII)Z", sig := { parameters := [.int, .int, .int, .int], returnType := some .boolean }, accessFlags := 9, code := some k1c2 }
/-- com/example/keptlog/keptlog/protocol/ApiKeySupportsPinLaw -/
def k1 : Class := { plain "com/example/keptlog/keptlog/protocol/ApiKeySupportsPinLaw" (some 0) with
  accessFlags := 49
  interfaces := #[]
  cf := some (fileOf pool1 57 #[] #[{ accessFlags := 1, nameIndex := 5, descriptorIndex := 6, attributes := #[] }, { accessFlags := 10, nameIndex := 60, descriptorIndex := 61, attributes := #[] }, { accessFlags := 9, nameIndex := 69, descriptorIndex := 70, attributes := #[] }] 49 2 #[] #[])
  fields := #[]
  methods := #[k1m0, k1m1, k1m2]
  instanceTypes := #[]
  staticTypes := #[]
  resolved := Array.replicate 75 none
  statics := none }

def pool2 : Array CpInfo := pool [(1, .class_ 2), (0, u "java/lang/constant/Constable"), (0, .class_ 4), (0, u "java/lang/Object")] 6

/-- java/lang/constant/Constable -/
def k2 : Class := { plain "java/lang/constant/Constable" (some 0) with
  accessFlags := 1537
  interfaces := #[]
  cf := some (fileOf pool2 1 #[] #[] 1537 3 #[] #[])
  fields := #[]
  methods := #[]
  instanceTypes := #[]
  staticTypes := #[]
  resolved := Array.replicate 11 none
  statics := none }

def pool3 : Array CpInfo := pool [(1, .class_ 2), (0, u "java/lang/Comparable"), (0, .class_ 4), (0, u "java/lang/Object")] 7

/-- java/lang/Comparable -/
def k3 : Class := { plain "java/lang/Comparable" (some 0) with
  accessFlags := 1537
  interfaces := #[]
  cf := some (fileOf pool3 1 #[] #[] 1537 3 #[] #[])
  fields := #[]
  methods := #[]
  instanceTypes := #[]
  staticTypes := #[]
  resolved := Array.replicate 12 none
  statics := none }

def pool4 : Array CpInfo := pool [(1, .class_ 2), (0, u "java/io/Serializable"), (0, .class_ 4), (0, u "java/lang/Object")] 2

/-- java/io/Serializable -/
def k4 : Class := { plain "java/io/Serializable" (some 0) with
  accessFlags := 1537
  interfaces := #[]
  cf := some (fileOf pool4 1 #[] #[] 1537 3 #[] #[])
  fields := #[]
  methods := #[]
  instanceTypes := #[]
  staticTypes := #[]
  resolved := Array.replicate 7 none
  statics := none }

def pool5 : Array CpInfo := pool [(2, .class_ 4), (1, u "java/lang/Enum"), (0, u "name"), (0, u "Ljava/lang/String;"), (2, u "ordinal"), (0, u "I"), (1, .class_ 14), (1, u "java/lang/Object"), (4, u "hash"), (86, .class_ 108), (1, u "java/lang/Enum$EnumDesc"), (2, .class_ 112), (0, u "java/lang/constant/Constable"), (0, .class_ 114), (0, u "java/lang/Comparable"), (0, .class_ 116), (0, u "java/io/Serializable")] 87

/-- java/lang/Enum -/
def k5 : Class := { plain "java/lang/Enum" (some 0) with
  accessFlags := 1057
  interfaces := #[2, 3, 4]
  cf := some (fileOf pool5 2 #[.nestMembers #[106]] #[] 1057 12 #[111, 113, 115] #[{ accessFlags := 18, nameIndex := 5, descriptorIndex := 6, attributes := #[] }, { accessFlags := 18, nameIndex := 9, descriptorIndex := 10, attributes := #[] }, { accessFlags := 2, nameIndex := 19, descriptorIndex := 10, attributes := #[] }])
  fields := #[{ name := "name", type := (.object "java/lang/String"), accessFlags := 18, slot := 0, constantValue := 0 }, { name := "ordinal", type := .int, accessFlags := 18, slot := 1, constantValue := 0 }, { name := "hash", type := .int, accessFlags := 2, slot := 2, constantValue := 0 }]
  methods := #[]
  instanceTypes := #[(.object "java/lang/String"), .int, .int]
  staticTypes := #[]
  resolved := Array.replicate 204 none
  statics := none }

def pool6 : Array CpInfo := pool [(1, .class_ 2), (0, u "com/example/keptlog/keptlog/protocol/ApiKey"), (2, u "PRODUCE"), (0, u "Lcom/example/keptlog/keptlog/protocol/ApiKey;"), (2, u "FETCH"), (2, u "LIST_OFFSETS"), (2, u "METADATA"), (2, u "OFFSET_COMMIT"), (2, u "OFFSET_FETCH"), (2, u "FIND_COORDINATOR"), (2, u "JOIN_GROUP"), (2, u "HEARTBEAT"), (2, u "LEAVE_GROUP"), (2, u "SYNC_GROUP"), (2, u "DESCRIBE_GROUPS"), (2, u "LIST_GROUPS"), (2, u "API_VERSIONS"), (2, u "CREATE_TOPICS"), (2, u "$VALUES"), (0, u "[Lcom/example/keptlog/keptlog/protocol/ApiKey;"), (6, .class_ 61), (1, u "java/lang/Enum"), (11, u "id"), (0, u "S"), (2, u "title"), (0, u "Ljava/lang/String;"), (0, .fieldref 1 80), (0, .nameAndType 81 74), (0, u "minVersion"), (0, .fieldref 1 83), (0, .nameAndType 84 74), (0, u "maxVersion"), (2, u "firstTaggedVersion"), (0, u "I"), (16, u "supports"), (0, u "(S)Z")] 70

def k6c0 : Code := { maxStack := 2, maxLocals := 2, code := prog_33_method_10_code, exceptionTable := #[], attributes := #[] }
def k6m0 : Method := { name := "supports", desc := "(S)Z", sig := { parameters := [.short], returnType := some .boolean }, accessFlags := 1, code := some k6c0 }
/-- com/example/keptlog/keptlog/protocol/ApiKey -/
def k6 : Class := { plain "com/example/keptlog/keptlog/protocol/ApiKey" (some 5) with
  accessFlags := 16433
  interfaces := #[]
  cf := some (fileOf pool6 1 #[] #[{ accessFlags := 1, nameIndex := 105, descriptorIndex := 106, attributes := #[] }] 16433 59 #[] #[{ accessFlags := 16409, nameIndex := 5, descriptorIndex := 6, attributes := #[] }, { accessFlags := 16409, nameIndex := 9, descriptorIndex := 6, attributes := #[] }, { accessFlags := 16409, nameIndex := 12, descriptorIndex := 6, attributes := #[] }, { accessFlags := 16409, nameIndex := 15, descriptorIndex := 6, attributes := #[] }, { accessFlags := 16409, nameIndex := 18, descriptorIndex := 6, attributes := #[] }, { accessFlags := 16409, nameIndex := 21, descriptorIndex := 6, attributes := #[] }, { accessFlags := 16409, nameIndex := 24, descriptorIndex := 6, attributes := #[] }, { accessFlags := 16409, nameIndex := 27, descriptorIndex := 6, attributes := #[] }, { accessFlags := 16409, nameIndex := 30, descriptorIndex := 6, attributes := #[] }, { accessFlags := 16409, nameIndex := 33, descriptorIndex := 6, attributes := #[] }, { accessFlags := 16409, nameIndex := 36, descriptorIndex := 6, attributes := #[] }, { accessFlags := 16409, nameIndex := 39, descriptorIndex := 6, attributes := #[] }, { accessFlags := 16409, nameIndex := 42, descriptorIndex := 6, attributes := #[] }, { accessFlags := 16409, nameIndex := 45, descriptorIndex := 6, attributes := #[] }, { accessFlags := 16409, nameIndex := 48, descriptorIndex := 6, attributes := #[] }, { accessFlags := 18, nameIndex := 73, descriptorIndex := 74, attributes := #[] }, { accessFlags := 18, nameIndex := 77, descriptorIndex := 78, attributes := #[] }, { accessFlags := 18, nameIndex := 81, descriptorIndex := 74, attributes := #[] }, { accessFlags := 18, nameIndex := 84, descriptorIndex := 74, attributes := #[] }, { accessFlags := 18, nameIndex := 87, descriptorIndex := 88, attributes := #[] }, { accessFlags := 4122, nameIndex := 51, descriptorIndex := 52, attributes := #[] }])
  fields := #[{ name := "PRODUCE", type := (.object "com/example/keptlog/keptlog/protocol/ApiKey"), accessFlags := 16409, slot := 0, constantValue := 0 }, { name := "FETCH", type := (.object "com/example/keptlog/keptlog/protocol/ApiKey"), accessFlags := 16409, slot := 1, constantValue := 0 }, { name := "LIST_OFFSETS", type := (.object "com/example/keptlog/keptlog/protocol/ApiKey"), accessFlags := 16409, slot := 2, constantValue := 0 }, { name := "METADATA", type := (.object "com/example/keptlog/keptlog/protocol/ApiKey"), accessFlags := 16409, slot := 3, constantValue := 0 }, { name := "OFFSET_COMMIT", type := (.object "com/example/keptlog/keptlog/protocol/ApiKey"), accessFlags := 16409, slot := 4, constantValue := 0 }, { name := "OFFSET_FETCH", type := (.object "com/example/keptlog/keptlog/protocol/ApiKey"), accessFlags := 16409, slot := 5, constantValue := 0 }, { name := "FIND_COORDINATOR", type := (.object "com/example/keptlog/keptlog/protocol/ApiKey"), accessFlags := 16409, slot := 6, constantValue := 0 }, { name := "JOIN_GROUP", type := (.object "com/example/keptlog/keptlog/protocol/ApiKey"), accessFlags := 16409, slot := 7, constantValue := 0 }, { name := "HEARTBEAT", type := (.object "com/example/keptlog/keptlog/protocol/ApiKey"), accessFlags := 16409, slot := 8, constantValue := 0 }, { name := "LEAVE_GROUP", type := (.object "com/example/keptlog/keptlog/protocol/ApiKey"), accessFlags := 16409, slot := 9, constantValue := 0 }, { name := "SYNC_GROUP", type := (.object "com/example/keptlog/keptlog/protocol/ApiKey"), accessFlags := 16409, slot := 10, constantValue := 0 }, { name := "DESCRIBE_GROUPS", type := (.object "com/example/keptlog/keptlog/protocol/ApiKey"), accessFlags := 16409, slot := 11, constantValue := 0 }, { name := "LIST_GROUPS", type := (.object "com/example/keptlog/keptlog/protocol/ApiKey"), accessFlags := 16409, slot := 12, constantValue := 0 }, { name := "API_VERSIONS", type := (.object "com/example/keptlog/keptlog/protocol/ApiKey"), accessFlags := 16409, slot := 13, constantValue := 0 }, { name := "CREATE_TOPICS", type := (.object "com/example/keptlog/keptlog/protocol/ApiKey"), accessFlags := 16409, slot := 14, constantValue := 0 }, { name := "id", type := .short, accessFlags := 18, slot := 3, constantValue := 0 }, { name := "title", type := (.object "java/lang/String"), accessFlags := 18, slot := 4, constantValue := 0 }, { name := "minVersion", type := .short, accessFlags := 18, slot := 5, constantValue := 0 }, { name := "maxVersion", type := .short, accessFlags := 18, slot := 6, constantValue := 0 }, { name := "firstTaggedVersion", type := .int, accessFlags := 18, slot := 7, constantValue := 0 }, { name := "$VALUES", type := (.array (.object "com/example/keptlog/keptlog/protocol/ApiKey")), accessFlags := 4122, slot := 15, constantValue := 0 }]
  methods := #[k6m0]
  instanceTypes := #[(.object "java/lang/String"), .int, .int, .short, (.object "java/lang/String"), .short, .short, .int]
  staticTypes := #[(.object "com/example/keptlog/keptlog/protocol/ApiKey"), (.object "com/example/keptlog/keptlog/protocol/ApiKey"), (.object "com/example/keptlog/keptlog/protocol/ApiKey"), (.object "com/example/keptlog/keptlog/protocol/ApiKey"), (.object "com/example/keptlog/keptlog/protocol/ApiKey"), (.object "com/example/keptlog/keptlog/protocol/ApiKey"), (.object "com/example/keptlog/keptlog/protocol/ApiKey"), (.object "com/example/keptlog/keptlog/protocol/ApiKey"), (.object "com/example/keptlog/keptlog/protocol/ApiKey"), (.object "com/example/keptlog/keptlog/protocol/ApiKey"), (.object "com/example/keptlog/keptlog/protocol/ApiKey"), (.object "com/example/keptlog/keptlog/protocol/ApiKey"), (.object "com/example/keptlog/keptlog/protocol/ApiKey"), (.object "com/example/keptlog/keptlog/protocol/ApiKey"), (.object "com/example/keptlog/keptlog/protocol/ApiKey"), (.array (.object "com/example/keptlog/keptlog/protocol/ApiKey"))]
  resolved := Array.replicate 177 none
  statics := some 0 }

def pool7 : Array CpInfo := pool [(1, u "java/lang/Cloneable"), (0, .class_ 1), (0, u "java/lang/Object"), (0, .class_ 3)] 3

/-- java/lang/Cloneable -/
def k7 : Class := { plain "java/lang/Cloneable" (some 0) with
  accessFlags := 1537
  interfaces := #[]
  cf := some (fileOf pool7 2 #[] #[] 1537 4 #[] #[])
  fields := #[]
  methods := #[]
  instanceTypes := #[]
  staticTypes := #[]
  resolved := Array.replicate 8 none
  statics := none }

/-- the primitive byte -/
def k8 : Class := { plain "byte" none with kind := .primitive 'B', accessFlags := 0x411 }
/-- [B -/
def k9 : Class := { plain "[B" (some 0) with kind := .array 8 .byte, interfaces := #[7, 4], accessFlags := 1041 }

/-- the primitive int -/
def k10 : Class := { plain "int" none with kind := .primitive 'I', accessFlags := 0x411 }
/-- [I -/
def k11 : Class := { plain "[I" (some 0) with kind := .array 10 .int, interfaces := #[7, 4], accessFlags := 1041 }

def heap : Heap := #[{ cls := 6, slots := #[.ref 1, .ref 2, .ref 3, .ref 4, .ref 5, .ref 6, .ref 7, .ref 8, .ref 9, .ref 10, .ref 11, .ref 12, .ref 13, .ref 14, .ref 15, .null], vm := .statics 6 },
  { cls := 6, slots := #[.null, .int 0, .int 0, .int 0, .null, .int 0, .int 7, .int 0], vm := .none },
  { cls := 6, slots := #[.null, .int 1, .int 0, .int 0, .null, .int 4, .int 11, .int 0], vm := .none },
  { cls := 6, slots := #[.null, .int 2, .int 0, .int 0, .null, .int 1, .int 2, .int 0], vm := .none },
  { cls := 6, slots := #[.null, .int 3, .int 0, .int 0, .null, .int 0, .int 4, .int 0], vm := .none },
  { cls := 6, slots := #[.null, .int 4, .int 0, .int 0, .null, .int 2, .int 7, .int 0], vm := .none },
  { cls := 6, slots := #[.null, .int 5, .int 0, .int 0, .null, .int 1, .int 5, .int 0], vm := .none },
  { cls := 6, slots := #[.null, .int 6, .int 0, .int 0, .null, .int 0, .int 2, .int 0], vm := .none },
  { cls := 6, slots := #[.null, .int 7, .int 0, .int 0, .null, .int 0, .int 5, .int 0], vm := .none },
  { cls := 6, slots := #[.null, .int 8, .int 0, .int 0, .null, .int 0, .int 3, .int 0], vm := .none },
  { cls := 6, slots := #[.null, .int 9, .int 0, .int 0, .null, .int 0, .int 3, .int 0], vm := .none },
  { cls := 6, slots := #[.null, .int 10, .int 0, .int 0, .null, .int 0, .int 3, .int 0], vm := .none },
  { cls := 6, slots := #[.null, .int 11, .int 0, .int 0, .null, .int 0, .int 4, .int 0], vm := .none },
  { cls := 6, slots := #[.null, .int 12, .int 0, .int 0, .null, .int 0, .int 2, .int 0], vm := .none },
  { cls := 6, slots := #[.null, .int 13, .int 0, .int 0, .null, .int 0, .int 3, .int 0], vm := .none },
  { cls := 6, slots := #[.null, .int 14, .int 0, .int 0, .null, .int 0, .int 4, .int 0], vm := .none }]
def classes : Array Class := #[k0, k1, k2, k3, k4, k5, k6, k7, k8, k9, k10, k11]
def interned : List (Array UInt16 × Addr) := []
def slotsUsed : Nat := 136
def theMethod : MethodId := ⟨1, 2⟩
def args0 : Array Value := #[.int 10, .int 3, .int 4, .int 5]
def aboutOver (below : List Frame) : State where
  vm := { classes := classes, interned := interned.toArray }
  heap := heap
  slotsUsed := slotsUsed
  threads := #[{ frames := .invoking theMethod args0 :: below }]
def below0 : List Frame := [.native { method := ⟨0, 0⟩, args := #[] }]
def about1 : State := aboutOver below0
def p0 : Program := .bare "" "" ""
def e0 : Env := launch0.env 0 0 0
theorem w_frames : about1.frames = Frame.invoking theMethod args0 :: below0 := rfl
set_option maxRecDepth 65536 in
theorem w_args : argsFit about1.vm theMethod args0 = true := by decide +kernel
set_option maxRecDepth 65536 in
theorem w_heap : heapFits about1 = true := by decide +kernel
set_option maxRecDepth 65536 in
theorem w_runnable : about1.curStatus? = some .runnable := by decide +kernel
set_option maxRecDepth 65536 in
theorem w_alone : about1.alone = true := by decide +kernel
set_option maxRecDepth 65536 in
theorem w_named : about1.methodNamed? x = some theMethod := by decide +kernel
set_option maxRecDepth 65536 in
theorem w_hears : about1.hears theMethod below0 = true := by decide +kernel
set_option maxRecDepth 65536 in
theorem w_ripe : about1.ripe theMethod args0 below0 = true := by decide +kernel
theorem w_running : about1.status = .running := rfl
set_option maxRecDepth 65536 in
theorem w_room : about1.hasRoom e0.platform room_1 = true :=
  launch0.hasRoom_least _ room_1 (by decide +kernel) (by decide +kernel) (by decide +kernel) (by decide +kernel) (by decide +kernel) (by decide +kernel)
theorem allAtoms_all (ts : List Jvm.Cond) (a : Array Jvm.Value) (st : Jvm.State) : (allAtoms ts).before a st = ts.all (fun c => c.before a st) := by
  induction ts with
  | nil => rfl
  | cons c t ih =>
    show (Jvm.Cond.and c (allAtoms t)).before a st = _
    rw [Jvm.Cond.before_and, ih, List.all_cons]
def words1 : List Jvm.Cond := Jvm.Cond.code x code maxLocals ret :: tables_1
/-- a 'code' word, met by the world's own term for the bytes: nothing is compared byte by byte -/
theorem code_word {y : MethodName} {bytes : ByteArray} {mx : Nat} {rt : Option FieldType} {a : Array Value} {s : State} {m : MethodId} {meth : Method} {c : Code} (h1 : s.methodNamed? y = some m) (h2 : s.vm.method? m = some meth) (h3 : meth.code = some c) (h4 : c.code = bytes)
    (h5 : (c.maxLocals == mx && c.exceptionTable.isEmpty && decide (c.maxStack ≤ mostOperands) && decide (meth.sig.returnType = rt) && !meth.locks && decide (parseMethodDescriptor y.desc = some meth.sig)) = true) : (Jvm.Cond.code y bytes mx rt).before a s = true := by
  simp only [Bool.and_eq_true, beq_iff_eq, Bool.not_eq_true', decide_eq_true_eq] at h5
  obtain ⟨⟨⟨⟨⟨g1, g2⟩, g3⟩, g4⟩, g5⟩, g6⟩ := h5
  simp [Cond.before, Cond.holds, Cond.value, h1, h2, h3, h4, g1, g2, g3, g4, g5, g6]
def isCode : Jvm.Cond → Bool
  | .code _ _ _ _ => true
  | _ => false
theorem all_split {L : List Jvm.Cond} {P : Jvm.Cond → Bool} (h1 : L.all (fun c => isCode c || P c) = true) (h2 : ∀ c ∈ L.filter isCode, P c = true) : L.all P = true := by
  refine List.all_eq_true.mpr fun c hc => ?_
  have h := List.all_eq_true.mp h1 c hc
  rcases Bool.eq_false_or_eq_true (isCode c) with hi | hi
  · exact h2 c (List.mem_filter.mpr ⟨hc, hi⟩)
  · simpa [hi] using h
set_option maxRecDepth 65536 in
theorem w_c0 : (Jvm.Cond.code x code maxLocals ret).before args0 about1 = true := code_word (m := ⟨1, 2⟩) (meth := k1m2) (c := k1c2) (by decide +kernel) rfl rfl rfl (by decide +kernel)
set_option maxRecDepth 65536 in
theorem w_c1 : (Jvm.Cond.code ({ cls := "com/example/keptlog/keptlog/protocol/ApiKeySupportsPinLaw", name := "key", desc := "(I)Lcom/example/keptlog/keptlog/protocol/ApiKey;" } : Jvm.MethodName) method_2_code (1 : Nat) (Option.some (Jvm.ClassFile.FieldType.object "com/example/keptlog/keptlog/protocol/ApiKey"))).before args0 about1 = true := code_word (m := ⟨1, 1⟩) (meth := k1m1) (c := k1c1) (by decide +kernel) rfl rfl rfl (by decide +kernel)
set_option maxRecDepth 65536 in
theorem w_c2 : (Jvm.Cond.code ({ cls := "com/example/keptlog/keptlog/protocol/ApiKey", name := "supports", desc := "(S)Z" } : Jvm.MethodName) prog_33_method_10_code (2 : Nat) (Option.some Jvm.ClassFile.FieldType.boolean)).before args0 about1 = true := code_word (m := ⟨6, 0⟩) (meth := k6m0) (c := k6c0) (by decide +kernel) rfl rfl rfl (by decide +kernel)
def codes1 : List Jvm.Cond := [Jvm.Cond.code x code maxLocals ret, Jvm.Cond.code ({ cls := "com/example/keptlog/keptlog/protocol/ApiKeySupportsPinLaw", name := "key", desc := "(I)Lcom/example/keptlog/keptlog/protocol/ApiKey;" } : Jvm.MethodName) method_2_code (1 : Nat) (Option.some (Jvm.ClassFile.FieldType.object "com/example/keptlog/keptlog/protocol/ApiKey")), Jvm.Cond.code ({ cls := "com/example/keptlog/keptlog/protocol/ApiKey", name := "supports", desc := "(S)Z" } : Jvm.MethodName) prog_33_method_10_code (2 : Nat) (Option.some Jvm.ClassFile.FieldType.boolean)]
set_option maxRecDepth 65536 in
theorem codes_eq : words1.filter isCode = codes1 := rfl
theorem w_codes : ∀ c ∈ words1.filter isCode, c.before args0 about1 = true := by
  rw [codes_eq]
  intro c hc
  simp only [codes1, List.mem_cons, List.not_mem_nil, or_false] at hc
  rcases hc with rfl | rfl | rfl
  · exact w_c0
  · exact w_c1
  · exact w_c2
set_option maxRecDepth 65536 in
theorem w_t1 : (words1.take 24).all (fun c => isCode c || c.before args0 about1) = true := by decide +kernel
set_option maxRecDepth 65536 in
theorem w_t2 : (words1.drop 24).all (fun c => isCode c || c.before args0 about1) = true := by decide +kernel
theorem w_tables : (allAtoms (Jvm.Cond.code x code maxLocals ret :: tables_1)).before args0 about1 = true := by
  rw [allAtoms_all]
  show words1.all (fun c => c.before args0 about1) = true
  refine all_split ?_ w_codes
  rw [← List.take_append_drop 24 words1, List.all_append, w_t1, w_t2]
  rfl
set_option maxRecDepth 65536 in
theorem w_case : (Jvm.Cond.and given_1 narrow_1).before args0 about1 = true := by decide +kernel
theorem w_applies : (headSpec (Jvm.Cond.code x code maxLocals ret :: tables_1) room_1).applies x e0.platform about1 = true :=
  (Spec.applies_iff w_frames).mpr ⟨w_running, w_runnable, w_alone, w_named, w_hears, w_ripe, w_room, w_tables⟩
theorem atStart : AtStart classFile x code maxLocals ret World_1 tables_1 room_1 Calls_1 rest_1 Pre_1 launch0 p0 e0 about1 theMethod args0 below0 :=
  ⟨lists_1, trivial, launch0.admits_env _ _ _, launch0.least_env, fairChoices_fair.cas, fairChoices_fair.clock, w_frames, w_args, w_heap, w_applies, trivial, trivial, w_case⟩
end start1
theorem witness_1 : WitnessClaimed_1 := ⟨start1.p0, start1.e0, start1.about1, start1.theMethod, start1.args0, start1.below0, start1.atStart⟩
end Jvm.Pilot.@@N@@
