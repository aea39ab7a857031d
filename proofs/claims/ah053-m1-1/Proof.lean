import JvmDerived
import JvmDerived.Pilot.@@N@@Statement
import JvmDerived.Pilot.@@N@@Code
set_option linter.unusedVariables false
set_option linter.unusedSimpArgs false

namespace Jvm.RoadKit
open Sem ClassFile Op Lib Jvm.Stand Jvm.Free Jvm.LawKit
section New
variable {p : Program} {l : Launch} {e : Env} {R : Room} {s : State} {m : MethodId} {args : Array Value} {below : List Frame} {meth : Method} {c : Code} {T : State} {locs : List Loc} {cells slots : Nat}
theorem retI (X : Stand p l e R s m args below meth c T locs cells slots) (hx : p.tables.exec = Jvm.exec) {pc : Nat} {Ls : Array Slot} {z : Int32} {rest : List Value} (hret : meth.sig.returnType = some .int) (hd : decode c.code pc = .ok (.ireturn, 1)) {fs : List Frame}
    (hl : ∀ (f : JFrame) (acts : List Action), f.method = m → f.locked = none → f.entered = [] → (doReturn e (T.setTop f) acts (some (.int z))).1 = T.setFrames fs) : Steps p.tables e below (T.setTop (mkF m pc Ls (.int z :: rest))) (T.setFrames fs) :=
  retOut X hx hret rfl (Or.inl ⟨rfl, Or.inl rfl, z, rfl⟩) hd hl
theorem own_retL (X : Stand p l e R s m args below meth c T locs cells slots) (hx : p.tables.exec = Jvm.exec) {pc : Nat} {Ls : Array Slot} {z : Int64} {rest : List Value} (hret : meth.sig.returnType = some .long) (hd : decode c.code pc = .ok (.lreturn, 1)) {fs : List Frame}
    (hl : ∀ (f : JFrame) (acts : List Action), f.method = m → f.locked = none → f.entered = [] → (doReturn e (T.setTop f) acts (some (.long z))).1 = T.setFrames fs) : Steps p.tables e below (T.setTop (mkF m pc Ls (.long z :: rest))) (T.setFrames fs) :=
  retOut X hx hret rfl (Or.inr (Or.inl ⟨rfl, rfl, z, rfl⟩)) hd hl
theorem own_retA (X : Stand p l e R s m args below meth c T locs cells slots) (hx : p.tables.exec = Jvm.exec) {pc : Nat} {Ls : Array Slot} {w : Value} {t : FieldType} {rest : List Value} (hret : meth.sig.returnType = some t) (ht : t.isReference = true) (hw : w.isRef = true) (hd : decode c.code pc = .ok (.areturn, 1)) {fs : List Frame}
    (hl : ∀ (f : JFrame) (acts : List Action), f.method = m → f.locked = none → f.entered = [] → (doReturn e (T.setTop f) acts (some w)).1 = T.setFrames fs) : Steps p.tables e below (T.setTop (mkF m pc Ls (w :: rest))) (T.setFrames fs) :=
  retOut X hx hret (by cases t <;> first | (cases ht; done) | (cases w <;> first | rfl | cases hw)) (Or.inr (Or.inr (Or.inr (Or.inr ⟨rfl, ht, hw⟩)))) hd hl
theorem own_back {tb : Tables} {e : Env} {below : List Frame} {a b : State} {P : State → Outcome → Prop} (h : ∀ t, Steps tb e below b t → Steps tb e below a t) (k : ∃ t o, Steps tb e below b t ∧ P t o) : ∃ t o, Steps tb e below a t ∧ P t o := by
  obtain ⟨t, o, k1, k2⟩ := k
  exact ⟨t, o, h t k1, k2⟩
theorem own_sta_keep {Z : State} {h h' : Heap} {C n d : String} {v : Value} (F : Sta Z h C n d v) (K : Keep h h' []) : Sta Z h' C n d v := by
  obtain ⟨cf, i, k, f, st, cell, h1, h2, h3, h4, h5, r⟩ := F
  exact ⟨cf, i, k, f, st, cell, h1, h2, h3, h4, K.2.1 _ _ h5 nin0, r⟩
def ElA (Z : State) (h : Heap) (a : Addr) (ty : FieldType) (j : Int32) (v : Value) : Prop := ∃ c : Cell, Arr Z h a c ty ∧ ¬ (j < 0 ∨ c.slots.size ≤ j.toNatClampNeg) ∧ c.slots[j.toNatClampNeg]? = some v
theorem ElA.lt {Z : State} {h : Heap} {a : Addr} {ty : FieldType} {j : Int32} {v : Value} (F : ElA Z h a ty j v) : a < h.size := by obtain ⟨c, A, -⟩ := F; exact A.lt
theorem ElA.ext {Z : State} {h h' : Heap} {a : Addr} {ty : FieldType} {j : Int32} {v : Value} (F : ElA Z h a ty j v) (E : Ext h h') : ElA Z h' a ty j v := by obtain ⟨c, A, r⟩ := F; exact ⟨c, A.ext E, r⟩
theorem ElA.other {Z : State} {h h' : Heap} {a b : Addr} {ty : FieldType} {j : Int32} {v w : Value} {sl : Nat} (F : ElA Z h b ty j v) (W : Wr h h' a sl w) (q : b ≠ a) : ElA Z h' b ty j v := by obtain ⟨c, A, r⟩ := F; exact ⟨c, A.other W q, r⟩
theorem ElA.keep {Z : State} {h h' : Heap} {a : Addr} {ty : FieldType} {j : Int32} {v : Value} {ws : List Addr} (F : ElA Z h a ty j v) (K : Keep h h' ws) (q : a ∉ ws) : ElA Z h' a ty j v := by obtain ⟨c, A, r⟩ := F; exact ⟨c, ⟨K.2.1 a c A.1 q, A.2⟩, r⟩
theorem ElA.store {Z : State} {h h' : Heap} {a : Addr} {ty : FieldType} {j : Int32} {v : Value} {c : Cell} (A : Arr Z h a c ty) (hj : ¬ (j < 0 ∨ c.slots.size ≤ j.toNatClampNeg)) (W : Wr h h' a j.toNatClampNeg v) : ElA Z h' a ty j v :=
  ⟨_, A.same W, by rw [sz_set]; exact hj, get_hit hj rfl⟩
theorem own_irr (x : Int32) : ¬ x < x := by rw [Int32.lt_iff_toInt_lt]; omega
theorem own_irrL (x : Int64) : ¬ x < x := by rw [Int64.lt_iff_toInt_lt]; omega
end New
end Jvm.RoadKit
namespace Jvm.Pilot.@@N@@
open Jvm Jvm.ClassFile Sem Op Lib Jvm.Free Jvm.Stand Jvm.LawKit Jvm.RoadKit Bundle Jvm.Pilot.@@N@@.Jvm.D

theorem d1_0 : decode method_3_code 0 = .ok (.iload_n 0, 1) := by decide +kernel
theorem d1_1 : decode method_3_code 1 = .ok (.ifCond .ne 7, 3) := by decide +kernel
theorem d1_4 : decode method_3_code 4 = .ok (.getstatic 24, 3) := by decide +kernel
theorem d1_7 : decode method_3_code 7 = .ok (.areturn, 1) := by decide +kernel
theorem d1_8 : decode method_3_code 8 = .ok (.iload_n 0, 1) := by decide +kernel
theorem d1_9 : decode method_3_code 9 = .ok (.iconst 1, 1) := by decide +kernel
theorem d1_10 : decode method_3_code 10 = .ok (.if_icmp .ne 7, 3) := by decide +kernel
theorem d1_13 : decode method_3_code 13 = .ok (.getstatic 28, 3) := by decide +kernel
theorem d1_16 : decode method_3_code 16 = .ok (.areturn, 1) := by decide +kernel
theorem d1_17 : decode method_3_code 17 = .ok (.iload_n 0, 1) := by decide +kernel
theorem d1_18 : decode method_3_code 18 = .ok (.iconst 2, 1) := by decide +kernel
theorem d1_19 : decode method_3_code 19 = .ok (.if_icmp .ne 7, 3) := by decide +kernel
theorem d1_22 : decode method_3_code 22 = .ok (.getstatic 31, 3) := by decide +kernel
theorem d1_25 : decode method_3_code 25 = .ok (.areturn, 1) := by decide +kernel
theorem d1_26 : decode method_3_code 26 = .ok (.iload_n 0, 1) := by decide +kernel
theorem d1_27 : decode method_3_code 27 = .ok (.iconst 3, 1) := by decide +kernel
theorem d1_28 : decode method_3_code 28 = .ok (.if_icmp .ne 7, 3) := by decide +kernel
theorem d1_31 : decode method_3_code 31 = .ok (.getstatic 34, 3) := by decide +kernel
theorem d1_34 : decode method_3_code 34 = .ok (.areturn, 1) := by decide +kernel
theorem d1_35 : decode method_3_code 35 = .ok (.iload_n 0, 1) := by decide +kernel
theorem d1_36 : decode method_3_code 36 = .ok (.iconst 4, 1) := by decide +kernel
theorem d1_37 : decode method_3_code 37 = .ok (.if_icmp .ne 7, 3) := by decide +kernel
theorem d1_40 : decode method_3_code 40 = .ok (.getstatic 37, 3) := by decide +kernel
theorem d1_43 : decode method_3_code 43 = .ok (.areturn, 1) := by decide +kernel
theorem d1_44 : decode method_3_code 44 = .ok (.iload_n 0, 1) := by decide +kernel
theorem d1_45 : decode method_3_code 45 = .ok (.iconst 5, 1) := by decide +kernel
theorem d1_46 : decode method_3_code 46 = .ok (.if_icmp .ne 7, 3) := by decide +kernel
theorem d1_49 : decode method_3_code 49 = .ok (.getstatic 40, 3) := by decide +kernel
theorem d1_52 : decode method_3_code 52 = .ok (.areturn, 1) := by decide +kernel
theorem d1_53 : decode method_3_code 53 = .ok (.iload_n 0, 1) := by decide +kernel
theorem d1_54 : decode method_3_code 54 = .ok (.bipush 6, 2) := by decide +kernel
theorem d1_56 : decode method_3_code 56 = .ok (.if_icmp .ne 7, 3) := by decide +kernel
theorem d1_59 : decode method_3_code 59 = .ok (.getstatic 43, 3) := by decide +kernel
theorem d1_62 : decode method_3_code 62 = .ok (.areturn, 1) := by decide +kernel
theorem d1_63 : decode method_3_code 63 = .ok (.iload_n 0, 1) := by decide +kernel
theorem d1_64 : decode method_3_code 64 = .ok (.bipush 7, 2) := by decide +kernel
theorem d1_66 : decode method_3_code 66 = .ok (.if_icmp .ne 7, 3) := by decide +kernel
theorem d1_69 : decode method_3_code 69 = .ok (.getstatic 46, 3) := by decide +kernel
theorem d1_72 : decode method_3_code 72 = .ok (.areturn, 1) := by decide +kernel
theorem d1_73 : decode method_3_code 73 = .ok (.iload_n 0, 1) := by decide +kernel
theorem d1_74 : decode method_3_code 74 = .ok (.bipush 8, 2) := by decide +kernel
theorem d1_76 : decode method_3_code 76 = .ok (.if_icmp .ne 7, 3) := by decide +kernel
theorem d1_79 : decode method_3_code 79 = .ok (.getstatic 49, 3) := by decide +kernel
theorem d1_82 : decode method_3_code 82 = .ok (.areturn, 1) := by decide +kernel
theorem d1_83 : decode method_3_code 83 = .ok (.iload_n 0, 1) := by decide +kernel
theorem d1_84 : decode method_3_code 84 = .ok (.bipush 9, 2) := by decide +kernel
theorem d1_86 : decode method_3_code 86 = .ok (.if_icmp .ne 7, 3) := by decide +kernel
theorem d1_89 : decode method_3_code 89 = .ok (.getstatic 52, 3) := by decide +kernel
theorem d1_92 : decode method_3_code 92 = .ok (.areturn, 1) := by decide +kernel
theorem d1_93 : decode method_3_code 93 = .ok (.iload_n 0, 1) := by decide +kernel
theorem d1_94 : decode method_3_code 94 = .ok (.bipush 10, 2) := by decide +kernel
theorem d1_96 : decode method_3_code 96 = .ok (.if_icmp .ne 7, 3) := by decide +kernel
theorem d1_99 : decode method_3_code 99 = .ok (.getstatic 55, 3) := by decide +kernel
theorem d1_102 : decode method_3_code 102 = .ok (.areturn, 1) := by decide +kernel
theorem d1_103 : decode method_3_code 103 = .ok (.iload_n 0, 1) := by decide +kernel
theorem d1_104 : decode method_3_code 104 = .ok (.bipush 11, 2) := by decide +kernel
theorem d1_106 : decode method_3_code 106 = .ok (.if_icmp .ne 7, 3) := by decide +kernel
theorem d1_109 : decode method_3_code 109 = .ok (.getstatic 58, 3) := by decide +kernel
theorem d1_112 : decode method_3_code 112 = .ok (.areturn, 1) := by decide +kernel
theorem d1_113 : decode method_3_code 113 = .ok (.iload_n 0, 1) := by decide +kernel
theorem d1_114 : decode method_3_code 114 = .ok (.bipush 12, 2) := by decide +kernel
theorem d1_116 : decode method_3_code 116 = .ok (.if_icmp .ne 7, 3) := by decide +kernel
theorem d1_119 : decode method_3_code 119 = .ok (.getstatic 61, 3) := by decide +kernel
theorem d1_122 : decode method_3_code 122 = .ok (.areturn, 1) := by decide +kernel
theorem d1_123 : decode method_3_code 123 = .ok (.iload_n 0, 1) := by decide +kernel
theorem d1_124 : decode method_3_code 124 = .ok (.bipush 13, 2) := by decide +kernel
theorem d1_126 : decode method_3_code 126 = .ok (.if_icmp .ne 7, 3) := by decide +kernel
theorem d1_129 : decode method_3_code 129 = .ok (.getstatic 64, 3) := by decide +kernel
theorem d1_132 : decode method_3_code 132 = .ok (.areturn, 1) := by decide +kernel
theorem d1_133 : decode method_3_code 133 = .ok (.iload_n 0, 1) := by decide +kernel
theorem d1_134 : decode method_3_code 134 = .ok (.bipush 14, 2) := by decide +kernel
theorem d1_136 : decode method_3_code 136 = .ok (.if_icmp .ne 7, 3) := by decide +kernel
theorem d1_139 : decode method_3_code 139 = .ok (.getstatic 67, 3) := by decide +kernel
theorem d1_142 : decode method_3_code 142 = .ok (.areturn, 1) := by decide +kernel
theorem d1_143 : decode method_3_code 143 = .ok (.getstatic 70, 3) := by decide +kernel
theorem d1_146 : decode method_3_code 146 = .ok (.areturn, 1) := by decide +kernel
theorem pn_1 : plainName "com/example/urial/urial/protocol/ApiKeySupportsPinLaw" = true := by first | (simp [plainName, overriddenIn]; done) | decide +kernel
theorem ef_1 (m : MethodId) (x0 : Int32) : entryFrame m #[(.int x0)] 1 = mkF m 0 #[.val (.int x0)] [] := by first | (simp [entryFrame, mkF, argsToLocals, Value.category]; done) | rfl
def f1 (p0 : Int32) (w_PRODUCE : Addr) (w_FETCH : Addr) (w_LIST_OFFSETS : Addr) (w_METADATA : Addr) (w_OFFSET_COMMIT : Addr) (w_OFFSET_FETCH : Addr) (w_FIND_COORDINATOR : Addr) (w_JOIN_GROUP : Addr) (w_HEARTBEAT : Addr) (w_LEAVE_GROUP : Addr) (w_SYNC_GROUP : Addr) (w_DESCRIBE_GROUPS : Addr) (w_LIST_GROUPS : Addr) (w_API_VERSIONS : Addr) (w_CREATE_TOPICS : Addr) (w_DELETE_TOPICS : Addr) : Addr := (if p0 = (0 : Int32) then w_PRODUCE else (if p0 = (1 : Int32) then w_FETCH else (if p0 = (2 : Int32) then w_LIST_OFFSETS else (if p0 = (3 : Int32) then w_METADATA else (if p0 = (4 : Int32) then w_OFFSET_COMMIT else (if p0 = (5 : Int32) then w_OFFSET_FETCH else (if p0 = (6 : Int32) then w_FIND_COORDINATOR else (if p0 = (7 : Int32) then w_JOIN_GROUP else (if p0 = (8 : Int32) then w_HEARTBEAT else (if p0 = (9 : Int32) then w_LEAVE_GROUP else (if p0 = (10 : Int32) then w_SYNC_GROUP else (if p0 = (11 : Int32) then w_DESCRIBE_GROUPS else (if p0 = (12 : Int32) then w_LIST_GROUPS else (if p0 = (13 : Int32) then w_API_VERSIONS else (if p0 = (14 : Int32) then w_CREATE_TOPICS else w_DELETE_TOPICS)))))))))))))))
def Q1 (Z : State) (p0 : Int32) (w_PRODUCE : Addr) (w_FETCH : Addr) (w_LIST_OFFSETS : Addr) (w_METADATA : Addr) (w_OFFSET_COMMIT : Addr) (w_OFFSET_FETCH : Addr) (w_FIND_COORDINATOR : Addr) (w_JOIN_GROUP : Addr) (w_HEARTBEAT : Addr) (w_LEAVE_GROUP : Addr) (w_SYNC_GROUP : Addr) (w_DESCRIBE_GROUPS : Addr) (w_LIST_GROUPS : Addr) (w_API_VERSIONS : Addr) (w_CREATE_TOPICS : Addr) (w_DELETE_TOPICS : Addr) (h0 : Heap) (n0 : Nat) (v : Option Value) (h : Heap) (L : List Loc) : Prop := v = some (.ref (f1 p0 w_PRODUCE w_FETCH w_LIST_OFFSETS w_METADATA w_OFFSET_COMMIT w_OFFSET_FETCH w_FIND_COORDINATOR w_JOIN_GROUP w_HEARTBEAT w_LEAVE_GROUP w_SYNC_GROUP w_DESCRIBE_GROUPS w_LIST_GROUPS w_API_VERSIONS w_CREATE_TOPICS w_DELETE_TOPICS)) ∧ Fr n0 L ∧ h = h0
set_option maxRecDepth 65536 in
set_option maxHeartbeats 40000000 in
theorem rm1 (l : Launch) (Z : State) (aw : Array Value) (hw : ∀ d ∈ tables_1, d.before aw Z = true) (ws : List Jvm.Cond) (p0 : Int32) (w_PRODUCE : Addr) (w_FETCH : Addr) (w_LIST_OFFSETS : Addr) (w_METADATA : Addr) (w_OFFSET_COMMIT : Addr) (w_OFFSET_FETCH : Addr) (w_FIND_COORDINATOR : Addr) (w_JOIN_GROUP : Addr) (w_HEARTBEAT : Addr) (w_LEAVE_GROUP : Addr) (w_SYNC_GROUP : Addr) (w_DESCRIBE_GROUPS : Addr) (w_LIST_GROUPS : Addr) (w_API_VERSIONS : Addr) (w_CREATE_TOPICS : Addr) (w_DELETE_TOPICS : Addr) (h0 : Heap) (n0 : Nat) (Z0 : n0 ≤ h0.size) (S_PRODUCE : Sta Z h0 "com/example/urial/urial/protocol/ApiKey" "PRODUCE" "Lcom/example/urial/urial/protocol/ApiKey;" (.ref w_PRODUCE)) (S_FETCH : Sta Z h0 "com/example/urial/urial/protocol/ApiKey" "FETCH" "Lcom/example/urial/urial/protocol/ApiKey;" (.ref w_FETCH)) (S_LIST_OFFSETS : Sta Z h0 "com/example/urial/urial/protocol/ApiKey" "LIST_OFFSETS" "Lcom/example/urial/urial/protocol/ApiKey;" (.ref w_LIST_OFFSETS)) (S_METADATA : Sta Z h0 "com/example/urial/urial/protocol/ApiKey" "METADATA" "Lcom/example/urial/urial/protocol/ApiKey;" (.ref w_METADATA)) (S_OFFSET_COMMIT : Sta Z h0 "com/example/urial/urial/protocol/ApiKey" "OFFSET_COMMIT" "Lcom/example/urial/urial/protocol/ApiKey;" (.ref w_OFFSET_COMMIT)) (S_OFFSET_FETCH : Sta Z h0 "com/example/urial/urial/protocol/ApiKey" "OFFSET_FETCH" "Lcom/example/urial/urial/protocol/ApiKey;" (.ref w_OFFSET_FETCH)) (S_FIND_COORDINATOR : Sta Z h0 "com/example/urial/urial/protocol/ApiKey" "FIND_COORDINATOR" "Lcom/example/urial/urial/protocol/ApiKey;" (.ref w_FIND_COORDINATOR)) (S_JOIN_GROUP : Sta Z h0 "com/example/urial/urial/protocol/ApiKey" "JOIN_GROUP" "Lcom/example/urial/urial/protocol/ApiKey;" (.ref w_JOIN_GROUP)) (S_HEARTBEAT : Sta Z h0 "com/example/urial/urial/protocol/ApiKey" "HEARTBEAT" "Lcom/example/urial/urial/protocol/ApiKey;" (.ref w_HEARTBEAT)) (S_LEAVE_GROUP : Sta Z h0 "com/example/urial/urial/protocol/ApiKey" "LEAVE_GROUP" "Lcom/example/urial/urial/protocol/ApiKey;" (.ref w_LEAVE_GROUP)) (S_SYNC_GROUP : Sta Z h0 "com/example/urial/urial/protocol/ApiKey" "SYNC_GROUP" "Lcom/example/urial/urial/protocol/ApiKey;" (.ref w_SYNC_GROUP)) (S_DESCRIBE_GROUPS : Sta Z h0 "com/example/urial/urial/protocol/ApiKey" "DESCRIBE_GROUPS" "Lcom/example/urial/urial/protocol/ApiKey;" (.ref w_DESCRIBE_GROUPS)) (S_LIST_GROUPS : Sta Z h0 "com/example/urial/urial/protocol/ApiKey" "LIST_GROUPS" "Lcom/example/urial/urial/protocol/ApiKey;" (.ref w_LIST_GROUPS)) (S_API_VERSIONS : Sta Z h0 "com/example/urial/urial/protocol/ApiKey" "API_VERSIONS" "Lcom/example/urial/urial/protocol/ApiKey;" (.ref w_API_VERSIONS)) (S_CREATE_TOPICS : Sta Z h0 "com/example/urial/urial/protocol/ApiKey" "CREATE_TOPICS" "Lcom/example/urial/urial/protocol/ApiKey;" (.ref w_CREATE_TOPICS)) (S_DELETE_TOPICS : Sta Z h0 "com/example/urial/urial/protocol/ApiKey" "DELETE_TOPICS" "Lcom/example/urial/urial/protocol/ApiKey;" (.ref w_DELETE_TOPICS)) :
    MetFree l (⟨"com/example/urial/urial/protocol/ApiKeySupportsPinLaw", "pick", "(I)Lcom/example/urial/urial/protocol/ApiKey;"⟩ : MethodName) (head1 (Jvm.Cond.code (⟨"com/example/urial/urial/protocol/ApiKeySupportsPinLaw", "pick", "(I)Lcom/example/urial/urial/protocol/ApiKey;"⟩ : MethodName) method_3_code 1 (some (.object "com/example/urial/urial/protocol/ApiKey")) :: ws) ({ frames := 0, cells := 0, slots := 0, locals := 0 } : Room)) (fun a U => a = #[(.int p0)] ∧ Z.Warmed39 U.vm ∧ U.heap = h0) (fun _ _ _ _ _ => True) (fun _ U o U' => ∃ v L, o = .returned v ∧ Q1 Z p0 w_PRODUCE w_FETCH w_LIST_OFFSETS w_METADATA w_OFFSET_COMMIT w_OFFSET_FETCH w_FIND_COORDINATOR w_JOIN_GROUP w_HEARTBEAT w_LEAVE_GROUP w_SYNC_GROUP w_DESCRIBE_GROUPS w_LIST_GROUPS w_API_VERSIONS w_CREATE_TOPICS w_DELETE_TOPICS h0 n0 v U'.heap L ∧ FrameEnd U o U' L ({ frames := 0, cells := 0, slots := 0, locals := 0 } : Room).cells ({ frames := 0, cells := 0, slots := 0, locals := 0 } : Room).slots) := by
  refine MetFree.of_bodySF (plainFor_of_name pn_1) hisR ?_
  intro p e s m args below meth c s₁ Bd hml0 hP hK
  obtain ⟨rfl, hZ, hh⟩ := hP
  have hx := Bd.exec
  have hby := Bd.bytes
  have hml : c.maxLocals = 1 := hml0
  have hown : s.vm.findClass "com/example/urial/urial/protocol/ApiKeySupportsPinLaw" = some m.cls := findClass_of_methodNamed Bd.named
  have hnm := (name_of_methodNamed Bd.named Bd.method).1
  have X0 : Stand p l e ({ frames := 0, cells := 0, slots := 0, locals := 0 } : Room) s m #[(.int p0)] below meth c s₁ [] 0 0 := Stand.of_body Bd
  have e0 : s₁.heap = h0 := by rw [← hh, Bd.state]; rfl
  have N0 := Fr.nil n0
  refine own_back (b := s₁.setTop (mkF m 0 #[.val (.int p0)] [])) (fun t kt => castTop (ef_1 m p0) kt) ?_
  refine own_back (b := s₁.setTop (mkF m 1 #[.val (.int p0)] [(.int p0)])) (fun t kt => ?_) ?_
  · show Steps p.tables e below (s₁.setTop (mkF m 0 #[.val (.int p0)] [])) _
    refine XS.iloadN X0.here hx rfl (hb hby d1_0) rfl ?_
    exact kt
  by_cases hc1_1 : p0 = (0 : Int32)
  · obtain ⟨T2, X2, e2, st2⟩ := getS2 X0 hx hZ hown (host := "") (Or.inl (hw _ (List.mem_of_getElem? (i := 5) rfl))) Via.refl e0 S_PRODUCE (g := (mkF m 4 #[.val (.int p0)] [])) rfl (hb hby d1_4)
    refine own_back (b := T2.setTop (mkF m 7 #[.val (.int p0)] [(.ref w_PRODUCE)])) (fun t kt => ?_) ?_
    · show Steps p.tables e below (s₁.setTop (mkF m 1 #[.val (.int p0)] [(.int p0)])) _
      refine XS.ifNo X0.here hx rfl (hb hby d1_1) rfl ((if0 _ _).trans (teq hc1_1).2) ?_
      show Steps p.tables e below (s₁.setTop (mkF m 4 #[.val (.int p0)] [])) _
      refine st2 _ ?_
      exact kt
    obtain ⟨fs, hr, hrun, hended, hW, hsame⟩ := X2.leave (v := some (.ref w_PRODUCE)) (fun h => by rw [Bd.returns] at h; cases h)
    refine ⟨_, _, ?_, hrun, hended, _, _, rfl, ?_, ⟨_, rfl⟩, hW, hsame.mono (by decide) (by decide)⟩
    · show Steps p.tables e below (T2.setTop (mkF m 7 #[.val (.int p0)] [(.ref w_PRODUCE)])) _
      exact own_retA X2 hx Bd.returns rfl rfl (hb hby d1_7) hr
    · show Q1 Z p0 w_PRODUCE w_FETCH w_LIST_OFFSETS w_METADATA w_OFFSET_COMMIT w_OFFSET_FETCH w_FIND_COORDINATOR w_JOIN_GROUP w_HEARTBEAT w_LEAVE_GROUP w_SYNC_GROUP w_DESCRIBE_GROUPS w_LIST_GROUPS w_API_VERSIONS w_CREATE_TOPICS w_DELETE_TOPICS h0 n0 _ T2.heap _
      rw [e2]
      exact ⟨by rw [show f1 p0 w_PRODUCE w_FETCH w_LIST_OFFSETS w_METADATA w_OFFSET_COMMIT w_OFFSET_FETCH w_FIND_COORDINATOR w_JOIN_GROUP w_HEARTBEAT w_LEAVE_GROUP w_SYNC_GROUP w_DESCRIBE_GROUPS w_LIST_GROUPS w_API_VERSIONS w_CREATE_TOPICS w_DELETE_TOPICS = w_PRODUCE from by unfold f1; rw [if_pos hc1_1]], N0, rfl⟩
  · refine own_back (b := s₁.setTop (mkF m 10 #[.val (.int p0)] [(.int (1 : Int32)), (.int p0)])) (fun t kt => ?_) ?_
    · show Steps p.tables e below (s₁.setTop (mkF m 1 #[.val (.int p0)] [(.int p0)])) _
      refine XS.ifYes X0.here hx rfl (pc0 := 1) (pc' := 8) rfl (hb hby d1_1) rfl ((if0 _ _).trans (feq hc1_1).2) (by decide) (by decide) ?_
      show Steps p.tables e below (s₁.setTop (mkF m 8 #[.val (.int p0)] [])) _
      refine XS.iloadN X0.here hx rfl (hb hby d1_8) rfl ?_
      show Steps p.tables e below (s₁.setTop (mkF m 9 #[.val (.int p0)] [(.int p0)])) _
      refine XS.iconst X0.here hx rfl (hb hby d1_9) ?_
      exact kt
    by_cases hc10_3 : p0 = (1 : Int32)
    · obtain ⟨T4, X4, e4, st4⟩ := getS2 X0 hx hZ hown (host := "") (Or.inl (hw _ (List.mem_of_getElem? (i := 36) rfl))) Via.refl e0 S_FETCH (g := (mkF m 13 #[.val (.int p0)] [])) rfl (hb hby d1_13)
      refine own_back (b := T4.setTop (mkF m 16 #[.val (.int p0)] [(.ref w_FETCH)])) (fun t kt => ?_) ?_
      · show Steps p.tables e below (s₁.setTop (mkF m 10 #[.val (.int p0)] [(.int (1 : Int32)), (.int p0)])) _
        refine XS.icmpNo X0.here hx rfl (hb hby d1_10) rfl (teq hc10_3).2 ?_
        show Steps p.tables e below (s₁.setTop (mkF m 13 #[.val (.int p0)] [])) _
        refine st4 _ ?_
        exact kt
      obtain ⟨fs, hr, hrun, hended, hW, hsame⟩ := X4.leave (v := some (.ref w_FETCH)) (fun h => by rw [Bd.returns] at h; cases h)
      refine ⟨_, _, ?_, hrun, hended, _, _, rfl, ?_, ⟨_, rfl⟩, hW, hsame.mono (by decide) (by decide)⟩
      · show Steps p.tables e below (T4.setTop (mkF m 16 #[.val (.int p0)] [(.ref w_FETCH)])) _
        exact own_retA X4 hx Bd.returns rfl rfl (hb hby d1_16) hr
      · show Q1 Z p0 w_PRODUCE w_FETCH w_LIST_OFFSETS w_METADATA w_OFFSET_COMMIT w_OFFSET_FETCH w_FIND_COORDINATOR w_JOIN_GROUP w_HEARTBEAT w_LEAVE_GROUP w_SYNC_GROUP w_DESCRIBE_GROUPS w_LIST_GROUPS w_API_VERSIONS w_CREATE_TOPICS w_DELETE_TOPICS h0 n0 _ T4.heap _
        rw [e4]
        exact ⟨by rw [show f1 p0 w_PRODUCE w_FETCH w_LIST_OFFSETS w_METADATA w_OFFSET_COMMIT w_OFFSET_FETCH w_FIND_COORDINATOR w_JOIN_GROUP w_HEARTBEAT w_LEAVE_GROUP w_SYNC_GROUP w_DESCRIBE_GROUPS w_LIST_GROUPS w_API_VERSIONS w_CREATE_TOPICS w_DELETE_TOPICS = w_FETCH from by unfold f1; rw [if_neg hc1_1, if_pos hc10_3]], N0, rfl⟩
    · refine own_back (b := s₁.setTop (mkF m 19 #[.val (.int p0)] [(.int (2 : Int32)), (.int p0)])) (fun t kt => ?_) ?_
      · show Steps p.tables e below (s₁.setTop (mkF m 10 #[.val (.int p0)] [(.int (1 : Int32)), (.int p0)])) _
        refine XS.icmpYes X0.here hx rfl (pc0 := 10) (pc' := 17) rfl (hb hby d1_10) rfl (feq hc10_3).2 (by decide) (by decide) ?_
        show Steps p.tables e below (s₁.setTop (mkF m 17 #[.val (.int p0)] [])) _
        refine XS.iloadN X0.here hx rfl (hb hby d1_17) rfl ?_
        show Steps p.tables e below (s₁.setTop (mkF m 18 #[.val (.int p0)] [(.int p0)])) _
        refine XS.iconst X0.here hx rfl (hb hby d1_18) ?_
        exact kt
      by_cases hc19_5 : p0 = (2 : Int32)
      · obtain ⟨T6, X6, e6, st6⟩ := getS2 X0 hx hZ hown (host := "") (Or.inl (hw _ (List.mem_of_getElem? (i := 40) rfl))) Via.refl e0 S_LIST_OFFSETS (g := (mkF m 22 #[.val (.int p0)] [])) rfl (hb hby d1_22)
        refine own_back (b := T6.setTop (mkF m 25 #[.val (.int p0)] [(.ref w_LIST_OFFSETS)])) (fun t kt => ?_) ?_
        · show Steps p.tables e below (s₁.setTop (mkF m 19 #[.val (.int p0)] [(.int (2 : Int32)), (.int p0)])) _
          refine XS.icmpNo X0.here hx rfl (hb hby d1_19) rfl (teq hc19_5).2 ?_
          show Steps p.tables e below (s₁.setTop (mkF m 22 #[.val (.int p0)] [])) _
          refine st6 _ ?_
          exact kt
        obtain ⟨fs, hr, hrun, hended, hW, hsame⟩ := X6.leave (v := some (.ref w_LIST_OFFSETS)) (fun h => by rw [Bd.returns] at h; cases h)
        refine ⟨_, _, ?_, hrun, hended, _, _, rfl, ?_, ⟨_, rfl⟩, hW, hsame.mono (by decide) (by decide)⟩
        · show Steps p.tables e below (T6.setTop (mkF m 25 #[.val (.int p0)] [(.ref w_LIST_OFFSETS)])) _
          exact own_retA X6 hx Bd.returns rfl rfl (hb hby d1_25) hr
        · show Q1 Z p0 w_PRODUCE w_FETCH w_LIST_OFFSETS w_METADATA w_OFFSET_COMMIT w_OFFSET_FETCH w_FIND_COORDINATOR w_JOIN_GROUP w_HEARTBEAT w_LEAVE_GROUP w_SYNC_GROUP w_DESCRIBE_GROUPS w_LIST_GROUPS w_API_VERSIONS w_CREATE_TOPICS w_DELETE_TOPICS h0 n0 _ T6.heap _
          rw [e6]
          exact ⟨by rw [show f1 p0 w_PRODUCE w_FETCH w_LIST_OFFSETS w_METADATA w_OFFSET_COMMIT w_OFFSET_FETCH w_FIND_COORDINATOR w_JOIN_GROUP w_HEARTBEAT w_LEAVE_GROUP w_SYNC_GROUP w_DESCRIBE_GROUPS w_LIST_GROUPS w_API_VERSIONS w_CREATE_TOPICS w_DELETE_TOPICS = w_LIST_OFFSETS from by unfold f1; rw [if_neg hc1_1, if_neg hc10_3, if_pos hc19_5]], N0, rfl⟩
      · refine own_back (b := s₁.setTop (mkF m 28 #[.val (.int p0)] [(.int (3 : Int32)), (.int p0)])) (fun t kt => ?_) ?_
        · show Steps p.tables e below (s₁.setTop (mkF m 19 #[.val (.int p0)] [(.int (2 : Int32)), (.int p0)])) _
          refine XS.icmpYes X0.here hx rfl (pc0 := 19) (pc' := 26) rfl (hb hby d1_19) rfl (feq hc19_5).2 (by decide) (by decide) ?_
          show Steps p.tables e below (s₁.setTop (mkF m 26 #[.val (.int p0)] [])) _
          refine XS.iloadN X0.here hx rfl (hb hby d1_26) rfl ?_
          show Steps p.tables e below (s₁.setTop (mkF m 27 #[.val (.int p0)] [(.int p0)])) _
          refine XS.iconst X0.here hx rfl (hb hby d1_27) ?_
          exact kt
        by_cases hc28_7 : p0 = (3 : Int32)
        · obtain ⟨T8, X8, e8, st8⟩ := getS2 X0 hx hZ hown (host := "") (Or.inl (hw _ (List.mem_of_getElem? (i := 32) rfl))) Via.refl e0 S_METADATA (g := (mkF m 31 #[.val (.int p0)] [])) rfl (hb hby d1_31)
          refine own_back (b := T8.setTop (mkF m 34 #[.val (.int p0)] [(.ref w_METADATA)])) (fun t kt => ?_) ?_
          · show Steps p.tables e below (s₁.setTop (mkF m 28 #[.val (.int p0)] [(.int (3 : Int32)), (.int p0)])) _
            refine XS.icmpNo X0.here hx rfl (hb hby d1_28) rfl (teq hc28_7).2 ?_
            show Steps p.tables e below (s₁.setTop (mkF m 31 #[.val (.int p0)] [])) _
            refine st8 _ ?_
            exact kt
          obtain ⟨fs, hr, hrun, hended, hW, hsame⟩ := X8.leave (v := some (.ref w_METADATA)) (fun h => by rw [Bd.returns] at h; cases h)
          refine ⟨_, _, ?_, hrun, hended, _, _, rfl, ?_, ⟨_, rfl⟩, hW, hsame.mono (by decide) (by decide)⟩
          · show Steps p.tables e below (T8.setTop (mkF m 34 #[.val (.int p0)] [(.ref w_METADATA)])) _
            exact own_retA X8 hx Bd.returns rfl rfl (hb hby d1_34) hr
          · show Q1 Z p0 w_PRODUCE w_FETCH w_LIST_OFFSETS w_METADATA w_OFFSET_COMMIT w_OFFSET_FETCH w_FIND_COORDINATOR w_JOIN_GROUP w_HEARTBEAT w_LEAVE_GROUP w_SYNC_GROUP w_DESCRIBE_GROUPS w_LIST_GROUPS w_API_VERSIONS w_CREATE_TOPICS w_DELETE_TOPICS h0 n0 _ T8.heap _
            rw [e8]
            exact ⟨by rw [show f1 p0 w_PRODUCE w_FETCH w_LIST_OFFSETS w_METADATA w_OFFSET_COMMIT w_OFFSET_FETCH w_FIND_COORDINATOR w_JOIN_GROUP w_HEARTBEAT w_LEAVE_GROUP w_SYNC_GROUP w_DESCRIBE_GROUPS w_LIST_GROUPS w_API_VERSIONS w_CREATE_TOPICS w_DELETE_TOPICS = w_METADATA from by unfold f1; rw [if_neg hc1_1, if_neg hc10_3, if_neg hc19_5, if_pos hc28_7]], N0, rfl⟩
        · refine own_back (b := s₁.setTop (mkF m 37 #[.val (.int p0)] [(.int (4 : Int32)), (.int p0)])) (fun t kt => ?_) ?_
          · show Steps p.tables e below (s₁.setTop (mkF m 28 #[.val (.int p0)] [(.int (3 : Int32)), (.int p0)])) _
            refine XS.icmpYes X0.here hx rfl (pc0 := 28) (pc' := 35) rfl (hb hby d1_28) rfl (feq hc28_7).2 (by decide) (by decide) ?_
            show Steps p.tables e below (s₁.setTop (mkF m 35 #[.val (.int p0)] [])) _
            refine XS.iloadN X0.here hx rfl (hb hby d1_35) rfl ?_
            show Steps p.tables e below (s₁.setTop (mkF m 36 #[.val (.int p0)] [(.int p0)])) _
            refine XS.iconst X0.here hx rfl (hb hby d1_36) ?_
            exact kt
          by_cases hc37_9 : p0 = (4 : Int32)
          · obtain ⟨T10, X10, e10, st10⟩ := getS2 X0 hx hZ hown (host := "") (Or.inl (hw _ (List.mem_of_getElem? (i := 48) rfl))) Via.refl e0 S_OFFSET_COMMIT (g := (mkF m 40 #[.val (.int p0)] [])) rfl (hb hby d1_40)
            refine own_back (b := T10.setTop (mkF m 43 #[.val (.int p0)] [(.ref w_OFFSET_COMMIT)])) (fun t kt => ?_) ?_
            · show Steps p.tables e below (s₁.setTop (mkF m 37 #[.val (.int p0)] [(.int (4 : Int32)), (.int p0)])) _
              refine XS.icmpNo X0.here hx rfl (hb hby d1_37) rfl (teq hc37_9).2 ?_
              show Steps p.tables e below (s₁.setTop (mkF m 40 #[.val (.int p0)] [])) _
              refine st10 _ ?_
              exact kt
            obtain ⟨fs, hr, hrun, hended, hW, hsame⟩ := X10.leave (v := some (.ref w_OFFSET_COMMIT)) (fun h => by rw [Bd.returns] at h; cases h)
            refine ⟨_, _, ?_, hrun, hended, _, _, rfl, ?_, ⟨_, rfl⟩, hW, hsame.mono (by decide) (by decide)⟩
            · show Steps p.tables e below (T10.setTop (mkF m 43 #[.val (.int p0)] [(.ref w_OFFSET_COMMIT)])) _
              exact own_retA X10 hx Bd.returns rfl rfl (hb hby d1_43) hr
            · show Q1 Z p0 w_PRODUCE w_FETCH w_LIST_OFFSETS w_METADATA w_OFFSET_COMMIT w_OFFSET_FETCH w_FIND_COORDINATOR w_JOIN_GROUP w_HEARTBEAT w_LEAVE_GROUP w_SYNC_GROUP w_DESCRIBE_GROUPS w_LIST_GROUPS w_API_VERSIONS w_CREATE_TOPICS w_DELETE_TOPICS h0 n0 _ T10.heap _
              rw [e10]
              exact ⟨by rw [show f1 p0 w_PRODUCE w_FETCH w_LIST_OFFSETS w_METADATA w_OFFSET_COMMIT w_OFFSET_FETCH w_FIND_COORDINATOR w_JOIN_GROUP w_HEARTBEAT w_LEAVE_GROUP w_SYNC_GROUP w_DESCRIBE_GROUPS w_LIST_GROUPS w_API_VERSIONS w_CREATE_TOPICS w_DELETE_TOPICS = w_OFFSET_COMMIT from by unfold f1; rw [if_neg hc1_1, if_neg hc10_3, if_neg hc19_5, if_neg hc28_7, if_pos hc37_9]], N0, rfl⟩
          · refine own_back (b := s₁.setTop (mkF m 46 #[.val (.int p0)] [(.int (5 : Int32)), (.int p0)])) (fun t kt => ?_) ?_
            · show Steps p.tables e below (s₁.setTop (mkF m 37 #[.val (.int p0)] [(.int (4 : Int32)), (.int p0)])) _
              refine XS.icmpYes X0.here hx rfl (pc0 := 37) (pc' := 44) rfl (hb hby d1_37) rfl (feq hc37_9).2 (by decide) (by decide) ?_
              show Steps p.tables e below (s₁.setTop (mkF m 44 #[.val (.int p0)] [])) _
              refine XS.iloadN X0.here hx rfl (hb hby d1_44) rfl ?_
              show Steps p.tables e below (s₁.setTop (mkF m 45 #[.val (.int p0)] [(.int p0)])) _
              refine XS.iconst X0.here hx rfl (hb hby d1_45) ?_
              exact kt
            by_cases hc46_11 : p0 = (5 : Int32)
            · obtain ⟨T12, X12, e12, st12⟩ := getS2 X0 hx hZ hown (host := "") (Or.inl (hw _ (List.mem_of_getElem? (i := 38) rfl))) Via.refl e0 S_OFFSET_FETCH (g := (mkF m 49 #[.val (.int p0)] [])) rfl (hb hby d1_49)
              refine own_back (b := T12.setTop (mkF m 52 #[.val (.int p0)] [(.ref w_OFFSET_FETCH)])) (fun t kt => ?_) ?_
              · show Steps p.tables e below (s₁.setTop (mkF m 46 #[.val (.int p0)] [(.int (5 : Int32)), (.int p0)])) _
                refine XS.icmpNo X0.here hx rfl (hb hby d1_46) rfl (teq hc46_11).2 ?_
                show Steps p.tables e below (s₁.setTop (mkF m 49 #[.val (.int p0)] [])) _
                refine st12 _ ?_
                exact kt
              obtain ⟨fs, hr, hrun, hended, hW, hsame⟩ := X12.leave (v := some (.ref w_OFFSET_FETCH)) (fun h => by rw [Bd.returns] at h; cases h)
              refine ⟨_, _, ?_, hrun, hended, _, _, rfl, ?_, ⟨_, rfl⟩, hW, hsame.mono (by decide) (by decide)⟩
              · show Steps p.tables e below (T12.setTop (mkF m 52 #[.val (.int p0)] [(.ref w_OFFSET_FETCH)])) _
                exact own_retA X12 hx Bd.returns rfl rfl (hb hby d1_52) hr
              · show Q1 Z p0 w_PRODUCE w_FETCH w_LIST_OFFSETS w_METADATA w_OFFSET_COMMIT w_OFFSET_FETCH w_FIND_COORDINATOR w_JOIN_GROUP w_HEARTBEAT w_LEAVE_GROUP w_SYNC_GROUP w_DESCRIBE_GROUPS w_LIST_GROUPS w_API_VERSIONS w_CREATE_TOPICS w_DELETE_TOPICS h0 n0 _ T12.heap _
                rw [e12]
                exact ⟨by rw [show f1 p0 w_PRODUCE w_FETCH w_LIST_OFFSETS w_METADATA w_OFFSET_COMMIT w_OFFSET_FETCH w_FIND_COORDINATOR w_JOIN_GROUP w_HEARTBEAT w_LEAVE_GROUP w_SYNC_GROUP w_DESCRIBE_GROUPS w_LIST_GROUPS w_API_VERSIONS w_CREATE_TOPICS w_DELETE_TOPICS = w_OFFSET_FETCH from by unfold f1; rw [if_neg hc1_1, if_neg hc10_3, if_neg hc19_5, if_neg hc28_7, if_neg hc37_9, if_pos hc46_11]], N0, rfl⟩
            · refine own_back (b := s₁.setTop (mkF m 56 #[.val (.int p0)] [(.int (6 : Int32)), (.int p0)])) (fun t kt => ?_) ?_
              · show Steps p.tables e below (s₁.setTop (mkF m 46 #[.val (.int p0)] [(.int (5 : Int32)), (.int p0)])) _
                refine XS.icmpYes X0.here hx rfl (pc0 := 46) (pc' := 53) rfl (hb hby d1_46) rfl (feq hc46_11).2 (by decide) (by decide) ?_
                show Steps p.tables e below (s₁.setTop (mkF m 53 #[.val (.int p0)] [])) _
                refine XS.iloadN X0.here hx rfl (hb hby d1_53) rfl ?_
                show Steps p.tables e below (s₁.setTop (mkF m 54 #[.val (.int p0)] [(.int p0)])) _
                refine XS.bipush X0.here hx rfl (hb hby d1_54) ?_
                exact kt
              by_cases hc56_13 : p0 = (6 : Int32)
              · obtain ⟨T14, X14, e14, st14⟩ := getS2 X0 hx hZ hown (host := "") (Or.inl (hw _ (List.mem_of_getElem? (i := 28) rfl))) Via.refl e0 S_FIND_COORDINATOR (g := (mkF m 59 #[.val (.int p0)] [])) rfl (hb hby d1_59)
                refine own_back (b := T14.setTop (mkF m 62 #[.val (.int p0)] [(.ref w_FIND_COORDINATOR)])) (fun t kt => ?_) ?_
                · show Steps p.tables e below (s₁.setTop (mkF m 56 #[.val (.int p0)] [(.int (6 : Int32)), (.int p0)])) _
                  refine XS.icmpNo X0.here hx rfl (hb hby d1_56) rfl (teq hc56_13).2 ?_
                  show Steps p.tables e below (s₁.setTop (mkF m 59 #[.val (.int p0)] [])) _
                  refine st14 _ ?_
                  exact kt
                obtain ⟨fs, hr, hrun, hended, hW, hsame⟩ := X14.leave (v := some (.ref w_FIND_COORDINATOR)) (fun h => by rw [Bd.returns] at h; cases h)
                refine ⟨_, _, ?_, hrun, hended, _, _, rfl, ?_, ⟨_, rfl⟩, hW, hsame.mono (by decide) (by decide)⟩
                · show Steps p.tables e below (T14.setTop (mkF m 62 #[.val (.int p0)] [(.ref w_FIND_COORDINATOR)])) _
                  exact own_retA X14 hx Bd.returns rfl rfl (hb hby d1_62) hr
                · show Q1 Z p0 w_PRODUCE w_FETCH w_LIST_OFFSETS w_METADATA w_OFFSET_COMMIT w_OFFSET_FETCH w_FIND_COORDINATOR w_JOIN_GROUP w_HEARTBEAT w_LEAVE_GROUP w_SYNC_GROUP w_DESCRIBE_GROUPS w_LIST_GROUPS w_API_VERSIONS w_CREATE_TOPICS w_DELETE_TOPICS h0 n0 _ T14.heap _
                  rw [e14]
                  exact ⟨by rw [show f1 p0 w_PRODUCE w_FETCH w_LIST_OFFSETS w_METADATA w_OFFSET_COMMIT w_OFFSET_FETCH w_FIND_COORDINATOR w_JOIN_GROUP w_HEARTBEAT w_LEAVE_GROUP w_SYNC_GROUP w_DESCRIBE_GROUPS w_LIST_GROUPS w_API_VERSIONS w_CREATE_TOPICS w_DELETE_TOPICS = w_FIND_COORDINATOR from by unfold f1; rw [if_neg hc1_1, if_neg hc10_3, if_neg hc19_5, if_neg hc28_7, if_neg hc37_9, if_neg hc46_11, if_pos hc56_13]], N0, rfl⟩
              · refine own_back (b := s₁.setTop (mkF m 66 #[.val (.int p0)] [(.int (7 : Int32)), (.int p0)])) (fun t kt => ?_) ?_
                · show Steps p.tables e below (s₁.setTop (mkF m 56 #[.val (.int p0)] [(.int (6 : Int32)), (.int p0)])) _
                  refine XS.icmpYes X0.here hx rfl (pc0 := 56) (pc' := 63) rfl (hb hby d1_56) rfl (feq hc56_13).2 (by decide) (by decide) ?_
                  show Steps p.tables e below (s₁.setTop (mkF m 63 #[.val (.int p0)] [])) _
                  refine XS.iloadN X0.here hx rfl (hb hby d1_63) rfl ?_
                  show Steps p.tables e below (s₁.setTop (mkF m 64 #[.val (.int p0)] [(.int p0)])) _
                  refine XS.bipush X0.here hx rfl (hb hby d1_64) ?_
                  exact kt
                by_cases hc66_15 : p0 = (7 : Int32)
                · obtain ⟨T16, X16, e16, st16⟩ := getS2 X0 hx hZ hown (host := "") (Or.inl (hw _ (List.mem_of_getElem? (i := 30) rfl))) Via.refl e0 S_JOIN_GROUP (g := (mkF m 69 #[.val (.int p0)] [])) rfl (hb hby d1_69)
                  refine own_back (b := T16.setTop (mkF m 72 #[.val (.int p0)] [(.ref w_JOIN_GROUP)])) (fun t kt => ?_) ?_
                  · show Steps p.tables e below (s₁.setTop (mkF m 66 #[.val (.int p0)] [(.int (7 : Int32)), (.int p0)])) _
                    refine XS.icmpNo X0.here hx rfl (hb hby d1_66) rfl (teq hc66_15).2 ?_
                    show Steps p.tables e below (s₁.setTop (mkF m 69 #[.val (.int p0)] [])) _
                    refine st16 _ ?_
                    exact kt
                  obtain ⟨fs, hr, hrun, hended, hW, hsame⟩ := X16.leave (v := some (.ref w_JOIN_GROUP)) (fun h => by rw [Bd.returns] at h; cases h)
                  refine ⟨_, _, ?_, hrun, hended, _, _, rfl, ?_, ⟨_, rfl⟩, hW, hsame.mono (by decide) (by decide)⟩
                  · show Steps p.tables e below (T16.setTop (mkF m 72 #[.val (.int p0)] [(.ref w_JOIN_GROUP)])) _
                    exact own_retA X16 hx Bd.returns rfl rfl (hb hby d1_72) hr
                  · show Q1 Z p0 w_PRODUCE w_FETCH w_LIST_OFFSETS w_METADATA w_OFFSET_COMMIT w_OFFSET_FETCH w_FIND_COORDINATOR w_JOIN_GROUP w_HEARTBEAT w_LEAVE_GROUP w_SYNC_GROUP w_DESCRIBE_GROUPS w_LIST_GROUPS w_API_VERSIONS w_CREATE_TOPICS w_DELETE_TOPICS h0 n0 _ T16.heap _
                    rw [e16]
                    exact ⟨by rw [show f1 p0 w_PRODUCE w_FETCH w_LIST_OFFSETS w_METADATA w_OFFSET_COMMIT w_OFFSET_FETCH w_FIND_COORDINATOR w_JOIN_GROUP w_HEARTBEAT w_LEAVE_GROUP w_SYNC_GROUP w_DESCRIBE_GROUPS w_LIST_GROUPS w_API_VERSIONS w_CREATE_TOPICS w_DELETE_TOPICS = w_JOIN_GROUP from by unfold f1; rw [if_neg hc1_1, if_neg hc10_3, if_neg hc19_5, if_neg hc28_7, if_neg hc37_9, if_neg hc46_11, if_neg hc56_13, if_pos hc66_15]], N0, rfl⟩
                · refine own_back (b := s₁.setTop (mkF m 76 #[.val (.int p0)] [(.int (8 : Int32)), (.int p0)])) (fun t kt => ?_) ?_
                  · show Steps p.tables e below (s₁.setTop (mkF m 66 #[.val (.int p0)] [(.int (7 : Int32)), (.int p0)])) _
                    refine XS.icmpYes X0.here hx rfl (pc0 := 66) (pc' := 73) rfl (hb hby d1_66) rfl (feq hc66_15).2 (by decide) (by decide) ?_
                    show Steps p.tables e below (s₁.setTop (mkF m 73 #[.val (.int p0)] [])) _
                    refine XS.iloadN X0.here hx rfl (hb hby d1_73) rfl ?_
                    show Steps p.tables e below (s₁.setTop (mkF m 74 #[.val (.int p0)] [(.int p0)])) _
                    refine XS.bipush X0.here hx rfl (hb hby d1_74) ?_
                    exact kt
                  by_cases hc76_17 : p0 = (8 : Int32)
                  · obtain ⟨T18, X18, e18, st18⟩ := getS2 X0 hx hZ hown (host := "") (Or.inl (hw _ (List.mem_of_getElem? (i := 24) rfl))) Via.refl e0 S_HEARTBEAT (g := (mkF m 79 #[.val (.int p0)] [])) rfl (hb hby d1_79)
                    refine own_back (b := T18.setTop (mkF m 82 #[.val (.int p0)] [(.ref w_HEARTBEAT)])) (fun t kt => ?_) ?_
                    · show Steps p.tables e below (s₁.setTop (mkF m 76 #[.val (.int p0)] [(.int (8 : Int32)), (.int p0)])) _
                      refine XS.icmpNo X0.here hx rfl (hb hby d1_76) rfl (teq hc76_17).2 ?_
                      show Steps p.tables e below (s₁.setTop (mkF m 79 #[.val (.int p0)] [])) _
                      refine st18 _ ?_
                      exact kt
                    obtain ⟨fs, hr, hrun, hended, hW, hsame⟩ := X18.leave (v := some (.ref w_HEARTBEAT)) (fun h => by rw [Bd.returns] at h; cases h)
                    refine ⟨_, _, ?_, hrun, hended, _, _, rfl, ?_, ⟨_, rfl⟩, hW, hsame.mono (by decide) (by decide)⟩
                    · show Steps p.tables e below (T18.setTop (mkF m 82 #[.val (.int p0)] [(.ref w_HEARTBEAT)])) _
                      exact own_retA X18 hx Bd.returns rfl rfl (hb hby d1_82) hr
                    · show Q1 Z p0 w_PRODUCE w_FETCH w_LIST_OFFSETS w_METADATA w_OFFSET_COMMIT w_OFFSET_FETCH w_FIND_COORDINATOR w_JOIN_GROUP w_HEARTBEAT w_LEAVE_GROUP w_SYNC_GROUP w_DESCRIBE_GROUPS w_LIST_GROUPS w_API_VERSIONS w_CREATE_TOPICS w_DELETE_TOPICS h0 n0 _ T18.heap _
                      rw [e18]
                      exact ⟨by rw [show f1 p0 w_PRODUCE w_FETCH w_LIST_OFFSETS w_METADATA w_OFFSET_COMMIT w_OFFSET_FETCH w_FIND_COORDINATOR w_JOIN_GROUP w_HEARTBEAT w_LEAVE_GROUP w_SYNC_GROUP w_DESCRIBE_GROUPS w_LIST_GROUPS w_API_VERSIONS w_CREATE_TOPICS w_DELETE_TOPICS = w_HEARTBEAT from by unfold f1; rw [if_neg hc1_1, if_neg hc10_3, if_neg hc19_5, if_neg hc28_7, if_neg hc37_9, if_neg hc46_11, if_neg hc56_13, if_neg hc66_15, if_pos hc76_17]], N0, rfl⟩
                  · refine own_back (b := s₁.setTop (mkF m 86 #[.val (.int p0)] [(.int (9 : Int32)), (.int p0)])) (fun t kt => ?_) ?_
                    · show Steps p.tables e below (s₁.setTop (mkF m 76 #[.val (.int p0)] [(.int (8 : Int32)), (.int p0)])) _
                      refine XS.icmpYes X0.here hx rfl (pc0 := 76) (pc' := 83) rfl (hb hby d1_76) rfl (feq hc76_17).2 (by decide) (by decide) ?_
                      show Steps p.tables e below (s₁.setTop (mkF m 83 #[.val (.int p0)] [])) _
                      refine XS.iloadN X0.here hx rfl (hb hby d1_83) rfl ?_
                      show Steps p.tables e below (s₁.setTop (mkF m 84 #[.val (.int p0)] [(.int p0)])) _
                      refine XS.bipush X0.here hx rfl (hb hby d1_84) ?_
                      exact kt
                    by_cases hc86_19 : p0 = (9 : Int32)
                    · obtain ⟨T20, X20, e20, st20⟩ := getS2 X0 hx hZ hown (host := "") (Or.inl (hw _ (List.mem_of_getElem? (i := 46) rfl))) Via.refl e0 S_LEAVE_GROUP (g := (mkF m 89 #[.val (.int p0)] [])) rfl (hb hby d1_89)
                      refine own_back (b := T20.setTop (mkF m 92 #[.val (.int p0)] [(.ref w_LEAVE_GROUP)])) (fun t kt => ?_) ?_
                      · show Steps p.tables e below (s₁.setTop (mkF m 86 #[.val (.int p0)] [(.int (9 : Int32)), (.int p0)])) _
                        refine XS.icmpNo X0.here hx rfl (hb hby d1_86) rfl (teq hc86_19).2 ?_
                        show Steps p.tables e below (s₁.setTop (mkF m 89 #[.val (.int p0)] [])) _
                        refine st20 _ ?_
                        exact kt
                      obtain ⟨fs, hr, hrun, hended, hW, hsame⟩ := X20.leave (v := some (.ref w_LEAVE_GROUP)) (fun h => by rw [Bd.returns] at h; cases h)
                      refine ⟨_, _, ?_, hrun, hended, _, _, rfl, ?_, ⟨_, rfl⟩, hW, hsame.mono (by decide) (by decide)⟩
                      · show Steps p.tables e below (T20.setTop (mkF m 92 #[.val (.int p0)] [(.ref w_LEAVE_GROUP)])) _
                        exact own_retA X20 hx Bd.returns rfl rfl (hb hby d1_92) hr
                      · show Q1 Z p0 w_PRODUCE w_FETCH w_LIST_OFFSETS w_METADATA w_OFFSET_COMMIT w_OFFSET_FETCH w_FIND_COORDINATOR w_JOIN_GROUP w_HEARTBEAT w_LEAVE_GROUP w_SYNC_GROUP w_DESCRIBE_GROUPS w_LIST_GROUPS w_API_VERSIONS w_CREATE_TOPICS w_DELETE_TOPICS h0 n0 _ T20.heap _
                        rw [e20]
                        exact ⟨by rw [show f1 p0 w_PRODUCE w_FETCH w_LIST_OFFSETS w_METADATA w_OFFSET_COMMIT w_OFFSET_FETCH w_FIND_COORDINATOR w_JOIN_GROUP w_HEARTBEAT w_LEAVE_GROUP w_SYNC_GROUP w_DESCRIBE_GROUPS w_LIST_GROUPS w_API_VERSIONS w_CREATE_TOPICS w_DELETE_TOPICS = w_LEAVE_GROUP from by unfold f1; rw [if_neg hc1_1, if_neg hc10_3, if_neg hc19_5, if_neg hc28_7, if_neg hc37_9, if_neg hc46_11, if_neg hc56_13, if_neg hc66_15, if_neg hc76_17, if_pos hc86_19]], N0, rfl⟩
                    · refine own_back (b := s₁.setTop (mkF m 96 #[.val (.int p0)] [(.int (10 : Int32)), (.int p0)])) (fun t kt => ?_) ?_
                      · show Steps p.tables e below (s₁.setTop (mkF m 86 #[.val (.int p0)] [(.int (9 : Int32)), (.int p0)])) _
                        refine XS.icmpYes X0.here hx rfl (pc0 := 86) (pc' := 93) rfl (hb hby d1_86) rfl (feq hc86_19).2 (by decide) (by decide) ?_
                        show Steps p.tables e below (s₁.setTop (mkF m 93 #[.val (.int p0)] [])) _
                        refine XS.iloadN X0.here hx rfl (hb hby d1_93) rfl ?_
                        show Steps p.tables e below (s₁.setTop (mkF m 94 #[.val (.int p0)] [(.int p0)])) _
                        refine XS.bipush X0.here hx rfl (hb hby d1_94) ?_
                        exact kt
                      by_cases hc96_21 : p0 = (10 : Int32)
                      · obtain ⟨T22, X22, e22, st22⟩ := getS2 X0 hx hZ hown (host := "") (Or.inl (hw _ (List.mem_of_getElem? (i := 42) rfl))) Via.refl e0 S_SYNC_GROUP (g := (mkF m 99 #[.val (.int p0)] [])) rfl (hb hby d1_99)
                        refine own_back (b := T22.setTop (mkF m 102 #[.val (.int p0)] [(.ref w_SYNC_GROUP)])) (fun t kt => ?_) ?_
                        · show Steps p.tables e below (s₁.setTop (mkF m 96 #[.val (.int p0)] [(.int (10 : Int32)), (.int p0)])) _
                          refine XS.icmpNo X0.here hx rfl (hb hby d1_96) rfl (teq hc96_21).2 ?_
                          show Steps p.tables e below (s₁.setTop (mkF m 99 #[.val (.int p0)] [])) _
                          refine st22 _ ?_
                          exact kt
                        obtain ⟨fs, hr, hrun, hended, hW, hsame⟩ := X22.leave (v := some (.ref w_SYNC_GROUP)) (fun h => by rw [Bd.returns] at h; cases h)
                        refine ⟨_, _, ?_, hrun, hended, _, _, rfl, ?_, ⟨_, rfl⟩, hW, hsame.mono (by decide) (by decide)⟩
                        · show Steps p.tables e below (T22.setTop (mkF m 102 #[.val (.int p0)] [(.ref w_SYNC_GROUP)])) _
                          exact own_retA X22 hx Bd.returns rfl rfl (hb hby d1_102) hr
                        · show Q1 Z p0 w_PRODUCE w_FETCH w_LIST_OFFSETS w_METADATA w_OFFSET_COMMIT w_OFFSET_FETCH w_FIND_COORDINATOR w_JOIN_GROUP w_HEARTBEAT w_LEAVE_GROUP w_SYNC_GROUP w_DESCRIBE_GROUPS w_LIST_GROUPS w_API_VERSIONS w_CREATE_TOPICS w_DELETE_TOPICS h0 n0 _ T22.heap _
                          rw [e22]
                          exact ⟨by rw [show f1 p0 w_PRODUCE w_FETCH w_LIST_OFFSETS w_METADATA w_OFFSET_COMMIT w_OFFSET_FETCH w_FIND_COORDINATOR w_JOIN_GROUP w_HEARTBEAT w_LEAVE_GROUP w_SYNC_GROUP w_DESCRIBE_GROUPS w_LIST_GROUPS w_API_VERSIONS w_CREATE_TOPICS w_DELETE_TOPICS = w_SYNC_GROUP from by unfold f1; rw [if_neg hc1_1, if_neg hc10_3, if_neg hc19_5, if_neg hc28_7, if_neg hc37_9, if_neg hc46_11, if_neg hc56_13, if_neg hc66_15, if_neg hc76_17, if_neg hc86_19, if_pos hc96_21]], N0, rfl⟩
                      · refine own_back (b := s₁.setTop (mkF m 106 #[.val (.int p0)] [(.int (11 : Int32)), (.int p0)])) (fun t kt => ?_) ?_
                        · show Steps p.tables e below (s₁.setTop (mkF m 96 #[.val (.int p0)] [(.int (10 : Int32)), (.int p0)])) _
                          refine XS.icmpYes X0.here hx rfl (pc0 := 96) (pc' := 103) rfl (hb hby d1_96) rfl (feq hc96_21).2 (by decide) (by decide) ?_
                          show Steps p.tables e below (s₁.setTop (mkF m 103 #[.val (.int p0)] [])) _
                          refine XS.iloadN X0.here hx rfl (hb hby d1_103) rfl ?_
                          show Steps p.tables e below (s₁.setTop (mkF m 104 #[.val (.int p0)] [(.int p0)])) _
                          refine XS.bipush X0.here hx rfl (hb hby d1_104) ?_
                          exact kt
                        by_cases hc106_23 : p0 = (11 : Int32)
                        · obtain ⟨T24, X24, e24, st24⟩ := getS2 X0 hx hZ hown (host := "") (Or.inl (hw _ (List.mem_of_getElem? (i := 44) rfl))) Via.refl e0 S_DESCRIBE_GROUPS (g := (mkF m 109 #[.val (.int p0)] [])) rfl (hb hby d1_109)
                          refine own_back (b := T24.setTop (mkF m 112 #[.val (.int p0)] [(.ref w_DESCRIBE_GROUPS)])) (fun t kt => ?_) ?_
                          · show Steps p.tables e below (s₁.setTop (mkF m 106 #[.val (.int p0)] [(.int (11 : Int32)), (.int p0)])) _
                            refine XS.icmpNo X0.here hx rfl (hb hby d1_106) rfl (teq hc106_23).2 ?_
                            show Steps p.tables e below (s₁.setTop (mkF m 109 #[.val (.int p0)] [])) _
                            refine st24 _ ?_
                            exact kt
                          obtain ⟨fs, hr, hrun, hended, hW, hsame⟩ := X24.leave (v := some (.ref w_DESCRIBE_GROUPS)) (fun h => by rw [Bd.returns] at h; cases h)
                          refine ⟨_, _, ?_, hrun, hended, _, _, rfl, ?_, ⟨_, rfl⟩, hW, hsame.mono (by decide) (by decide)⟩
                          · show Steps p.tables e below (T24.setTop (mkF m 112 #[.val (.int p0)] [(.ref w_DESCRIBE_GROUPS)])) _
                            exact own_retA X24 hx Bd.returns rfl rfl (hb hby d1_112) hr
                          · show Q1 Z p0 w_PRODUCE w_FETCH w_LIST_OFFSETS w_METADATA w_OFFSET_COMMIT w_OFFSET_FETCH w_FIND_COORDINATOR w_JOIN_GROUP w_HEARTBEAT w_LEAVE_GROUP w_SYNC_GROUP w_DESCRIBE_GROUPS w_LIST_GROUPS w_API_VERSIONS w_CREATE_TOPICS w_DELETE_TOPICS h0 n0 _ T24.heap _
                            rw [e24]
                            exact ⟨by rw [show f1 p0 w_PRODUCE w_FETCH w_LIST_OFFSETS w_METADATA w_OFFSET_COMMIT w_OFFSET_FETCH w_FIND_COORDINATOR w_JOIN_GROUP w_HEARTBEAT w_LEAVE_GROUP w_SYNC_GROUP w_DESCRIBE_GROUPS w_LIST_GROUPS w_API_VERSIONS w_CREATE_TOPICS w_DELETE_TOPICS = w_DESCRIBE_GROUPS from by unfold f1; rw [if_neg hc1_1, if_neg hc10_3, if_neg hc19_5, if_neg hc28_7, if_neg hc37_9, if_neg hc46_11, if_neg hc56_13, if_neg hc66_15, if_neg hc76_17, if_neg hc86_19, if_neg hc96_21, if_pos hc106_23]], N0, rfl⟩
                        · refine own_back (b := s₁.setTop (mkF m 116 #[.val (.int p0)] [(.int (12 : Int32)), (.int p0)])) (fun t kt => ?_) ?_
                          · show Steps p.tables e below (s₁.setTop (mkF m 106 #[.val (.int p0)] [(.int (11 : Int32)), (.int p0)])) _
                            refine XS.icmpYes X0.here hx rfl (pc0 := 106) (pc' := 113) rfl (hb hby d1_106) rfl (feq hc106_23).2 (by decide) (by decide) ?_
                            show Steps p.tables e below (s₁.setTop (mkF m 113 #[.val (.int p0)] [])) _
                            refine XS.iloadN X0.here hx rfl (hb hby d1_113) rfl ?_
                            show Steps p.tables e below (s₁.setTop (mkF m 114 #[.val (.int p0)] [(.int p0)])) _
                            refine XS.bipush X0.here hx rfl (hb hby d1_114) ?_
                            exact kt
                          by_cases hc116_25 : p0 = (12 : Int32)
                          · obtain ⟨T26, X26, e26, st26⟩ := getS2 X0 hx hZ hown (host := "") (Or.inl (hw _ (List.mem_of_getElem? (i := 22) rfl))) Via.refl e0 S_LIST_GROUPS (g := (mkF m 119 #[.val (.int p0)] [])) rfl (hb hby d1_119)
                            refine own_back (b := T26.setTop (mkF m 122 #[.val (.int p0)] [(.ref w_LIST_GROUPS)])) (fun t kt => ?_) ?_
                            · show Steps p.tables e below (s₁.setTop (mkF m 116 #[.val (.int p0)] [(.int (12 : Int32)), (.int p0)])) _
                              refine XS.icmpNo X0.here hx rfl (hb hby d1_116) rfl (teq hc116_25).2 ?_
                              show Steps p.tables e below (s₁.setTop (mkF m 119 #[.val (.int p0)] [])) _
                              refine st26 _ ?_
                              exact kt
                            obtain ⟨fs, hr, hrun, hended, hW, hsame⟩ := X26.leave (v := some (.ref w_LIST_GROUPS)) (fun h => by rw [Bd.returns] at h; cases h)
                            refine ⟨_, _, ?_, hrun, hended, _, _, rfl, ?_, ⟨_, rfl⟩, hW, hsame.mono (by decide) (by decide)⟩
                            · show Steps p.tables e below (T26.setTop (mkF m 122 #[.val (.int p0)] [(.ref w_LIST_GROUPS)])) _
                              exact own_retA X26 hx Bd.returns rfl rfl (hb hby d1_122) hr
                            · show Q1 Z p0 w_PRODUCE w_FETCH w_LIST_OFFSETS w_METADATA w_OFFSET_COMMIT w_OFFSET_FETCH w_FIND_COORDINATOR w_JOIN_GROUP w_HEARTBEAT w_LEAVE_GROUP w_SYNC_GROUP w_DESCRIBE_GROUPS w_LIST_GROUPS w_API_VERSIONS w_CREATE_TOPICS w_DELETE_TOPICS h0 n0 _ T26.heap _
                              rw [e26]
                              exact ⟨by rw [show f1 p0 w_PRODUCE w_FETCH w_LIST_OFFSETS w_METADATA w_OFFSET_COMMIT w_OFFSET_FETCH w_FIND_COORDINATOR w_JOIN_GROUP w_HEARTBEAT w_LEAVE_GROUP w_SYNC_GROUP w_DESCRIBE_GROUPS w_LIST_GROUPS w_API_VERSIONS w_CREATE_TOPICS w_DELETE_TOPICS = w_LIST_GROUPS from by unfold f1; rw [if_neg hc1_1, if_neg hc10_3, if_neg hc19_5, if_neg hc28_7, if_neg hc37_9, if_neg hc46_11, if_neg hc56_13, if_neg hc66_15, if_neg hc76_17, if_neg hc86_19, if_neg hc96_21, if_neg hc106_23, if_pos hc116_25]], N0, rfl⟩
                          · refine own_back (b := s₁.setTop (mkF m 126 #[.val (.int p0)] [(.int (13 : Int32)), (.int p0)])) (fun t kt => ?_) ?_
                            · show Steps p.tables e below (s₁.setTop (mkF m 116 #[.val (.int p0)] [(.int (12 : Int32)), (.int p0)])) _
                              refine XS.icmpYes X0.here hx rfl (pc0 := 116) (pc' := 123) rfl (hb hby d1_116) rfl (feq hc116_25).2 (by decide) (by decide) ?_
                              show Steps p.tables e below (s₁.setTop (mkF m 123 #[.val (.int p0)] [])) _
                              refine XS.iloadN X0.here hx rfl (hb hby d1_123) rfl ?_
                              show Steps p.tables e below (s₁.setTop (mkF m 124 #[.val (.int p0)] [(.int p0)])) _
                              refine XS.bipush X0.here hx rfl (hb hby d1_124) ?_
                              exact kt
                            by_cases hc126_27 : p0 = (13 : Int32)
                            · obtain ⟨T28, X28, e28, st28⟩ := getS2 X0 hx hZ hown (host := "") (Or.inl (hw _ (List.mem_of_getElem? (i := 26) rfl))) Via.refl e0 S_API_VERSIONS (g := (mkF m 129 #[.val (.int p0)] [])) rfl (hb hby d1_129)
                              refine own_back (b := T28.setTop (mkF m 132 #[.val (.int p0)] [(.ref w_API_VERSIONS)])) (fun t kt => ?_) ?_
                              · show Steps p.tables e below (s₁.setTop (mkF m 126 #[.val (.int p0)] [(.int (13 : Int32)), (.int p0)])) _
                                refine XS.icmpNo X0.here hx rfl (hb hby d1_126) rfl (teq hc126_27).2 ?_
                                show Steps p.tables e below (s₁.setTop (mkF m 129 #[.val (.int p0)] [])) _
                                refine st28 _ ?_
                                exact kt
                              obtain ⟨fs, hr, hrun, hended, hW, hsame⟩ := X28.leave (v := some (.ref w_API_VERSIONS)) (fun h => by rw [Bd.returns] at h; cases h)
                              refine ⟨_, _, ?_, hrun, hended, _, _, rfl, ?_, ⟨_, rfl⟩, hW, hsame.mono (by decide) (by decide)⟩
                              · show Steps p.tables e below (T28.setTop (mkF m 132 #[.val (.int p0)] [(.ref w_API_VERSIONS)])) _
                                exact own_retA X28 hx Bd.returns rfl rfl (hb hby d1_132) hr
                              · show Q1 Z p0 w_PRODUCE w_FETCH w_LIST_OFFSETS w_METADATA w_OFFSET_COMMIT w_OFFSET_FETCH w_FIND_COORDINATOR w_JOIN_GROUP w_HEARTBEAT w_LEAVE_GROUP w_SYNC_GROUP w_DESCRIBE_GROUPS w_LIST_GROUPS w_API_VERSIONS w_CREATE_TOPICS w_DELETE_TOPICS h0 n0 _ T28.heap _
                                rw [e28]
                                exact ⟨by rw [show f1 p0 w_PRODUCE w_FETCH w_LIST_OFFSETS w_METADATA w_OFFSET_COMMIT w_OFFSET_FETCH w_FIND_COORDINATOR w_JOIN_GROUP w_HEARTBEAT w_LEAVE_GROUP w_SYNC_GROUP w_DESCRIBE_GROUPS w_LIST_GROUPS w_API_VERSIONS w_CREATE_TOPICS w_DELETE_TOPICS = w_API_VERSIONS from by unfold f1; rw [if_neg hc1_1, if_neg hc10_3, if_neg hc19_5, if_neg hc28_7, if_neg hc37_9, if_neg hc46_11, if_neg hc56_13, if_neg hc66_15, if_neg hc76_17, if_neg hc86_19, if_neg hc96_21, if_neg hc106_23, if_neg hc116_25, if_pos hc126_27]], N0, rfl⟩
                            · refine own_back (b := s₁.setTop (mkF m 136 #[.val (.int p0)] [(.int (14 : Int32)), (.int p0)])) (fun t kt => ?_) ?_
                              · show Steps p.tables e below (s₁.setTop (mkF m 126 #[.val (.int p0)] [(.int (13 : Int32)), (.int p0)])) _
                                refine XS.icmpYes X0.here hx rfl (pc0 := 126) (pc' := 133) rfl (hb hby d1_126) rfl (feq hc126_27).2 (by decide) (by decide) ?_
                                show Steps p.tables e below (s₁.setTop (mkF m 133 #[.val (.int p0)] [])) _
                                refine XS.iloadN X0.here hx rfl (hb hby d1_133) rfl ?_
                                show Steps p.tables e below (s₁.setTop (mkF m 134 #[.val (.int p0)] [(.int p0)])) _
                                refine XS.bipush X0.here hx rfl (hb hby d1_134) ?_
                                exact kt
                              by_cases hc136_29 : p0 = (14 : Int32)
                              · obtain ⟨T30, X30, e30, st30⟩ := getS2 X0 hx hZ hown (host := "") (Or.inl (hw _ (List.mem_of_getElem? (i := 20) rfl))) Via.refl e0 S_CREATE_TOPICS (g := (mkF m 139 #[.val (.int p0)] [])) rfl (hb hby d1_139)
                                refine own_back (b := T30.setTop (mkF m 142 #[.val (.int p0)] [(.ref w_CREATE_TOPICS)])) (fun t kt => ?_) ?_
                                · show Steps p.tables e below (s₁.setTop (mkF m 136 #[.val (.int p0)] [(.int (14 : Int32)), (.int p0)])) _
                                  refine XS.icmpNo X0.here hx rfl (hb hby d1_136) rfl (teq hc136_29).2 ?_
                                  show Steps p.tables e below (s₁.setTop (mkF m 139 #[.val (.int p0)] [])) _
                                  refine st30 _ ?_
                                  exact kt
                                obtain ⟨fs, hr, hrun, hended, hW, hsame⟩ := X30.leave (v := some (.ref w_CREATE_TOPICS)) (fun h => by rw [Bd.returns] at h; cases h)
                                refine ⟨_, _, ?_, hrun, hended, _, _, rfl, ?_, ⟨_, rfl⟩, hW, hsame.mono (by decide) (by decide)⟩
                                · show Steps p.tables e below (T30.setTop (mkF m 142 #[.val (.int p0)] [(.ref w_CREATE_TOPICS)])) _
                                  exact own_retA X30 hx Bd.returns rfl rfl (hb hby d1_142) hr
                                · show Q1 Z p0 w_PRODUCE w_FETCH w_LIST_OFFSETS w_METADATA w_OFFSET_COMMIT w_OFFSET_FETCH w_FIND_COORDINATOR w_JOIN_GROUP w_HEARTBEAT w_LEAVE_GROUP w_SYNC_GROUP w_DESCRIBE_GROUPS w_LIST_GROUPS w_API_VERSIONS w_CREATE_TOPICS w_DELETE_TOPICS h0 n0 _ T30.heap _
                                  rw [e30]
                                  exact ⟨by rw [show f1 p0 w_PRODUCE w_FETCH w_LIST_OFFSETS w_METADATA w_OFFSET_COMMIT w_OFFSET_FETCH w_FIND_COORDINATOR w_JOIN_GROUP w_HEARTBEAT w_LEAVE_GROUP w_SYNC_GROUP w_DESCRIBE_GROUPS w_LIST_GROUPS w_API_VERSIONS w_CREATE_TOPICS w_DELETE_TOPICS = w_CREATE_TOPICS from by unfold f1; rw [if_neg hc1_1, if_neg hc10_3, if_neg hc19_5, if_neg hc28_7, if_neg hc37_9, if_neg hc46_11, if_neg hc56_13, if_neg hc66_15, if_neg hc76_17, if_neg hc86_19, if_neg hc96_21, if_neg hc106_23, if_neg hc116_25, if_neg hc126_27, if_pos hc136_29]], N0, rfl⟩
                              · obtain ⟨T31, X31, e31, st31⟩ := getS2 X0 hx hZ hown (host := "") (Or.inl (hw _ (List.mem_of_getElem? (i := 34) rfl))) Via.refl e0 S_DELETE_TOPICS (g := (mkF m 143 #[.val (.int p0)] [])) rfl (hb hby d1_143)
                                refine own_back (b := T31.setTop (mkF m 146 #[.val (.int p0)] [(.ref w_DELETE_TOPICS)])) (fun t kt => ?_) ?_
                                · show Steps p.tables e below (s₁.setTop (mkF m 136 #[.val (.int p0)] [(.int (14 : Int32)), (.int p0)])) _
                                  refine XS.icmpYes X0.here hx rfl (pc0 := 136) (pc' := 143) rfl (hb hby d1_136) rfl (feq hc136_29).2 (by decide) (by decide) ?_
                                  show Steps p.tables e below (s₁.setTop (mkF m 143 #[.val (.int p0)] [])) _
                                  refine st31 _ ?_
                                  exact kt
                                obtain ⟨fs, hr, hrun, hended, hW, hsame⟩ := X31.leave (v := some (.ref w_DELETE_TOPICS)) (fun h => by rw [Bd.returns] at h; cases h)
                                refine ⟨_, _, ?_, hrun, hended, _, _, rfl, ?_, ⟨_, rfl⟩, hW, hsame.mono (by decide) (by decide)⟩
                                · show Steps p.tables e below (T31.setTop (mkF m 146 #[.val (.int p0)] [(.ref w_DELETE_TOPICS)])) _
                                  exact own_retA X31 hx Bd.returns rfl rfl (hb hby d1_146) hr
                                · show Q1 Z p0 w_PRODUCE w_FETCH w_LIST_OFFSETS w_METADATA w_OFFSET_COMMIT w_OFFSET_FETCH w_FIND_COORDINATOR w_JOIN_GROUP w_HEARTBEAT w_LEAVE_GROUP w_SYNC_GROUP w_DESCRIBE_GROUPS w_LIST_GROUPS w_API_VERSIONS w_CREATE_TOPICS w_DELETE_TOPICS h0 n0 _ T31.heap _
                                  rw [e31]
                                  exact ⟨by rw [show f1 p0 w_PRODUCE w_FETCH w_LIST_OFFSETS w_METADATA w_OFFSET_COMMIT w_OFFSET_FETCH w_FIND_COORDINATOR w_JOIN_GROUP w_HEARTBEAT w_LEAVE_GROUP w_SYNC_GROUP w_DESCRIBE_GROUPS w_LIST_GROUPS w_API_VERSIONS w_CREATE_TOPICS w_DELETE_TOPICS = w_DELETE_TOPICS from by unfold f1; rw [if_neg hc1_1, if_neg hc10_3, if_neg hc19_5, if_neg hc28_7, if_neg hc37_9, if_neg hc46_11, if_neg hc56_13, if_neg hc66_15, if_neg hc76_17, if_neg hc86_19, if_neg hc96_21, if_neg hc106_23, if_neg hc116_25, if_neg hc126_27, if_neg hc136_29]], N0, rfl⟩
theorem d2_0 : decode method_4_code 0 = .ok (.iload_n 0, 1) := by decide +kernel
theorem d2_1 : decode method_4_code 1 = .ok (.ifCond .ne 6, 3) := by decide +kernel
theorem d2_4 : decode method_4_code 4 = .ok (.bipush 7, 2) := by decide +kernel
theorem d2_6 : decode method_4_code 6 = .ok (.ireturn, 1) := by decide +kernel
theorem d2_7 : decode method_4_code 7 = .ok (.iload_n 0, 1) := by decide +kernel
theorem d2_8 : decode method_4_code 8 = .ok (.iconst 1, 1) := by decide +kernel
theorem d2_9 : decode method_4_code 9 = .ok (.if_icmp .ne 6, 3) := by decide +kernel
theorem d2_12 : decode method_4_code 12 = .ok (.bipush 11, 2) := by decide +kernel
theorem d2_14 : decode method_4_code 14 = .ok (.ireturn, 1) := by decide +kernel
theorem d2_15 : decode method_4_code 15 = .ok (.iload_n 0, 1) := by decide +kernel
theorem d2_16 : decode method_4_code 16 = .ok (.iconst 2, 1) := by decide +kernel
theorem d2_17 : decode method_4_code 17 = .ok (.if_icmp .ne 5, 3) := by decide +kernel
theorem d2_20 : decode method_4_code 20 = .ok (.iconst 3, 1) := by decide +kernel
theorem d2_21 : decode method_4_code 21 = .ok (.ireturn, 1) := by decide +kernel
theorem d2_22 : decode method_4_code 22 = .ok (.iload_n 0, 1) := by decide +kernel
theorem d2_23 : decode method_4_code 23 = .ok (.iconst 3, 1) := by decide +kernel
theorem d2_24 : decode method_4_code 24 = .ok (.if_icmp .ne 5, 3) := by decide +kernel
theorem d2_27 : decode method_4_code 27 = .ok (.iconst 5, 1) := by decide +kernel
theorem d2_28 : decode method_4_code 28 = .ok (.ireturn, 1) := by decide +kernel
theorem d2_29 : decode method_4_code 29 = .ok (.iload_n 0, 1) := by decide +kernel
theorem d2_30 : decode method_4_code 30 = .ok (.iconst 4, 1) := by decide +kernel
theorem d2_31 : decode method_4_code 31 = .ok (.if_icmp .ne 6, 3) := by decide +kernel
theorem d2_34 : decode method_4_code 34 = .ok (.bipush 7, 2) := by decide +kernel
theorem d2_36 : decode method_4_code 36 = .ok (.ireturn, 1) := by decide +kernel
theorem d2_37 : decode method_4_code 37 = .ok (.iload_n 0, 1) := by decide +kernel
theorem d2_38 : decode method_4_code 38 = .ok (.iconst 5, 1) := by decide +kernel
theorem d2_39 : decode method_4_code 39 = .ok (.if_icmp .ne 6, 3) := by decide +kernel
theorem d2_42 : decode method_4_code 42 = .ok (.bipush 7, 2) := by decide +kernel
theorem d2_44 : decode method_4_code 44 = .ok (.ireturn, 1) := by decide +kernel
theorem d2_45 : decode method_4_code 45 = .ok (.iload_n 0, 1) := by decide +kernel
theorem d2_46 : decode method_4_code 46 = .ok (.bipush 6, 2) := by decide +kernel
theorem d2_48 : decode method_4_code 48 = .ok (.if_icmp .ne 5, 3) := by decide +kernel
theorem d2_51 : decode method_4_code 51 = .ok (.iconst 2, 1) := by decide +kernel
theorem d2_52 : decode method_4_code 52 = .ok (.ireturn, 1) := by decide +kernel
theorem d2_53 : decode method_4_code 53 = .ok (.iload_n 0, 1) := by decide +kernel
theorem d2_54 : decode method_4_code 54 = .ok (.bipush 7, 2) := by decide +kernel
theorem d2_56 : decode method_4_code 56 = .ok (.if_icmp .ne 5, 3) := by decide +kernel
theorem d2_59 : decode method_4_code 59 = .ok (.iconst 5, 1) := by decide +kernel
theorem d2_60 : decode method_4_code 60 = .ok (.ireturn, 1) := by decide +kernel
theorem d2_61 : decode method_4_code 61 = .ok (.iload_n 0, 1) := by decide +kernel
theorem d2_62 : decode method_4_code 62 = .ok (.bipush 8, 2) := by decide +kernel
theorem d2_64 : decode method_4_code 64 = .ok (.if_icmp .ne 5, 3) := by decide +kernel
theorem d2_67 : decode method_4_code 67 = .ok (.iconst 3, 1) := by decide +kernel
theorem d2_68 : decode method_4_code 68 = .ok (.ireturn, 1) := by decide +kernel
theorem d2_69 : decode method_4_code 69 = .ok (.iload_n 0, 1) := by decide +kernel
theorem d2_70 : decode method_4_code 70 = .ok (.bipush 9, 2) := by decide +kernel
theorem d2_72 : decode method_4_code 72 = .ok (.if_icmp .ne 5, 3) := by decide +kernel
theorem d2_75 : decode method_4_code 75 = .ok (.iconst 3, 1) := by decide +kernel
theorem d2_76 : decode method_4_code 76 = .ok (.ireturn, 1) := by decide +kernel
theorem d2_77 : decode method_4_code 77 = .ok (.iload_n 0, 1) := by decide +kernel
theorem d2_78 : decode method_4_code 78 = .ok (.bipush 10, 2) := by decide +kernel
theorem d2_80 : decode method_4_code 80 = .ok (.if_icmp .ne 5, 3) := by decide +kernel
theorem d2_83 : decode method_4_code 83 = .ok (.iconst 3, 1) := by decide +kernel
theorem d2_84 : decode method_4_code 84 = .ok (.ireturn, 1) := by decide +kernel
theorem d2_85 : decode method_4_code 85 = .ok (.iload_n 0, 1) := by decide +kernel
theorem d2_86 : decode method_4_code 86 = .ok (.bipush 11, 2) := by decide +kernel
theorem d2_88 : decode method_4_code 88 = .ok (.if_icmp .ne 5, 3) := by decide +kernel
theorem d2_91 : decode method_4_code 91 = .ok (.iconst 4, 1) := by decide +kernel
theorem d2_92 : decode method_4_code 92 = .ok (.ireturn, 1) := by decide +kernel
theorem d2_93 : decode method_4_code 93 = .ok (.iload_n 0, 1) := by decide +kernel
theorem d2_94 : decode method_4_code 94 = .ok (.bipush 12, 2) := by decide +kernel
theorem d2_96 : decode method_4_code 96 = .ok (.if_icmp .ne 5, 3) := by decide +kernel
theorem d2_99 : decode method_4_code 99 = .ok (.iconst 2, 1) := by decide +kernel
theorem d2_100 : decode method_4_code 100 = .ok (.ireturn, 1) := by decide +kernel
theorem d2_101 : decode method_4_code 101 = .ok (.iload_n 0, 1) := by decide +kernel
theorem d2_102 : decode method_4_code 102 = .ok (.bipush 13, 2) := by decide +kernel
theorem d2_104 : decode method_4_code 104 = .ok (.if_icmp .ne 5, 3) := by decide +kernel
theorem d2_107 : decode method_4_code 107 = .ok (.iconst 3, 1) := by decide +kernel
theorem d2_108 : decode method_4_code 108 = .ok (.ireturn, 1) := by decide +kernel
theorem d2_109 : decode method_4_code 109 = .ok (.iload_n 0, 1) := by decide +kernel
theorem d2_110 : decode method_4_code 110 = .ok (.bipush 14, 2) := by decide +kernel
theorem d2_112 : decode method_4_code 112 = .ok (.if_icmp .ne 5, 3) := by decide +kernel
theorem d2_115 : decode method_4_code 115 = .ok (.iconst 4, 1) := by decide +kernel
theorem d2_116 : decode method_4_code 116 = .ok (.ireturn, 1) := by decide +kernel
theorem d2_117 : decode method_4_code 117 = .ok (.iconst 3, 1) := by decide +kernel
theorem d2_118 : decode method_4_code 118 = .ok (.ireturn, 1) := by decide +kernel
theorem pn_2 : plainName "com/example/urial/urial/protocol/ApiKeySupportsPinLaw" = true := by first | (simp [plainName, overriddenIn]; done) | decide +kernel
theorem ef_2 (m : MethodId) (x0 : Int32) : entryFrame m #[(.int x0)] 1 = mkF m 0 #[.val (.int x0)] [] := by first | (simp [entryFrame, mkF, argsToLocals, Value.category]; done) | rfl
def f2 (p0 : Int32) : Int32 := (if p0 = (0 : Int32) then (7 : Int32) else (if p0 = (1 : Int32) then (11 : Int32) else (if p0 = (2 : Int32) then (3 : Int32) else (if p0 = (3 : Int32) then (5 : Int32) else (if p0 = (4 : Int32) then (7 : Int32) else (if p0 = (5 : Int32) then (7 : Int32) else (if p0 = (6 : Int32) then (2 : Int32) else (if p0 = (7 : Int32) then (5 : Int32) else (if p0 = (8 : Int32) then (3 : Int32) else (if p0 = (9 : Int32) then (3 : Int32) else (if p0 = (10 : Int32) then (3 : Int32) else (if p0 = (11 : Int32) then (4 : Int32) else (if p0 = (12 : Int32) then (2 : Int32) else (if p0 = (13 : Int32) then (3 : Int32) else (if p0 = (14 : Int32) then (4 : Int32) else (3 : Int32))))))))))))))))
def Q2 (Z : State) (p0 : Int32) (h0 : Heap) (n0 : Nat) (v : Option Value) (h : Heap) (L : List Loc) : Prop := v = some (.int (f2 p0)) ∧ Fr n0 L ∧ h = h0
set_option maxRecDepth 65536 in
set_option maxHeartbeats 40000000 in
theorem rm2 (l : Launch) (Z : State) (aw : Array Value) (hw : ∀ d ∈ tables_1, d.before aw Z = true) (ws : List Jvm.Cond) (p0 : Int32) (h0 : Heap) (n0 : Nat) (Z0 : n0 ≤ h0.size) :
    MetFree l (⟨"com/example/urial/urial/protocol/ApiKeySupportsPinLaw", "high", "(I)I"⟩ : MethodName) (head1 (Jvm.Cond.code (⟨"com/example/urial/urial/protocol/ApiKeySupportsPinLaw", "high", "(I)I"⟩ : MethodName) method_4_code 1 (some .int) :: ws) ({ frames := 0, cells := 0, slots := 0, locals := 0 } : Room)) (fun a U => a = #[(.int p0)] ∧ Z.Warmed39 U.vm ∧ U.heap = h0) (fun _ _ _ _ _ => True) (fun _ U o U' => ∃ v L, o = .returned v ∧ Q2 Z p0 h0 n0 v U'.heap L ∧ FrameEnd U o U' L ({ frames := 0, cells := 0, slots := 0, locals := 0 } : Room).cells ({ frames := 0, cells := 0, slots := 0, locals := 0 } : Room).slots) := by
  refine MetFree.of_bodySF (plainFor_of_name pn_2) hisR ?_
  intro p e s m args below meth c s₁ Bd hml0 hP hK
  obtain ⟨rfl, hZ, hh⟩ := hP
  have hx := Bd.exec
  have hby := Bd.bytes
  have hml : c.maxLocals = 1 := hml0
  have hown : s.vm.findClass "com/example/urial/urial/protocol/ApiKeySupportsPinLaw" = some m.cls := findClass_of_methodNamed Bd.named
  have hnm := (name_of_methodNamed Bd.named Bd.method).1
  have X0 : Stand p l e ({ frames := 0, cells := 0, slots := 0, locals := 0 } : Room) s m #[(.int p0)] below meth c s₁ [] 0 0 := Stand.of_body Bd
  have e0 : s₁.heap = h0 := by rw [← hh, Bd.state]; rfl
  have N0 := Fr.nil n0
  refine own_back (b := s₁.setTop (mkF m 0 #[.val (.int p0)] [])) (fun t kt => castTop (ef_2 m p0) kt) ?_
  refine own_back (b := s₁.setTop (mkF m 1 #[.val (.int p0)] [(.int p0)])) (fun t kt => ?_) ?_
  · show Steps p.tables e below (s₁.setTop (mkF m 0 #[.val (.int p0)] [])) _
    refine XS.iloadN X0.here hx rfl (hb hby d2_0) rfl ?_
    exact kt
  by_cases hc1_1 : p0 = (0 : Int32)
  · refine own_back (b := s₁.setTop (mkF m 6 #[.val (.int p0)] [(.int (7 : Int32))])) (fun t kt => ?_) ?_
    · show Steps p.tables e below (s₁.setTop (mkF m 1 #[.val (.int p0)] [(.int p0)])) _
      refine XS.ifNo X0.here hx rfl (hb hby d2_1) rfl ((if0 _ _).trans (teq hc1_1).2) ?_
      show Steps p.tables e below (s₁.setTop (mkF m 4 #[.val (.int p0)] [])) _
      refine XS.bipush X0.here hx rfl (hb hby d2_4) ?_
      exact kt
    obtain ⟨fs, hr, hrun, hended, hW, hsame⟩ := X0.leave (v := some (.int (7 : Int32))) (fun h => by rw [Bd.returns] at h; cases h)
    refine ⟨_, _, ?_, hrun, hended, _, _, rfl, ?_, ⟨_, rfl⟩, hW, hsame.mono (by decide) (by decide)⟩
    · show Steps p.tables e below (s₁.setTop (mkF m 6 #[.val (.int p0)] [(.int (7 : Int32))])) _
      exact retI X0 hx Bd.returns (hb hby d2_6) hr
    · show Q2 Z p0 h0 n0 _ s₁.heap _
      rw [e0]
      exact ⟨by rw [show f2 p0 = (7 : Int32) from by unfold f2; rw [if_pos hc1_1]], N0, rfl⟩
  · refine own_back (b := s₁.setTop (mkF m 9 #[.val (.int p0)] [(.int (1 : Int32)), (.int p0)])) (fun t kt => ?_) ?_
    · show Steps p.tables e below (s₁.setTop (mkF m 1 #[.val (.int p0)] [(.int p0)])) _
      refine XS.ifYes X0.here hx rfl (pc0 := 1) (pc' := 7) rfl (hb hby d2_1) rfl ((if0 _ _).trans (feq hc1_1).2) (by decide) (by decide) ?_
      show Steps p.tables e below (s₁.setTop (mkF m 7 #[.val (.int p0)] [])) _
      refine XS.iloadN X0.here hx rfl (hb hby d2_7) rfl ?_
      show Steps p.tables e below (s₁.setTop (mkF m 8 #[.val (.int p0)] [(.int p0)])) _
      refine XS.iconst X0.here hx rfl (hb hby d2_8) ?_
      exact kt
    by_cases hc9_2 : p0 = (1 : Int32)
    · refine own_back (b := s₁.setTop (mkF m 14 #[.val (.int p0)] [(.int (11 : Int32))])) (fun t kt => ?_) ?_
      · show Steps p.tables e below (s₁.setTop (mkF m 9 #[.val (.int p0)] [(.int (1 : Int32)), (.int p0)])) _
        refine XS.icmpNo X0.here hx rfl (hb hby d2_9) rfl (teq hc9_2).2 ?_
        show Steps p.tables e below (s₁.setTop (mkF m 12 #[.val (.int p0)] [])) _
        refine XS.bipush X0.here hx rfl (hb hby d2_12) ?_
        exact kt
      obtain ⟨fs, hr, hrun, hended, hW, hsame⟩ := X0.leave (v := some (.int (11 : Int32))) (fun h => by rw [Bd.returns] at h; cases h)
      refine ⟨_, _, ?_, hrun, hended, _, _, rfl, ?_, ⟨_, rfl⟩, hW, hsame.mono (by decide) (by decide)⟩
      · show Steps p.tables e below (s₁.setTop (mkF m 14 #[.val (.int p0)] [(.int (11 : Int32))])) _
        exact retI X0 hx Bd.returns (hb hby d2_14) hr
      · show Q2 Z p0 h0 n0 _ s₁.heap _
        rw [e0]
        exact ⟨by rw [show f2 p0 = (11 : Int32) from by unfold f2; rw [if_neg hc1_1, if_pos hc9_2]], N0, rfl⟩
    · refine own_back (b := s₁.setTop (mkF m 17 #[.val (.int p0)] [(.int (2 : Int32)), (.int p0)])) (fun t kt => ?_) ?_
      · show Steps p.tables e below (s₁.setTop (mkF m 9 #[.val (.int p0)] [(.int (1 : Int32)), (.int p0)])) _
        refine XS.icmpYes X0.here hx rfl (pc0 := 9) (pc' := 15) rfl (hb hby d2_9) rfl (feq hc9_2).2 (by decide) (by decide) ?_
        show Steps p.tables e below (s₁.setTop (mkF m 15 #[.val (.int p0)] [])) _
        refine XS.iloadN X0.here hx rfl (hb hby d2_15) rfl ?_
        show Steps p.tables e below (s₁.setTop (mkF m 16 #[.val (.int p0)] [(.int p0)])) _
        refine XS.iconst X0.here hx rfl (hb hby d2_16) ?_
        exact kt
      by_cases hc17_3 : p0 = (2 : Int32)
      · refine own_back (b := s₁.setTop (mkF m 21 #[.val (.int p0)] [(.int (3 : Int32))])) (fun t kt => ?_) ?_
        · show Steps p.tables e below (s₁.setTop (mkF m 17 #[.val (.int p0)] [(.int (2 : Int32)), (.int p0)])) _
          refine XS.icmpNo X0.here hx rfl (hb hby d2_17) rfl (teq hc17_3).2 ?_
          show Steps p.tables e below (s₁.setTop (mkF m 20 #[.val (.int p0)] [])) _
          refine XS.iconst X0.here hx rfl (hb hby d2_20) ?_
          exact kt
        obtain ⟨fs, hr, hrun, hended, hW, hsame⟩ := X0.leave (v := some (.int (3 : Int32))) (fun h => by rw [Bd.returns] at h; cases h)
        refine ⟨_, _, ?_, hrun, hended, _, _, rfl, ?_, ⟨_, rfl⟩, hW, hsame.mono (by decide) (by decide)⟩
        · show Steps p.tables e below (s₁.setTop (mkF m 21 #[.val (.int p0)] [(.int (3 : Int32))])) _
          exact retI X0 hx Bd.returns (hb hby d2_21) hr
        · show Q2 Z p0 h0 n0 _ s₁.heap _
          rw [e0]
          exact ⟨by rw [show f2 p0 = (3 : Int32) from by unfold f2; rw [if_neg hc1_1, if_neg hc9_2, if_pos hc17_3]], N0, rfl⟩
      · refine own_back (b := s₁.setTop (mkF m 24 #[.val (.int p0)] [(.int (3 : Int32)), (.int p0)])) (fun t kt => ?_) ?_
        · show Steps p.tables e below (s₁.setTop (mkF m 17 #[.val (.int p0)] [(.int (2 : Int32)), (.int p0)])) _
          refine XS.icmpYes X0.here hx rfl (pc0 := 17) (pc' := 22) rfl (hb hby d2_17) rfl (feq hc17_3).2 (by decide) (by decide) ?_
          show Steps p.tables e below (s₁.setTop (mkF m 22 #[.val (.int p0)] [])) _
          refine XS.iloadN X0.here hx rfl (hb hby d2_22) rfl ?_
          show Steps p.tables e below (s₁.setTop (mkF m 23 #[.val (.int p0)] [(.int p0)])) _
          refine XS.iconst X0.here hx rfl (hb hby d2_23) ?_
          exact kt
        by_cases hc24_4 : p0 = (3 : Int32)
        · refine own_back (b := s₁.setTop (mkF m 28 #[.val (.int p0)] [(.int (5 : Int32))])) (fun t kt => ?_) ?_
          · show Steps p.tables e below (s₁.setTop (mkF m 24 #[.val (.int p0)] [(.int (3 : Int32)), (.int p0)])) _
            refine XS.icmpNo X0.here hx rfl (hb hby d2_24) rfl (teq hc24_4).2 ?_
            show Steps p.tables e below (s₁.setTop (mkF m 27 #[.val (.int p0)] [])) _
            refine XS.iconst X0.here hx rfl (hb hby d2_27) ?_
            exact kt
          obtain ⟨fs, hr, hrun, hended, hW, hsame⟩ := X0.leave (v := some (.int (5 : Int32))) (fun h => by rw [Bd.returns] at h; cases h)
          refine ⟨_, _, ?_, hrun, hended, _, _, rfl, ?_, ⟨_, rfl⟩, hW, hsame.mono (by decide) (by decide)⟩
          · show Steps p.tables e below (s₁.setTop (mkF m 28 #[.val (.int p0)] [(.int (5 : Int32))])) _
            exact retI X0 hx Bd.returns (hb hby d2_28) hr
          · show Q2 Z p0 h0 n0 _ s₁.heap _
            rw [e0]
            exact ⟨by rw [show f2 p0 = (5 : Int32) from by unfold f2; rw [if_neg hc1_1, if_neg hc9_2, if_neg hc17_3, if_pos hc24_4]], N0, rfl⟩
        · refine own_back (b := s₁.setTop (mkF m 31 #[.val (.int p0)] [(.int (4 : Int32)), (.int p0)])) (fun t kt => ?_) ?_
          · show Steps p.tables e below (s₁.setTop (mkF m 24 #[.val (.int p0)] [(.int (3 : Int32)), (.int p0)])) _
            refine XS.icmpYes X0.here hx rfl (pc0 := 24) (pc' := 29) rfl (hb hby d2_24) rfl (feq hc24_4).2 (by decide) (by decide) ?_
            show Steps p.tables e below (s₁.setTop (mkF m 29 #[.val (.int p0)] [])) _
            refine XS.iloadN X0.here hx rfl (hb hby d2_29) rfl ?_
            show Steps p.tables e below (s₁.setTop (mkF m 30 #[.val (.int p0)] [(.int p0)])) _
            refine XS.iconst X0.here hx rfl (hb hby d2_30) ?_
            exact kt
          by_cases hc31_5 : p0 = (4 : Int32)
          · refine own_back (b := s₁.setTop (mkF m 36 #[.val (.int p0)] [(.int (7 : Int32))])) (fun t kt => ?_) ?_
            · show Steps p.tables e below (s₁.setTop (mkF m 31 #[.val (.int p0)] [(.int (4 : Int32)), (.int p0)])) _
              refine XS.icmpNo X0.here hx rfl (hb hby d2_31) rfl (teq hc31_5).2 ?_
              show Steps p.tables e below (s₁.setTop (mkF m 34 #[.val (.int p0)] [])) _
              refine XS.bipush X0.here hx rfl (hb hby d2_34) ?_
              exact kt
            obtain ⟨fs, hr, hrun, hended, hW, hsame⟩ := X0.leave (v := some (.int (7 : Int32))) (fun h => by rw [Bd.returns] at h; cases h)
            refine ⟨_, _, ?_, hrun, hended, _, _, rfl, ?_, ⟨_, rfl⟩, hW, hsame.mono (by decide) (by decide)⟩
            · show Steps p.tables e below (s₁.setTop (mkF m 36 #[.val (.int p0)] [(.int (7 : Int32))])) _
              exact retI X0 hx Bd.returns (hb hby d2_36) hr
            · show Q2 Z p0 h0 n0 _ s₁.heap _
              rw [e0]
              exact ⟨by rw [show f2 p0 = (7 : Int32) from by unfold f2; rw [if_neg hc1_1, if_neg hc9_2, if_neg hc17_3, if_neg hc24_4, if_pos hc31_5]], N0, rfl⟩
          · refine own_back (b := s₁.setTop (mkF m 39 #[.val (.int p0)] [(.int (5 : Int32)), (.int p0)])) (fun t kt => ?_) ?_
            · show Steps p.tables e below (s₁.setTop (mkF m 31 #[.val (.int p0)] [(.int (4 : Int32)), (.int p0)])) _
              refine XS.icmpYes X0.here hx rfl (pc0 := 31) (pc' := 37) rfl (hb hby d2_31) rfl (feq hc31_5).2 (by decide) (by decide) ?_
              show Steps p.tables e below (s₁.setTop (mkF m 37 #[.val (.int p0)] [])) _
              refine XS.iloadN X0.here hx rfl (hb hby d2_37) rfl ?_
              show Steps p.tables e below (s₁.setTop (mkF m 38 #[.val (.int p0)] [(.int p0)])) _
              refine XS.iconst X0.here hx rfl (hb hby d2_38) ?_
              exact kt
            by_cases hc39_6 : p0 = (5 : Int32)
            · refine own_back (b := s₁.setTop (mkF m 44 #[.val (.int p0)] [(.int (7 : Int32))])) (fun t kt => ?_) ?_
              · show Steps p.tables e below (s₁.setTop (mkF m 39 #[.val (.int p0)] [(.int (5 : Int32)), (.int p0)])) _
                refine XS.icmpNo X0.here hx rfl (hb hby d2_39) rfl (teq hc39_6).2 ?_
                show Steps p.tables e below (s₁.setTop (mkF m 42 #[.val (.int p0)] [])) _
                refine XS.bipush X0.here hx rfl (hb hby d2_42) ?_
                exact kt
              obtain ⟨fs, hr, hrun, hended, hW, hsame⟩ := X0.leave (v := some (.int (7 : Int32))) (fun h => by rw [Bd.returns] at h; cases h)
              refine ⟨_, _, ?_, hrun, hended, _, _, rfl, ?_, ⟨_, rfl⟩, hW, hsame.mono (by decide) (by decide)⟩
              · show Steps p.tables e below (s₁.setTop (mkF m 44 #[.val (.int p0)] [(.int (7 : Int32))])) _
                exact retI X0 hx Bd.returns (hb hby d2_44) hr
              · show Q2 Z p0 h0 n0 _ s₁.heap _
                rw [e0]
                exact ⟨by rw [show f2 p0 = (7 : Int32) from by unfold f2; rw [if_neg hc1_1, if_neg hc9_2, if_neg hc17_3, if_neg hc24_4, if_neg hc31_5, if_pos hc39_6]], N0, rfl⟩
            · refine own_back (b := s₁.setTop (mkF m 48 #[.val (.int p0)] [(.int (6 : Int32)), (.int p0)])) (fun t kt => ?_) ?_
              · show Steps p.tables e below (s₁.setTop (mkF m 39 #[.val (.int p0)] [(.int (5 : Int32)), (.int p0)])) _
                refine XS.icmpYes X0.here hx rfl (pc0 := 39) (pc' := 45) rfl (hb hby d2_39) rfl (feq hc39_6).2 (by decide) (by decide) ?_
                show Steps p.tables e below (s₁.setTop (mkF m 45 #[.val (.int p0)] [])) _
                refine XS.iloadN X0.here hx rfl (hb hby d2_45) rfl ?_
                show Steps p.tables e below (s₁.setTop (mkF m 46 #[.val (.int p0)] [(.int p0)])) _
                refine XS.bipush X0.here hx rfl (hb hby d2_46) ?_
                exact kt
              by_cases hc48_7 : p0 = (6 : Int32)
              · refine own_back (b := s₁.setTop (mkF m 52 #[.val (.int p0)] [(.int (2 : Int32))])) (fun t kt => ?_) ?_
                · show Steps p.tables e below (s₁.setTop (mkF m 48 #[.val (.int p0)] [(.int (6 : Int32)), (.int p0)])) _
                  refine XS.icmpNo X0.here hx rfl (hb hby d2_48) rfl (teq hc48_7).2 ?_
                  show Steps p.tables e below (s₁.setTop (mkF m 51 #[.val (.int p0)] [])) _
                  refine XS.iconst X0.here hx rfl (hb hby d2_51) ?_
                  exact kt
                obtain ⟨fs, hr, hrun, hended, hW, hsame⟩ := X0.leave (v := some (.int (2 : Int32))) (fun h => by rw [Bd.returns] at h; cases h)
                refine ⟨_, _, ?_, hrun, hended, _, _, rfl, ?_, ⟨_, rfl⟩, hW, hsame.mono (by decide) (by decide)⟩
                · show Steps p.tables e below (s₁.setTop (mkF m 52 #[.val (.int p0)] [(.int (2 : Int32))])) _
                  exact retI X0 hx Bd.returns (hb hby d2_52) hr
                · show Q2 Z p0 h0 n0 _ s₁.heap _
                  rw [e0]
                  exact ⟨by rw [show f2 p0 = (2 : Int32) from by unfold f2; rw [if_neg hc1_1, if_neg hc9_2, if_neg hc17_3, if_neg hc24_4, if_neg hc31_5, if_neg hc39_6, if_pos hc48_7]], N0, rfl⟩
              · refine own_back (b := s₁.setTop (mkF m 56 #[.val (.int p0)] [(.int (7 : Int32)), (.int p0)])) (fun t kt => ?_) ?_
                · show Steps p.tables e below (s₁.setTop (mkF m 48 #[.val (.int p0)] [(.int (6 : Int32)), (.int p0)])) _
                  refine XS.icmpYes X0.here hx rfl (pc0 := 48) (pc' := 53) rfl (hb hby d2_48) rfl (feq hc48_7).2 (by decide) (by decide) ?_
                  show Steps p.tables e below (s₁.setTop (mkF m 53 #[.val (.int p0)] [])) _
                  refine XS.iloadN X0.here hx rfl (hb hby d2_53) rfl ?_
                  show Steps p.tables e below (s₁.setTop (mkF m 54 #[.val (.int p0)] [(.int p0)])) _
                  refine XS.bipush X0.here hx rfl (hb hby d2_54) ?_
                  exact kt
                by_cases hc56_8 : p0 = (7 : Int32)
                · refine own_back (b := s₁.setTop (mkF m 60 #[.val (.int p0)] [(.int (5 : Int32))])) (fun t kt => ?_) ?_
                  · show Steps p.tables e below (s₁.setTop (mkF m 56 #[.val (.int p0)] [(.int (7 : Int32)), (.int p0)])) _
                    refine XS.icmpNo X0.here hx rfl (hb hby d2_56) rfl (teq hc56_8).2 ?_
                    show Steps p.tables e below (s₁.setTop (mkF m 59 #[.val (.int p0)] [])) _
                    refine XS.iconst X0.here hx rfl (hb hby d2_59) ?_
                    exact kt
                  obtain ⟨fs, hr, hrun, hended, hW, hsame⟩ := X0.leave (v := some (.int (5 : Int32))) (fun h => by rw [Bd.returns] at h; cases h)
                  refine ⟨_, _, ?_, hrun, hended, _, _, rfl, ?_, ⟨_, rfl⟩, hW, hsame.mono (by decide) (by decide)⟩
                  · show Steps p.tables e below (s₁.setTop (mkF m 60 #[.val (.int p0)] [(.int (5 : Int32))])) _
                    exact retI X0 hx Bd.returns (hb hby d2_60) hr
                  · show Q2 Z p0 h0 n0 _ s₁.heap _
                    rw [e0]
                    exact ⟨by rw [show f2 p0 = (5 : Int32) from by unfold f2; rw [if_neg hc1_1, if_neg hc9_2, if_neg hc17_3, if_neg hc24_4, if_neg hc31_5, if_neg hc39_6, if_neg hc48_7, if_pos hc56_8]], N0, rfl⟩
                · refine own_back (b := s₁.setTop (mkF m 64 #[.val (.int p0)] [(.int (8 : Int32)), (.int p0)])) (fun t kt => ?_) ?_
                  · show Steps p.tables e below (s₁.setTop (mkF m 56 #[.val (.int p0)] [(.int (7 : Int32)), (.int p0)])) _
                    refine XS.icmpYes X0.here hx rfl (pc0 := 56) (pc' := 61) rfl (hb hby d2_56) rfl (feq hc56_8).2 (by decide) (by decide) ?_
                    show Steps p.tables e below (s₁.setTop (mkF m 61 #[.val (.int p0)] [])) _
                    refine XS.iloadN X0.here hx rfl (hb hby d2_61) rfl ?_
                    show Steps p.tables e below (s₁.setTop (mkF m 62 #[.val (.int p0)] [(.int p0)])) _
                    refine XS.bipush X0.here hx rfl (hb hby d2_62) ?_
                    exact kt
                  by_cases hc64_9 : p0 = (8 : Int32)
                  · refine own_back (b := s₁.setTop (mkF m 68 #[.val (.int p0)] [(.int (3 : Int32))])) (fun t kt => ?_) ?_
                    · show Steps p.tables e below (s₁.setTop (mkF m 64 #[.val (.int p0)] [(.int (8 : Int32)), (.int p0)])) _
                      refine XS.icmpNo X0.here hx rfl (hb hby d2_64) rfl (teq hc64_9).2 ?_
                      show Steps p.tables e below (s₁.setTop (mkF m 67 #[.val (.int p0)] [])) _
                      refine XS.iconst X0.here hx rfl (hb hby d2_67) ?_
                      exact kt
                    obtain ⟨fs, hr, hrun, hended, hW, hsame⟩ := X0.leave (v := some (.int (3 : Int32))) (fun h => by rw [Bd.returns] at h; cases h)
                    refine ⟨_, _, ?_, hrun, hended, _, _, rfl, ?_, ⟨_, rfl⟩, hW, hsame.mono (by decide) (by decide)⟩
                    · show Steps p.tables e below (s₁.setTop (mkF m 68 #[.val (.int p0)] [(.int (3 : Int32))])) _
                      exact retI X0 hx Bd.returns (hb hby d2_68) hr
                    · show Q2 Z p0 h0 n0 _ s₁.heap _
                      rw [e0]
                      exact ⟨by rw [show f2 p0 = (3 : Int32) from by unfold f2; rw [if_neg hc1_1, if_neg hc9_2, if_neg hc17_3, if_neg hc24_4, if_neg hc31_5, if_neg hc39_6, if_neg hc48_7, if_neg hc56_8, if_pos hc64_9]], N0, rfl⟩
                  · refine own_back (b := s₁.setTop (mkF m 72 #[.val (.int p0)] [(.int (9 : Int32)), (.int p0)])) (fun t kt => ?_) ?_
                    · show Steps p.tables e below (s₁.setTop (mkF m 64 #[.val (.int p0)] [(.int (8 : Int32)), (.int p0)])) _
                      refine XS.icmpYes X0.here hx rfl (pc0 := 64) (pc' := 69) rfl (hb hby d2_64) rfl (feq hc64_9).2 (by decide) (by decide) ?_
                      show Steps p.tables e below (s₁.setTop (mkF m 69 #[.val (.int p0)] [])) _
                      refine XS.iloadN X0.here hx rfl (hb hby d2_69) rfl ?_
                      show Steps p.tables e below (s₁.setTop (mkF m 70 #[.val (.int p0)] [(.int p0)])) _
                      refine XS.bipush X0.here hx rfl (hb hby d2_70) ?_
                      exact kt
                    by_cases hc72_10 : p0 = (9 : Int32)
                    · refine own_back (b := s₁.setTop (mkF m 76 #[.val (.int p0)] [(.int (3 : Int32))])) (fun t kt => ?_) ?_
                      · show Steps p.tables e below (s₁.setTop (mkF m 72 #[.val (.int p0)] [(.int (9 : Int32)), (.int p0)])) _
                        refine XS.icmpNo X0.here hx rfl (hb hby d2_72) rfl (teq hc72_10).2 ?_
                        show Steps p.tables e below (s₁.setTop (mkF m 75 #[.val (.int p0)] [])) _
                        refine XS.iconst X0.here hx rfl (hb hby d2_75) ?_
                        exact kt
                      obtain ⟨fs, hr, hrun, hended, hW, hsame⟩ := X0.leave (v := some (.int (3 : Int32))) (fun h => by rw [Bd.returns] at h; cases h)
                      refine ⟨_, _, ?_, hrun, hended, _, _, rfl, ?_, ⟨_, rfl⟩, hW, hsame.mono (by decide) (by decide)⟩
                      · show Steps p.tables e below (s₁.setTop (mkF m 76 #[.val (.int p0)] [(.int (3 : Int32))])) _
                        exact retI X0 hx Bd.returns (hb hby d2_76) hr
                      · show Q2 Z p0 h0 n0 _ s₁.heap _
                        rw [e0]
                        exact ⟨by rw [show f2 p0 = (3 : Int32) from by unfold f2; rw [if_neg hc1_1, if_neg hc9_2, if_neg hc17_3, if_neg hc24_4, if_neg hc31_5, if_neg hc39_6, if_neg hc48_7, if_neg hc56_8, if_neg hc64_9, if_pos hc72_10]], N0, rfl⟩
                    · refine own_back (b := s₁.setTop (mkF m 80 #[.val (.int p0)] [(.int (10 : Int32)), (.int p0)])) (fun t kt => ?_) ?_
                      · show Steps p.tables e below (s₁.setTop (mkF m 72 #[.val (.int p0)] [(.int (9 : Int32)), (.int p0)])) _
                        refine XS.icmpYes X0.here hx rfl (pc0 := 72) (pc' := 77) rfl (hb hby d2_72) rfl (feq hc72_10).2 (by decide) (by decide) ?_
                        show Steps p.tables e below (s₁.setTop (mkF m 77 #[.val (.int p0)] [])) _
                        refine XS.iloadN X0.here hx rfl (hb hby d2_77) rfl ?_
                        show Steps p.tables e below (s₁.setTop (mkF m 78 #[.val (.int p0)] [(.int p0)])) _
                        refine XS.bipush X0.here hx rfl (hb hby d2_78) ?_
                        exact kt
                      by_cases hc80_11 : p0 = (10 : Int32)
                      · refine own_back (b := s₁.setTop (mkF m 84 #[.val (.int p0)] [(.int (3 : Int32))])) (fun t kt => ?_) ?_
                        · show Steps p.tables e below (s₁.setTop (mkF m 80 #[.val (.int p0)] [(.int (10 : Int32)), (.int p0)])) _
                          refine XS.icmpNo X0.here hx rfl (hb hby d2_80) rfl (teq hc80_11).2 ?_
                          show Steps p.tables e below (s₁.setTop (mkF m 83 #[.val (.int p0)] [])) _
                          refine XS.iconst X0.here hx rfl (hb hby d2_83) ?_
                          exact kt
                        obtain ⟨fs, hr, hrun, hended, hW, hsame⟩ := X0.leave (v := some (.int (3 : Int32))) (fun h => by rw [Bd.returns] at h; cases h)
                        refine ⟨_, _, ?_, hrun, hended, _, _, rfl, ?_, ⟨_, rfl⟩, hW, hsame.mono (by decide) (by decide)⟩
                        · show Steps p.tables e below (s₁.setTop (mkF m 84 #[.val (.int p0)] [(.int (3 : Int32))])) _
                          exact retI X0 hx Bd.returns (hb hby d2_84) hr
                        · show Q2 Z p0 h0 n0 _ s₁.heap _
                          rw [e0]
                          exact ⟨by rw [show f2 p0 = (3 : Int32) from by unfold f2; rw [if_neg hc1_1, if_neg hc9_2, if_neg hc17_3, if_neg hc24_4, if_neg hc31_5, if_neg hc39_6, if_neg hc48_7, if_neg hc56_8, if_neg hc64_9, if_neg hc72_10, if_pos hc80_11]], N0, rfl⟩
                      · refine own_back (b := s₁.setTop (mkF m 88 #[.val (.int p0)] [(.int (11 : Int32)), (.int p0)])) (fun t kt => ?_) ?_
                        · show Steps p.tables e below (s₁.setTop (mkF m 80 #[.val (.int p0)] [(.int (10 : Int32)), (.int p0)])) _
                          refine XS.icmpYes X0.here hx rfl (pc0 := 80) (pc' := 85) rfl (hb hby d2_80) rfl (feq hc80_11).2 (by decide) (by decide) ?_
                          show Steps p.tables e below (s₁.setTop (mkF m 85 #[.val (.int p0)] [])) _
                          refine XS.iloadN X0.here hx rfl (hb hby d2_85) rfl ?_
                          show Steps p.tables e below (s₁.setTop (mkF m 86 #[.val (.int p0)] [(.int p0)])) _
                          refine XS.bipush X0.here hx rfl (hb hby d2_86) ?_
                          exact kt
                        by_cases hc88_12 : p0 = (11 : Int32)
                        · refine own_back (b := s₁.setTop (mkF m 92 #[.val (.int p0)] [(.int (4 : Int32))])) (fun t kt => ?_) ?_
                          · show Steps p.tables e below (s₁.setTop (mkF m 88 #[.val (.int p0)] [(.int (11 : Int32)), (.int p0)])) _
                            refine XS.icmpNo X0.here hx rfl (hb hby d2_88) rfl (teq hc88_12).2 ?_
                            show Steps p.tables e below (s₁.setTop (mkF m 91 #[.val (.int p0)] [])) _
                            refine XS.iconst X0.here hx rfl (hb hby d2_91) ?_
                            exact kt
                          obtain ⟨fs, hr, hrun, hended, hW, hsame⟩ := X0.leave (v := some (.int (4 : Int32))) (fun h => by rw [Bd.returns] at h; cases h)
                          refine ⟨_, _, ?_, hrun, hended, _, _, rfl, ?_, ⟨_, rfl⟩, hW, hsame.mono (by decide) (by decide)⟩
                          · show Steps p.tables e below (s₁.setTop (mkF m 92 #[.val (.int p0)] [(.int (4 : Int32))])) _
                            exact retI X0 hx Bd.returns (hb hby d2_92) hr
                          · show Q2 Z p0 h0 n0 _ s₁.heap _
                            rw [e0]
                            exact ⟨by rw [show f2 p0 = (4 : Int32) from by unfold f2; rw [if_neg hc1_1, if_neg hc9_2, if_neg hc17_3, if_neg hc24_4, if_neg hc31_5, if_neg hc39_6, if_neg hc48_7, if_neg hc56_8, if_neg hc64_9, if_neg hc72_10, if_neg hc80_11, if_pos hc88_12]], N0, rfl⟩
                        · refine own_back (b := s₁.setTop (mkF m 96 #[.val (.int p0)] [(.int (12 : Int32)), (.int p0)])) (fun t kt => ?_) ?_
                          · show Steps p.tables e below (s₁.setTop (mkF m 88 #[.val (.int p0)] [(.int (11 : Int32)), (.int p0)])) _
                            refine XS.icmpYes X0.here hx rfl (pc0 := 88) (pc' := 93) rfl (hb hby d2_88) rfl (feq hc88_12).2 (by decide) (by decide) ?_
                            show Steps p.tables e below (s₁.setTop (mkF m 93 #[.val (.int p0)] [])) _
                            refine XS.iloadN X0.here hx rfl (hb hby d2_93) rfl ?_
                            show Steps p.tables e below (s₁.setTop (mkF m 94 #[.val (.int p0)] [(.int p0)])) _
                            refine XS.bipush X0.here hx rfl (hb hby d2_94) ?_
                            exact kt
                          by_cases hc96_13 : p0 = (12 : Int32)
                          · refine own_back (b := s₁.setTop (mkF m 100 #[.val (.int p0)] [(.int (2 : Int32))])) (fun t kt => ?_) ?_
                            · show Steps p.tables e below (s₁.setTop (mkF m 96 #[.val (.int p0)] [(.int (12 : Int32)), (.int p0)])) _
                              refine XS.icmpNo X0.here hx rfl (hb hby d2_96) rfl (teq hc96_13).2 ?_
                              show Steps p.tables e below (s₁.setTop (mkF m 99 #[.val (.int p0)] [])) _
                              refine XS.iconst X0.here hx rfl (hb hby d2_99) ?_
                              exact kt
                            obtain ⟨fs, hr, hrun, hended, hW, hsame⟩ := X0.leave (v := some (.int (2 : Int32))) (fun h => by rw [Bd.returns] at h; cases h)
                            refine ⟨_, _, ?_, hrun, hended, _, _, rfl, ?_, ⟨_, rfl⟩, hW, hsame.mono (by decide) (by decide)⟩
                            · show Steps p.tables e below (s₁.setTop (mkF m 100 #[.val (.int p0)] [(.int (2 : Int32))])) _
                              exact retI X0 hx Bd.returns (hb hby d2_100) hr
                            · show Q2 Z p0 h0 n0 _ s₁.heap _
                              rw [e0]
                              exact ⟨by rw [show f2 p0 = (2 : Int32) from by unfold f2; rw [if_neg hc1_1, if_neg hc9_2, if_neg hc17_3, if_neg hc24_4, if_neg hc31_5, if_neg hc39_6, if_neg hc48_7, if_neg hc56_8, if_neg hc64_9, if_neg hc72_10, if_neg hc80_11, if_neg hc88_12, if_pos hc96_13]], N0, rfl⟩
                          · refine own_back (b := s₁.setTop (mkF m 104 #[.val (.int p0)] [(.int (13 : Int32)), (.int p0)])) (fun t kt => ?_) ?_
                            · show Steps p.tables e below (s₁.setTop (mkF m 96 #[.val (.int p0)] [(.int (12 : Int32)), (.int p0)])) _
                              refine XS.icmpYes X0.here hx rfl (pc0 := 96) (pc' := 101) rfl (hb hby d2_96) rfl (feq hc96_13).2 (by decide) (by decide) ?_
                              show Steps p.tables e below (s₁.setTop (mkF m 101 #[.val (.int p0)] [])) _
                              refine XS.iloadN X0.here hx rfl (hb hby d2_101) rfl ?_
                              show Steps p.tables e below (s₁.setTop (mkF m 102 #[.val (.int p0)] [(.int p0)])) _
                              refine XS.bipush X0.here hx rfl (hb hby d2_102) ?_
                              exact kt
                            by_cases hc104_14 : p0 = (13 : Int32)
                            · refine own_back (b := s₁.setTop (mkF m 108 #[.val (.int p0)] [(.int (3 : Int32))])) (fun t kt => ?_) ?_
                              · show Steps p.tables e below (s₁.setTop (mkF m 104 #[.val (.int p0)] [(.int (13 : Int32)), (.int p0)])) _
                                refine XS.icmpNo X0.here hx rfl (hb hby d2_104) rfl (teq hc104_14).2 ?_
                                show Steps p.tables e below (s₁.setTop (mkF m 107 #[.val (.int p0)] [])) _
                                refine XS.iconst X0.here hx rfl (hb hby d2_107) ?_
                                exact kt
                              obtain ⟨fs, hr, hrun, hended, hW, hsame⟩ := X0.leave (v := some (.int (3 : Int32))) (fun h => by rw [Bd.returns] at h; cases h)
                              refine ⟨_, _, ?_, hrun, hended, _, _, rfl, ?_, ⟨_, rfl⟩, hW, hsame.mono (by decide) (by decide)⟩
                              · show Steps p.tables e below (s₁.setTop (mkF m 108 #[.val (.int p0)] [(.int (3 : Int32))])) _
                                exact retI X0 hx Bd.returns (hb hby d2_108) hr
                              · show Q2 Z p0 h0 n0 _ s₁.heap _
                                rw [e0]
                                exact ⟨by rw [show f2 p0 = (3 : Int32) from by unfold f2; rw [if_neg hc1_1, if_neg hc9_2, if_neg hc17_3, if_neg hc24_4, if_neg hc31_5, if_neg hc39_6, if_neg hc48_7, if_neg hc56_8, if_neg hc64_9, if_neg hc72_10, if_neg hc80_11, if_neg hc88_12, if_neg hc96_13, if_pos hc104_14]], N0, rfl⟩
                            · refine own_back (b := s₁.setTop (mkF m 112 #[.val (.int p0)] [(.int (14 : Int32)), (.int p0)])) (fun t kt => ?_) ?_
                              · show Steps p.tables e below (s₁.setTop (mkF m 104 #[.val (.int p0)] [(.int (13 : Int32)), (.int p0)])) _
                                refine XS.icmpYes X0.here hx rfl (pc0 := 104) (pc' := 109) rfl (hb hby d2_104) rfl (feq hc104_14).2 (by decide) (by decide) ?_
                                show Steps p.tables e below (s₁.setTop (mkF m 109 #[.val (.int p0)] [])) _
                                refine XS.iloadN X0.here hx rfl (hb hby d2_109) rfl ?_
                                show Steps p.tables e below (s₁.setTop (mkF m 110 #[.val (.int p0)] [(.int p0)])) _
                                refine XS.bipush X0.here hx rfl (hb hby d2_110) ?_
                                exact kt
                              by_cases hc112_15 : p0 = (14 : Int32)
                              · refine own_back (b := s₁.setTop (mkF m 116 #[.val (.int p0)] [(.int (4 : Int32))])) (fun t kt => ?_) ?_
                                · show Steps p.tables e below (s₁.setTop (mkF m 112 #[.val (.int p0)] [(.int (14 : Int32)), (.int p0)])) _
                                  refine XS.icmpNo X0.here hx rfl (hb hby d2_112) rfl (teq hc112_15).2 ?_
                                  show Steps p.tables e below (s₁.setTop (mkF m 115 #[.val (.int p0)] [])) _
                                  refine XS.iconst X0.here hx rfl (hb hby d2_115) ?_
                                  exact kt
                                obtain ⟨fs, hr, hrun, hended, hW, hsame⟩ := X0.leave (v := some (.int (4 : Int32))) (fun h => by rw [Bd.returns] at h; cases h)
                                refine ⟨_, _, ?_, hrun, hended, _, _, rfl, ?_, ⟨_, rfl⟩, hW, hsame.mono (by decide) (by decide)⟩
                                · show Steps p.tables e below (s₁.setTop (mkF m 116 #[.val (.int p0)] [(.int (4 : Int32))])) _
                                  exact retI X0 hx Bd.returns (hb hby d2_116) hr
                                · show Q2 Z p0 h0 n0 _ s₁.heap _
                                  rw [e0]
                                  exact ⟨by rw [show f2 p0 = (4 : Int32) from by unfold f2; rw [if_neg hc1_1, if_neg hc9_2, if_neg hc17_3, if_neg hc24_4, if_neg hc31_5, if_neg hc39_6, if_neg hc48_7, if_neg hc56_8, if_neg hc64_9, if_neg hc72_10, if_neg hc80_11, if_neg hc88_12, if_neg hc96_13, if_neg hc104_14, if_pos hc112_15]], N0, rfl⟩
                              · refine own_back (b := s₁.setTop (mkF m 118 #[.val (.int p0)] [(.int (3 : Int32))])) (fun t kt => ?_) ?_
                                · show Steps p.tables e below (s₁.setTop (mkF m 112 #[.val (.int p0)] [(.int (14 : Int32)), (.int p0)])) _
                                  refine XS.icmpYes X0.here hx rfl (pc0 := 112) (pc' := 117) rfl (hb hby d2_112) rfl (feq hc112_15).2 (by decide) (by decide) ?_
                                  show Steps p.tables e below (s₁.setTop (mkF m 117 #[.val (.int p0)] [])) _
                                  refine XS.iconst X0.here hx rfl (hb hby d2_117) ?_
                                  exact kt
                                obtain ⟨fs, hr, hrun, hended, hW, hsame⟩ := X0.leave (v := some (.int (3 : Int32))) (fun h => by rw [Bd.returns] at h; cases h)
                                refine ⟨_, _, ?_, hrun, hended, _, _, rfl, ?_, ⟨_, rfl⟩, hW, hsame.mono (by decide) (by decide)⟩
                                · show Steps p.tables e below (s₁.setTop (mkF m 118 #[.val (.int p0)] [(.int (3 : Int32))])) _
                                  exact retI X0 hx Bd.returns (hb hby d2_118) hr
                                · show Q2 Z p0 h0 n0 _ s₁.heap _
                                  rw [e0]
                                  exact ⟨by rw [show f2 p0 = (3 : Int32) from by unfold f2; rw [if_neg hc1_1, if_neg hc9_2, if_neg hc17_3, if_neg hc24_4, if_neg hc31_5, if_neg hc39_6, if_neg hc48_7, if_neg hc56_8, if_neg hc64_9, if_neg hc72_10, if_neg hc80_11, if_neg hc88_12, if_neg hc96_13, if_neg hc104_14, if_neg hc112_15]], N0, rfl⟩
theorem d3_0 : decode prog_47_method_8_code 0 = .ok (.iload_n 1, 1) := by decide +kernel
theorem d3_1 : decode prog_47_method_8_code 1 = .ok (.aload_n 0, 1) := by decide +kernel
theorem d3_2 : decode prog_47_method_8_code 2 = .ok (.getfield 75, 3) := by decide +kernel
theorem d3_5 : decode prog_47_method_8_code 5 = .ok (.if_icmp .lt 15, 3) := by decide +kernel
theorem d3_8 : decode prog_47_method_8_code 8 = .ok (.iload_n 1, 1) := by decide +kernel
theorem d3_9 : decode prog_47_method_8_code 9 = .ok (.aload_n 0, 1) := by decide +kernel
theorem d3_10 : decode prog_47_method_8_code 10 = .ok (.getfield 78, 3) := by decide +kernel
theorem d3_13 : decode prog_47_method_8_code 13 = .ok (.if_icmp .gt 7, 3) := by decide +kernel
theorem d3_16 : decode prog_47_method_8_code 16 = .ok (.iconst 1, 1) := by decide +kernel
theorem d3_17 : decode prog_47_method_8_code 17 = .ok (.goto 4, 3) := by decide +kernel
theorem d3_20 : decode prog_47_method_8_code 20 = .ok (.iconst 0, 1) := by decide +kernel
theorem d3_21 : decode prog_47_method_8_code 21 = .ok (.ireturn, 1) := by decide +kernel
theorem pn_3 : plainName "com/example/urial/urial/protocol/ApiKey" = true := by first | (simp [plainName, overriddenIn]; done) | decide +kernel
theorem ef_3 (m : MethodId) (x0 : Addr) (x1 : Int32) : entryFrame m #[(.ref x0), (.int x1)] 2 = mkF m 0 #[.val (.ref x0), .val (.int x1)] [] := by first | (simp [entryFrame, mkF, argsToLocals, Value.category]; done) | rfl
def f3 (p1 : Int32) (w1 : Int32) (w2 : Int32) : Int32 := (if p1 < w1 then (0 : Int32) else (if w2 < p1 then (0 : Int32) else (1 : Int32)))
def Q3 (Z : State) (a0 : Addr) (p1 : Int32) (w1 : Int32) (w2 : Int32) (h0 : Heap) (n0 : Nat) (v : Option Value) (h : Heap) (L : List Loc) : Prop := v = some (.int (f3 p1 w1 w2)) ∧ Fr n0 L ∧ h = h0
set_option maxRecDepth 65536 in
set_option maxHeartbeats 40000000 in
theorem rm3 (l : Launch) (Z : State) (aw : Array Value) (hw : ∀ d ∈ tables_1, d.before aw Z = true) (ws : List Jvm.Cond) (a0 : Addr) (p1 : Int32) (w1 : Int32) (w2 : Int32) (h0 : Heap) (n0 : Nat) (Z0 : n0 ≤ h0.size) (F_lowestVersion_a0 : Fld Z h0 a0 "com/example/urial/urial/protocol/ApiKey" "lowestVersion" "S" (.int w1)) (F_highestVersion_a0 : Fld Z h0 a0 "com/example/urial/urial/protocol/ApiKey" "highestVersion" "S" (.int w2)) :
    MetFree l (⟨"com/example/urial/urial/protocol/ApiKey", "supports", "(S)Z"⟩ : MethodName) (head1 (Jvm.Cond.code (⟨"com/example/urial/urial/protocol/ApiKey", "supports", "(S)Z"⟩ : MethodName) prog_47_method_8_code 2 (some .boolean) :: ws) ({ frames := 0, cells := 0, slots := 0, locals := 0 } : Room)) (fun a U => a = #[(.ref a0), (.int p1)] ∧ Z.Warmed39 U.vm ∧ U.heap = h0) (fun _ _ _ _ _ => True) (fun _ U o U' => ∃ v L, o = .returned v ∧ Q3 Z a0 p1 w1 w2 h0 n0 v U'.heap L ∧ FrameEnd U o U' L ({ frames := 0, cells := 0, slots := 0, locals := 0 } : Room).cells ({ frames := 0, cells := 0, slots := 0, locals := 0 } : Room).slots) := by
  refine MetFree.of_bodySF (plainFor_of_name pn_3) hisR ?_
  intro p e s m args below meth c s₁ Bd hml0 hP hK
  obtain ⟨rfl, hZ, hh⟩ := hP
  have hx := Bd.exec
  have hby := Bd.bytes
  have hml : c.maxLocals = 2 := hml0
  have hown : s.vm.findClass "com/example/urial/urial/protocol/ApiKey" = some m.cls := findClass_of_methodNamed Bd.named
  have hnm := (name_of_methodNamed Bd.named Bd.method).1
  have X0 : Stand p l e ({ frames := 0, cells := 0, slots := 0, locals := 0 } : Room) s m #[(.ref a0), (.int p1)] below meth c s₁ [] 0 0 := Stand.of_body Bd
  have e0 : s₁.heap = h0 := by rw [← hh, Bd.state]; rfl
  have N0 := Fr.nil n0
  refine own_back (b := s₁.setTop (mkF m 0 #[.val (.ref a0), .val (.int p1)] [])) (fun t kt => castTop (ef_3 m a0 p1) kt) ?_
  obtain ⟨T1, X1, e1, st1⟩ := getF X0 hx hZ hown (host := "") (Or.inl (hw _ (List.mem_of_getElem? (i := 16) rfl))) Via.refl e0 F_lowestVersion_a0 (g := (mkF m 2 #[.val (.ref a0), .val (.int p1)] [(.ref a0), (.int p1)])) rfl rfl (hb hby d3_2)
  refine own_back (b := T1.setTop (mkF m 5 #[.val (.ref a0), .val (.int p1)] [(.int w1), (.int p1)])) (fun t kt => ?_) ?_
  · show Steps p.tables e below (s₁.setTop (mkF m 0 #[.val (.ref a0), .val (.int p1)] [])) _
    refine XS.iloadN X0.here hx rfl (hb hby d3_0) rfl ?_
    show Steps p.tables e below (s₁.setTop (mkF m 1 #[.val (.ref a0), .val (.int p1)] [(.int p1)])) _
    refine XS.aloadN X0.here hx rfl (hb hby d3_1) rfl rfl ?_
    show Steps p.tables e below (s₁.setTop (mkF m 2 #[.val (.ref a0), .val (.int p1)] [(.ref a0), (.int p1)])) _
    refine st1 _ ?_
    exact kt
  by_cases hc5_2 : p1 < w1
  · refine own_back (b := T1.setTop (mkF m 21 #[.val (.ref a0), .val (.int p1)] [(.int (0 : Int32))])) (fun t kt => ?_) ?_
    · show Steps p.tables e below (T1.setTop (mkF m 5 #[.val (.ref a0), .val (.int p1)] [(.int w1), (.int p1)])) _
      refine XS.icmpYes X1.here hx rfl (pc0 := 5) (pc' := 20) rfl (hb hby d3_5) rfl (tlt hc5_2).1 (by decide) (by decide) ?_
      show Steps p.tables e below (T1.setTop (mkF m 20 #[.val (.ref a0), .val (.int p1)] [])) _
      refine XS.iconst X1.here hx rfl (hb hby d3_20) ?_
      exact kt
    obtain ⟨fs, hr, hrun, hended, hW, hsame⟩ := X1.leave (v := some (.int (0 : Int32))) (fun h => by rw [Bd.returns] at h; cases h)
    refine ⟨_, _, ?_, hrun, hended, _, _, rfl, ?_, ⟨_, rfl⟩, hW, hsame.mono (by decide) (by decide)⟩
    · show Steps p.tables e below (T1.setTop (mkF m 21 #[.val (.ref a0), .val (.int p1)] [(.int (0 : Int32))])) _
      exact retN X1 hx (t := .boolean) Bd.returns (by simp) (hb hby d3_21) hr
    · show Q3 Z a0 p1 w1 w2 h0 n0 _ T1.heap _
      rw [e1]
      exact ⟨by rw [show f3 p1 w1 w2 = (0 : Int32) from by unfold f3; rw [if_pos hc5_2]], N0, rfl⟩
  · obtain ⟨T3, X3, e3, st3⟩ := getF X1 hx hZ hown (host := "") (Or.inl (hw _ (List.mem_of_getElem? (i := 18) rfl))) Via.refl e1 F_highestVersion_a0 (g := (mkF m 10 #[.val (.ref a0), .val (.int p1)] [(.ref a0), (.int p1)])) rfl rfl (hb hby d3_10)
    refine own_back (b := T3.setTop (mkF m 13 #[.val (.ref a0), .val (.int p1)] [(.int w2), (.int p1)])) (fun t kt => ?_) ?_
    · show Steps p.tables e below (T1.setTop (mkF m 5 #[.val (.ref a0), .val (.int p1)] [(.int w1), (.int p1)])) _
      refine XS.icmpNo X1.here hx rfl (hb hby d3_5) rfl (flt hc5_2).1 ?_
      show Steps p.tables e below (T1.setTop (mkF m 8 #[.val (.ref a0), .val (.int p1)] [])) _
      refine XS.iloadN X1.here hx rfl (hb hby d3_8) rfl ?_
      show Steps p.tables e below (T1.setTop (mkF m 9 #[.val (.ref a0), .val (.int p1)] [(.int p1)])) _
      refine XS.aloadN X1.here hx rfl (hb hby d3_9) rfl rfl ?_
      show Steps p.tables e below (T1.setTop (mkF m 10 #[.val (.ref a0), .val (.int p1)] [(.ref a0), (.int p1)])) _
      refine st3 _ ?_
      exact kt
    by_cases hc13_4 : w2 < p1
    · refine own_back (b := T3.setTop (mkF m 21 #[.val (.ref a0), .val (.int p1)] [(.int (0 : Int32))])) (fun t kt => ?_) ?_
      · show Steps p.tables e below (T3.setTop (mkF m 13 #[.val (.ref a0), .val (.int p1)] [(.int w2), (.int p1)])) _
        refine XS.icmpYes X3.here hx rfl (pc0 := 13) (pc' := 20) rfl (hb hby d3_13) rfl (tlt hc13_4).2.2.1 (by decide) (by decide) ?_
        show Steps p.tables e below (T3.setTop (mkF m 20 #[.val (.ref a0), .val (.int p1)] [])) _
        refine XS.iconst X3.here hx rfl (hb hby d3_20) ?_
        exact kt
      obtain ⟨fs, hr, hrun, hended, hW, hsame⟩ := X3.leave (v := some (.int (0 : Int32))) (fun h => by rw [Bd.returns] at h; cases h)
      refine ⟨_, _, ?_, hrun, hended, _, _, rfl, ?_, ⟨_, rfl⟩, hW, hsame.mono (by decide) (by decide)⟩
      · show Steps p.tables e below (T3.setTop (mkF m 21 #[.val (.ref a0), .val (.int p1)] [(.int (0 : Int32))])) _
        exact retN X3 hx (t := .boolean) Bd.returns (by simp) (hb hby d3_21) hr
      · show Q3 Z a0 p1 w1 w2 h0 n0 _ T3.heap _
        rw [e3]
        exact ⟨by rw [show f3 p1 w1 w2 = (0 : Int32) from by unfold f3; rw [if_neg hc5_2, if_pos hc13_4]], N0, rfl⟩
    · refine own_back (b := T3.setTop (mkF m 21 #[.val (.ref a0), .val (.int p1)] [(.int (1 : Int32))])) (fun t kt => ?_) ?_
      · show Steps p.tables e below (T3.setTop (mkF m 13 #[.val (.ref a0), .val (.int p1)] [(.int w2), (.int p1)])) _
        refine XS.icmpNo X3.here hx rfl (hb hby d3_13) rfl (flt hc13_4).2.2.1 ?_
        show Steps p.tables e below (T3.setTop (mkF m 16 #[.val (.ref a0), .val (.int p1)] [])) _
        refine XS.iconst X3.here hx rfl (hb hby d3_16) ?_
        show Steps p.tables e below (T3.setTop (mkF m 17 #[.val (.ref a0), .val (.int p1)] [(.int (1 : Int32))])) _
        refine XS.goto X3.here hx rfl (pc0 := 17) (pc' := 21) rfl (hb hby d3_17) (by decide) (by decide) ?_
        exact kt
      obtain ⟨fs, hr, hrun, hended, hW, hsame⟩ := X3.leave (v := some (.int (1 : Int32))) (fun h => by rw [Bd.returns] at h; cases h)
      refine ⟨_, _, ?_, hrun, hended, _, _, rfl, ?_, ⟨_, rfl⟩, hW, hsame.mono (by decide) (by decide)⟩
      · show Steps p.tables e below (T3.setTop (mkF m 21 #[.val (.ref a0), .val (.int p1)] [(.int (1 : Int32))])) _
        exact retN X3 hx (t := .boolean) Bd.returns (by simp) (hb hby d3_21) hr
      · show Q3 Z a0 p1 w1 w2 h0 n0 _ T3.heap _
        rw [e3]
        exact ⟨by rw [show f3 p1 w1 w2 = (1 : Int32) from by unfold f3; rw [if_neg hc5_2, if_neg hc13_4]], N0, rfl⟩
theorem own_pick (P : Addr → Int32 → Prop) (k : Int32) (w_PRODUCE w_FETCH w_LIST_OFFSETS w_METADATA w_OFFSET_COMMIT w_OFFSET_FETCH w_FIND_COORDINATOR w_JOIN_GROUP w_HEARTBEAT w_LEAVE_GROUP w_SYNC_GROUP w_DESCRIBE_GROUPS w_LIST_GROUPS w_API_VERSIONS w_CREATE_TOPICS w_DELETE_TOPICS : Addr) (h0 : P w_PRODUCE 7) (h1 : P w_FETCH 11) (h2 : P w_LIST_OFFSETS 3) (h3 : P w_METADATA 5) (h4 : P w_OFFSET_COMMIT 7) (h5 : P w_OFFSET_FETCH 7) (h6 : P w_FIND_COORDINATOR 2) (h7 : P w_JOIN_GROUP 5) (h8 : P w_HEARTBEAT 3) (h9 : P w_LEAVE_GROUP 3) (h10 : P w_SYNC_GROUP 3) (h11 : P w_DESCRIBE_GROUPS 4) (h12 : P w_LIST_GROUPS 2) (h13 : P w_API_VERSIONS 3) (h14 : P w_CREATE_TOPICS 4) (h15 : P w_DELETE_TOPICS 3) : P (f1 k w_PRODUCE w_FETCH w_LIST_OFFSETS w_METADATA w_OFFSET_COMMIT w_OFFSET_FETCH w_FIND_COORDINATOR w_JOIN_GROUP w_HEARTBEAT w_LEAVE_GROUP w_SYNC_GROUP w_DESCRIBE_GROUPS w_LIST_GROUPS w_API_VERSIONS w_CREATE_TOPICS w_DELETE_TOPICS) (f2 k) := by
  unfold f1 f2
  by_cases c0 : k = (0 : Int32)
  · rw [if_pos c0, if_pos c0]; exact h0
  · rw [if_neg c0, if_neg c0]
    by_cases c1 : k = (1 : Int32)
    · rw [if_pos c1, if_pos c1]; exact h1
    · rw [if_neg c1, if_neg c1]
      by_cases c2 : k = (2 : Int32)
      · rw [if_pos c2, if_pos c2]; exact h2
      · rw [if_neg c2, if_neg c2]
        by_cases c3 : k = (3 : Int32)
        · rw [if_pos c3, if_pos c3]; exact h3
        · rw [if_neg c3, if_neg c3]
          by_cases c4 : k = (4 : Int32)
          · rw [if_pos c4, if_pos c4]; exact h4
          · rw [if_neg c4, if_neg c4]
            by_cases c5 : k = (5 : Int32)
            · rw [if_pos c5, if_pos c5]; exact h5
            · rw [if_neg c5, if_neg c5]
              by_cases c6 : k = (6 : Int32)
              · rw [if_pos c6, if_pos c6]; exact h6
              · rw [if_neg c6, if_neg c6]
                by_cases c7 : k = (7 : Int32)
                · rw [if_pos c7, if_pos c7]; exact h7
                · rw [if_neg c7, if_neg c7]
                  by_cases c8 : k = (8 : Int32)
                  · rw [if_pos c8, if_pos c8]; exact h8
                  · rw [if_neg c8, if_neg c8]
                    by_cases c9 : k = (9 : Int32)
                    · rw [if_pos c9, if_pos c9]; exact h9
                    · rw [if_neg c9, if_neg c9]
                      by_cases c10 : k = (10 : Int32)
                      · rw [if_pos c10, if_pos c10]; exact h10
                      · rw [if_neg c10, if_neg c10]
                        by_cases c11 : k = (11 : Int32)
                        · rw [if_pos c11, if_pos c11]; exact h11
                        · rw [if_neg c11, if_neg c11]
                          by_cases c12 : k = (12 : Int32)
                          · rw [if_pos c12, if_pos c12]; exact h12
                          · rw [if_neg c12, if_neg c12]
                            by_cases c13 : k = (13 : Int32)
                            · rw [if_pos c13, if_pos c13]; exact h13
                            · rw [if_neg c13, if_neg c13]
                              by_cases c14 : k = (14 : Int32)
                              · rw [if_pos c14, if_pos c14]; exact h14
                              · rw [if_neg c14, if_neg c14]
                                exact h15
theorem pn_0 : plainName "com/example/urial/urial/protocol/ApiKeySupportsPinLaw" = true := by first | (simp [plainName, overriddenIn]; done) | decide +kernel
theorem pd_0_0 : parseMethodDescriptor "(I)Lcom/example/urial/urial/protocol/ApiKey;" = some ⟨[.int], some (.object "com/example/urial/urial/protocol/ApiKey")⟩ := by decide +kernel
theorem pd_0_1 : parseMethodDescriptor "(I)I" = some ⟨[.int], some .int⟩ := by decide +kernel
theorem pd_0_2 : parseMethodDescriptor "(S)Z" = some ⟨[.short], some .boolean⟩ := by decide +kernel
theorem ef_0 (m : MethodId) (x0 : Int32) (x1 : Int32) : entryFrame m #[(.int x0), (.int x1)] maxLocals = mkF m 0 #[.val (.int x0), .val (.int x1), .unset, .unset, .unset, .unset, .unset] [] := by first | (simp [entryFrame, mkF, argsToLocals, Value.category, maxLocals]; done) | rfl
def m0_0 (p0 : Int32) (p1 : Int32) : Int32 := (if (p1.toInt16.toInt32) < (0 : Int32) then (0 : Int32) else (if (f2 ((p0 &&& (2147483647 : Int32)) % (16 : Int32))) < (p1.toInt16.toInt32) then (0 : Int32) else (1 : Int32)))
def f0 (p0 : Int32) (p1 : Int32) : Int32 := (if (f3 (p1.toInt16.toInt32) (0 : Int32) (f2 ((p0 &&& (2147483647 : Int32)) % (16 : Int32)))) = (m0_0 p0 p1) then (1 : Int32) else (0 : Int32))
def Q0 (Z : State) (p0 : Int32) (p1 : Int32) (w_PRODUCE : Addr) (w_FETCH : Addr) (w_LIST_OFFSETS : Addr) (w_METADATA : Addr) (w_OFFSET_COMMIT : Addr) (w_OFFSET_FETCH : Addr) (w_FIND_COORDINATOR : Addr) (w_JOIN_GROUP : Addr) (w_HEARTBEAT : Addr) (w_LEAVE_GROUP : Addr) (w_SYNC_GROUP : Addr) (w_DESCRIBE_GROUPS : Addr) (w_LIST_GROUPS : Addr) (w_API_VERSIONS : Addr) (w_CREATE_TOPICS : Addr) (w_DELETE_TOPICS : Addr) (h0 : Heap) (n0 : Nat) (v : Option Value) (h : Heap) (L : List Loc) : Prop := v = some (.int (f0 p0 p1)) ∧ Fr n0 L
set_option maxRecDepth 65536 in
set_option maxHeartbeats 40000000 in
theorem rm0 (l : Launch) (Z : State) (aw : Array Value) (hw : ∀ d ∈ tables_1, d.before aw Z = true) (ws : List Jvm.Cond) (p0 : Int32) (p1 : Int32) (w_PRODUCE : Addr) (w_FETCH : Addr) (w_LIST_OFFSETS : Addr) (w_METADATA : Addr) (w_OFFSET_COMMIT : Addr) (w_OFFSET_FETCH : Addr) (w_FIND_COORDINATOR : Addr) (w_JOIN_GROUP : Addr) (w_HEARTBEAT : Addr) (w_LEAVE_GROUP : Addr) (w_SYNC_GROUP : Addr) (w_DESCRIBE_GROUPS : Addr) (w_LIST_GROUPS : Addr) (w_API_VERSIONS : Addr) (w_CREATE_TOPICS : Addr) (w_DELETE_TOPICS : Addr) (h0 : Heap) (n0 : Nat) (Z0 : n0 ≤ h0.size) (S_PRODUCE : Sta Z h0 "com/example/urial/urial/protocol/ApiKey" "PRODUCE" "Lcom/example/urial/urial/protocol/ApiKey;" (.ref w_PRODUCE)) (S_FETCH : Sta Z h0 "com/example/urial/urial/protocol/ApiKey" "FETCH" "Lcom/example/urial/urial/protocol/ApiKey;" (.ref w_FETCH)) (S_LIST_OFFSETS : Sta Z h0 "com/example/urial/urial/protocol/ApiKey" "LIST_OFFSETS" "Lcom/example/urial/urial/protocol/ApiKey;" (.ref w_LIST_OFFSETS)) (S_METADATA : Sta Z h0 "com/example/urial/urial/protocol/ApiKey" "METADATA" "Lcom/example/urial/urial/protocol/ApiKey;" (.ref w_METADATA)) (S_OFFSET_COMMIT : Sta Z h0 "com/example/urial/urial/protocol/ApiKey" "OFFSET_COMMIT" "Lcom/example/urial/urial/protocol/ApiKey;" (.ref w_OFFSET_COMMIT)) (S_OFFSET_FETCH : Sta Z h0 "com/example/urial/urial/protocol/ApiKey" "OFFSET_FETCH" "Lcom/example/urial/urial/protocol/ApiKey;" (.ref w_OFFSET_FETCH)) (S_FIND_COORDINATOR : Sta Z h0 "com/example/urial/urial/protocol/ApiKey" "FIND_COORDINATOR" "Lcom/example/urial/urial/protocol/ApiKey;" (.ref w_FIND_COORDINATOR)) (S_JOIN_GROUP : Sta Z h0 "com/example/urial/urial/protocol/ApiKey" "JOIN_GROUP" "Lcom/example/urial/urial/protocol/ApiKey;" (.ref w_JOIN_GROUP)) (S_HEARTBEAT : Sta Z h0 "com/example/urial/urial/protocol/ApiKey" "HEARTBEAT" "Lcom/example/urial/urial/protocol/ApiKey;" (.ref w_HEARTBEAT)) (S_LEAVE_GROUP : Sta Z h0 "com/example/urial/urial/protocol/ApiKey" "LEAVE_GROUP" "Lcom/example/urial/urial/protocol/ApiKey;" (.ref w_LEAVE_GROUP)) (S_SYNC_GROUP : Sta Z h0 "com/example/urial/urial/protocol/ApiKey" "SYNC_GROUP" "Lcom/example/urial/urial/protocol/ApiKey;" (.ref w_SYNC_GROUP)) (S_DESCRIBE_GROUPS : Sta Z h0 "com/example/urial/urial/protocol/ApiKey" "DESCRIBE_GROUPS" "Lcom/example/urial/urial/protocol/ApiKey;" (.ref w_DESCRIBE_GROUPS)) (S_LIST_GROUPS : Sta Z h0 "com/example/urial/urial/protocol/ApiKey" "LIST_GROUPS" "Lcom/example/urial/urial/protocol/ApiKey;" (.ref w_LIST_GROUPS)) (S_API_VERSIONS : Sta Z h0 "com/example/urial/urial/protocol/ApiKey" "API_VERSIONS" "Lcom/example/urial/urial/protocol/ApiKey;" (.ref w_API_VERSIONS)) (S_CREATE_TOPICS : Sta Z h0 "com/example/urial/urial/protocol/ApiKey" "CREATE_TOPICS" "Lcom/example/urial/urial/protocol/ApiKey;" (.ref w_CREATE_TOPICS)) (S_DELETE_TOPICS : Sta Z h0 "com/example/urial/urial/protocol/ApiKey" "DELETE_TOPICS" "Lcom/example/urial/urial/protocol/ApiKey;" (.ref w_DELETE_TOPICS)) (E_w_PRODUCE : Exa Z h0 w_PRODUCE "com/example/urial/urial/protocol/ApiKey") (E_w_FETCH : Exa Z h0 w_FETCH "com/example/urial/urial/protocol/ApiKey") (E_w_LIST_OFFSETS : Exa Z h0 w_LIST_OFFSETS "com/example/urial/urial/protocol/ApiKey") (E_w_METADATA : Exa Z h0 w_METADATA "com/example/urial/urial/protocol/ApiKey") (E_w_OFFSET_COMMIT : Exa Z h0 w_OFFSET_COMMIT "com/example/urial/urial/protocol/ApiKey") (E_w_OFFSET_FETCH : Exa Z h0 w_OFFSET_FETCH "com/example/urial/urial/protocol/ApiKey") (E_w_FIND_COORDINATOR : Exa Z h0 w_FIND_COORDINATOR "com/example/urial/urial/protocol/ApiKey") (E_w_JOIN_GROUP : Exa Z h0 w_JOIN_GROUP "com/example/urial/urial/protocol/ApiKey") (E_w_HEARTBEAT : Exa Z h0 w_HEARTBEAT "com/example/urial/urial/protocol/ApiKey") (E_w_LEAVE_GROUP : Exa Z h0 w_LEAVE_GROUP "com/example/urial/urial/protocol/ApiKey") (E_w_SYNC_GROUP : Exa Z h0 w_SYNC_GROUP "com/example/urial/urial/protocol/ApiKey") (E_w_DESCRIBE_GROUPS : Exa Z h0 w_DESCRIBE_GROUPS "com/example/urial/urial/protocol/ApiKey") (E_w_LIST_GROUPS : Exa Z h0 w_LIST_GROUPS "com/example/urial/urial/protocol/ApiKey") (E_w_API_VERSIONS : Exa Z h0 w_API_VERSIONS "com/example/urial/urial/protocol/ApiKey") (E_w_CREATE_TOPICS : Exa Z h0 w_CREATE_TOPICS "com/example/urial/urial/protocol/ApiKey") (E_w_DELETE_TOPICS : Exa Z h0 w_DELETE_TOPICS "com/example/urial/urial/protocol/ApiKey") (F_lowestVersion_w_PRODUCE : Fld Z h0 w_PRODUCE "com/example/urial/urial/protocol/ApiKey" "lowestVersion" "S" (.int (0 : Int32))) (F_lowestVersion_w_FETCH : Fld Z h0 w_FETCH "com/example/urial/urial/protocol/ApiKey" "lowestVersion" "S" (.int (0 : Int32))) (F_lowestVersion_w_LIST_OFFSETS : Fld Z h0 w_LIST_OFFSETS "com/example/urial/urial/protocol/ApiKey" "lowestVersion" "S" (.int (0 : Int32))) (F_lowestVersion_w_METADATA : Fld Z h0 w_METADATA "com/example/urial/urial/protocol/ApiKey" "lowestVersion" "S" (.int (0 : Int32))) (F_lowestVersion_w_OFFSET_COMMIT : Fld Z h0 w_OFFSET_COMMIT "com/example/urial/urial/protocol/ApiKey" "lowestVersion" "S" (.int (0 : Int32))) (F_lowestVersion_w_OFFSET_FETCH : Fld Z h0 w_OFFSET_FETCH "com/example/urial/urial/protocol/ApiKey" "lowestVersion" "S" (.int (0 : Int32))) (F_lowestVersion_w_FIND_COORDINATOR : Fld Z h0 w_FIND_COORDINATOR "com/example/urial/urial/protocol/ApiKey" "lowestVersion" "S" (.int (0 : Int32))) (F_lowestVersion_w_JOIN_GROUP : Fld Z h0 w_JOIN_GROUP "com/example/urial/urial/protocol/ApiKey" "lowestVersion" "S" (.int (0 : Int32))) (F_lowestVersion_w_HEARTBEAT : Fld Z h0 w_HEARTBEAT "com/example/urial/urial/protocol/ApiKey" "lowestVersion" "S" (.int (0 : Int32))) (F_lowestVersion_w_LEAVE_GROUP : Fld Z h0 w_LEAVE_GROUP "com/example/urial/urial/protocol/ApiKey" "lowestVersion" "S" (.int (0 : Int32))) (F_lowestVersion_w_SYNC_GROUP : Fld Z h0 w_SYNC_GROUP "com/example/urial/urial/protocol/ApiKey" "lowestVersion" "S" (.int (0 : Int32))) (F_lowestVersion_w_DESCRIBE_GROUPS : Fld Z h0 w_DESCRIBE_GROUPS "com/example/urial/urial/protocol/ApiKey" "lowestVersion" "S" (.int (0 : Int32))) (F_lowestVersion_w_LIST_GROUPS : Fld Z h0 w_LIST_GROUPS "com/example/urial/urial/protocol/ApiKey" "lowestVersion" "S" (.int (0 : Int32))) (F_lowestVersion_w_API_VERSIONS : Fld Z h0 w_API_VERSIONS "com/example/urial/urial/protocol/ApiKey" "lowestVersion" "S" (.int (0 : Int32))) (F_lowestVersion_w_CREATE_TOPICS : Fld Z h0 w_CREATE_TOPICS "com/example/urial/urial/protocol/ApiKey" "lowestVersion" "S" (.int (0 : Int32))) (F_lowestVersion_w_DELETE_TOPICS : Fld Z h0 w_DELETE_TOPICS "com/example/urial/urial/protocol/ApiKey" "lowestVersion" "S" (.int (0 : Int32))) (F_highestVersion_w_PRODUCE : Fld Z h0 w_PRODUCE "com/example/urial/urial/protocol/ApiKey" "highestVersion" "S" (.int (7 : Int32))) (F_highestVersion_w_FETCH : Fld Z h0 w_FETCH "com/example/urial/urial/protocol/ApiKey" "highestVersion" "S" (.int (11 : Int32))) (F_highestVersion_w_LIST_OFFSETS : Fld Z h0 w_LIST_OFFSETS "com/example/urial/urial/protocol/ApiKey" "highestVersion" "S" (.int (3 : Int32))) (F_highestVersion_w_METADATA : Fld Z h0 w_METADATA "com/example/urial/urial/protocol/ApiKey" "highestVersion" "S" (.int (5 : Int32))) (F_highestVersion_w_OFFSET_COMMIT : Fld Z h0 w_OFFSET_COMMIT "com/example/urial/urial/protocol/ApiKey" "highestVersion" "S" (.int (7 : Int32))) (F_highestVersion_w_OFFSET_FETCH : Fld Z h0 w_OFFSET_FETCH "com/example/urial/urial/protocol/ApiKey" "highestVersion" "S" (.int (7 : Int32))) (F_highestVersion_w_FIND_COORDINATOR : Fld Z h0 w_FIND_COORDINATOR "com/example/urial/urial/protocol/ApiKey" "highestVersion" "S" (.int (2 : Int32))) (F_highestVersion_w_JOIN_GROUP : Fld Z h0 w_JOIN_GROUP "com/example/urial/urial/protocol/ApiKey" "highestVersion" "S" (.int (5 : Int32))) (F_highestVersion_w_HEARTBEAT : Fld Z h0 w_HEARTBEAT "com/example/urial/urial/protocol/ApiKey" "highestVersion" "S" (.int (3 : Int32))) (F_highestVersion_w_LEAVE_GROUP : Fld Z h0 w_LEAVE_GROUP "com/example/urial/urial/protocol/ApiKey" "highestVersion" "S" (.int (3 : Int32))) (F_highestVersion_w_SYNC_GROUP : Fld Z h0 w_SYNC_GROUP "com/example/urial/urial/protocol/ApiKey" "highestVersion" "S" (.int (3 : Int32))) (F_highestVersion_w_DESCRIBE_GROUPS : Fld Z h0 w_DESCRIBE_GROUPS "com/example/urial/urial/protocol/ApiKey" "highestVersion" "S" (.int (4 : Int32))) (F_highestVersion_w_LIST_GROUPS : Fld Z h0 w_LIST_GROUPS "com/example/urial/urial/protocol/ApiKey" "highestVersion" "S" (.int (2 : Int32))) (F_highestVersion_w_API_VERSIONS : Fld Z h0 w_API_VERSIONS "com/example/urial/urial/protocol/ApiKey" "highestVersion" "S" (.int (3 : Int32))) (F_highestVersion_w_CREATE_TOPICS : Fld Z h0 w_CREATE_TOPICS "com/example/urial/urial/protocol/ApiKey" "highestVersion" "S" (.int (4 : Int32))) (F_highestVersion_w_DELETE_TOPICS : Fld Z h0 w_DELETE_TOPICS "com/example/urial/urial/protocol/ApiKey" "highestVersion" "S" (.int (3 : Int32))) :
    MetFree l x (head1 (Jvm.Cond.code x code maxLocals ret :: ws) room_1) (fun a U => a = #[(.int p0), (.int p1)] ∧ Z.Warmed39 U.vm ∧ U.heap = h0) (fun _ _ _ _ _ => True) (fun _ U o U' => ∃ v L, o = .returned v ∧ Q0 Z p0 p1 w_PRODUCE w_FETCH w_LIST_OFFSETS w_METADATA w_OFFSET_COMMIT w_OFFSET_FETCH w_FIND_COORDINATOR w_JOIN_GROUP w_HEARTBEAT w_LEAVE_GROUP w_SYNC_GROUP w_DESCRIBE_GROUPS w_LIST_GROUPS w_API_VERSIONS w_CREATE_TOPICS w_DELETE_TOPICS h0 n0 v U'.heap L ∧ FrameEnd U o U' L room_1.cells room_1.slots) := by
  refine MetFree.of_bodySF (plainFor_of_name pn_0) hisR ?_
  intro p e s m args below meth c s₁ Bd hml0 hP hK
  obtain ⟨rfl, hZ, hh⟩ := hP
  have hx := Bd.exec
  have hby := Bd.bytes
  have hml : c.maxLocals = 7 := hml0
  have hown : s.vm.findClass "com/example/urial/urial/protocol/ApiKeySupportsPinLaw" = some m.cls := findClass_of_methodNamed Bd.named
  have hnm := (name_of_methodNamed Bd.named Bd.method).1
  have X0 : Stand p l e room_1 s m #[(.int p0), (.int p1)] below meth c s₁ [] 0 0 := Stand.of_body Bd
  have e0 : s₁.heap = h0 := by rw [← hh, Bd.state]; rfl
  have N0 := Fr.nil n0
  refine own_back (b := s₁.setTop (mkF m 0 #[.val (.int p0), .val (.int p1), .unset, .unset, .unset, .unset, .unset] [])) (fun t kt => castTop (ef_0 m p0 p1) kt) ?_
  obtain ⟨_, _, ⟨T1, L1, k1, n1⟩, -, X1, ⟨Lc1, hQ1, l1, y1, z1⟩, st1⟩ := Jvm.LawKit.callS X0 hx (y := (⟨"com/example/urial/urial/protocol/ApiKeySupportsPinLaw", "pick", "(I)Lcom/example/urial/urial/protocol/ApiKey;"⟩ : MethodName)) hown (mvT hZ (hw _ (List.mem_of_getElem? (i := 1) rfl))) (mvT hZ (hw _ (List.mem_of_getElem? (i := 2) rfl))) (mvT hZ (hw _ (List.mem_of_getElem? (i := 3) rfl))) (mvT hZ (hw _ (List.mem_of_getElem? (i := 4) rfl))) (by decide) (backOf (W := 0) (rm1 l Z aw hw [] ((p0 &&& (2147483647 : Int32)) % (16 : Int32)) w_PRODUCE w_FETCH w_LIST_OFFSETS w_METADATA w_OFFSET_COMMIT w_OFFSET_FETCH w_FIND_COORDINATOR w_JOIN_GROUP w_HEARTBEAT w_LEAVE_GROUP w_SYNC_GROUP w_DESCRIBE_GROUPS w_LIST_GROUPS w_API_VERSIONS w_CREATE_TOPICS w_DELETE_TOPICS h0 n0 Z0 S_PRODUCE S_FETCH S_LIST_OFFSETS S_METADATA S_OFFSET_COMMIT S_OFFSET_FETCH S_FIND_COORDINATOR S_JOIN_GROUP S_HEARTBEAT S_LEAVE_GROUP S_SYNC_GROUP S_DESCRIBE_GROUPS S_LIST_GROUPS S_API_VERSIONS S_CREATE_TOPICS S_DELETE_TOPICS) hZ (hw _ (List.mem_of_getElem? (i := 4) rfl)) (hw _ (List.mem_of_getElem? (i := 3) rfl)) (by decide) (by decide)) (g := (mkF m 12 #[.val (.int p0), .val (.int p1), .val (.int ((p0 &&& (2147483647 : Int32)) % (16 : Int32))), .val (.int (p1.toInt16.toInt32)), .unset, .unset, .unset] [(.int ((p0 &&& (2147483647 : Int32)) % (16 : Int32)))])) rfl (by rw [hml]; rfl) (argsL := [(.int ((p0 &&& (2147483647 : Int32)) % (16 : Int32)))]) (rest := []) (lenOf pd_0_0 rfl) rfl (by show 2 * 0 + _ ≤ _; exact Nat.le_of_eq rfl) (hb hby at_12) (fun _ _ => ⟨rfl, e0, (by decide : 0 + 0 ≤ _), (by decide : 0 + 0 ≤ _)⟩)
  dsimp only [Pt.U, Pt.locs, Pt.cells, Pt.slots] at X1 l1 y1 z1 st1 hQ1
  subst l1 y1 z1
  obtain ⟨rfl, Nq1, e1⟩ := hQ1
  have N1 := Fr.app N0 Nq1
  have EK := own_pick (fun a _ => Exa Z h0 a "com/example/urial/urial/protocol/ApiKey") ((p0 &&& (2147483647 : Int32)) % (16 : Int32)) w_PRODUCE w_FETCH w_LIST_OFFSETS w_METADATA w_OFFSET_COMMIT w_OFFSET_FETCH w_FIND_COORDINATOR w_JOIN_GROUP w_HEARTBEAT w_LEAVE_GROUP w_SYNC_GROUP w_DESCRIBE_GROUPS w_LIST_GROUPS w_API_VERSIONS w_CREATE_TOPICS w_DELETE_TOPICS E_w_PRODUCE E_w_FETCH E_w_LIST_OFFSETS E_w_METADATA E_w_OFFSET_COMMIT E_w_OFFSET_FETCH E_w_FIND_COORDINATOR E_w_JOIN_GROUP E_w_HEARTBEAT E_w_LEAVE_GROUP E_w_SYNC_GROUP E_w_DESCRIBE_GROUPS E_w_LIST_GROUPS E_w_API_VERSIONS E_w_CREATE_TOPICS E_w_DELETE_TOPICS
  have FLK := own_pick (fun a _ => Fld Z h0 a "com/example/urial/urial/protocol/ApiKey" "lowestVersion" "S" (.int (0 : Int32))) ((p0 &&& (2147483647 : Int32)) % (16 : Int32)) w_PRODUCE w_FETCH w_LIST_OFFSETS w_METADATA w_OFFSET_COMMIT w_OFFSET_FETCH w_FIND_COORDINATOR w_JOIN_GROUP w_HEARTBEAT w_LEAVE_GROUP w_SYNC_GROUP w_DESCRIBE_GROUPS w_LIST_GROUPS w_API_VERSIONS w_CREATE_TOPICS w_DELETE_TOPICS F_lowestVersion_w_PRODUCE F_lowestVersion_w_FETCH F_lowestVersion_w_LIST_OFFSETS F_lowestVersion_w_METADATA F_lowestVersion_w_OFFSET_COMMIT F_lowestVersion_w_OFFSET_FETCH F_lowestVersion_w_FIND_COORDINATOR F_lowestVersion_w_JOIN_GROUP F_lowestVersion_w_HEARTBEAT F_lowestVersion_w_LEAVE_GROUP F_lowestVersion_w_SYNC_GROUP F_lowestVersion_w_DESCRIBE_GROUPS F_lowestVersion_w_LIST_GROUPS F_lowestVersion_w_API_VERSIONS F_lowestVersion_w_CREATE_TOPICS F_lowestVersion_w_DELETE_TOPICS
  have FHK := own_pick (fun a v => Fld Z h0 a "com/example/urial/urial/protocol/ApiKey" "highestVersion" "S" (.int v)) ((p0 &&& (2147483647 : Int32)) % (16 : Int32)) w_PRODUCE w_FETCH w_LIST_OFFSETS w_METADATA w_OFFSET_COMMIT w_OFFSET_FETCH w_FIND_COORDINATOR w_JOIN_GROUP w_HEARTBEAT w_LEAVE_GROUP w_SYNC_GROUP w_DESCRIBE_GROUPS w_LIST_GROUPS w_API_VERSIONS w_CREATE_TOPICS w_DELETE_TOPICS F_highestVersion_w_PRODUCE F_highestVersion_w_FETCH F_highestVersion_w_LIST_OFFSETS F_highestVersion_w_METADATA F_highestVersion_w_OFFSET_COMMIT F_highestVersion_w_OFFSET_FETCH F_highestVersion_w_FIND_COORDINATOR F_highestVersion_w_JOIN_GROUP F_highestVersion_w_HEARTBEAT F_highestVersion_w_LEAVE_GROUP F_highestVersion_w_SYNC_GROUP F_highestVersion_w_DESCRIBE_GROUPS F_highestVersion_w_LIST_GROUPS F_highestVersion_w_API_VERSIONS F_highestVersion_w_CREATE_TOPICS F_highestVersion_w_DELETE_TOPICS
  obtain ⟨_, _, ⟨T2, L2, k2, n2⟩, -, X2, ⟨Lc2, hQ2, l2, y2, z2⟩, st2⟩ := Jvm.LawKit.callS X1 hx (y := (⟨"com/example/urial/urial/protocol/ApiKeySupportsPinLaw", "high", "(I)I"⟩ : MethodName)) hown (mvT hZ (hw _ (List.mem_of_getElem? (i := 8) rfl))) (mvT hZ (hw _ (List.mem_of_getElem? (i := 9) rfl))) (mvT hZ (hw _ (List.mem_of_getElem? (i := 3) rfl))) (mvT hZ (hw _ (List.mem_of_getElem? (i := 10) rfl))) (by decide) (backOf (W := 0) (rm2 l Z aw hw [] ((p0 &&& (2147483647 : Int32)) % (16 : Int32)) h0 n0 Z0 ) hZ (hw _ (List.mem_of_getElem? (i := 10) rfl)) (hw _ (List.mem_of_getElem? (i := 3) rfl)) (by decide) (by decide)) (g := (mkF m 18 #[.val (.int p0), .val (.int p1), .val (.int ((p0 &&& (2147483647 : Int32)) % (16 : Int32))), .val (.int (p1.toInt16.toInt32)), .val (.ref (f1 ((p0 &&& (2147483647 : Int32)) % (16 : Int32)) w_PRODUCE w_FETCH w_LIST_OFFSETS w_METADATA w_OFFSET_COMMIT w_OFFSET_FETCH w_FIND_COORDINATOR w_JOIN_GROUP w_HEARTBEAT w_LEAVE_GROUP w_SYNC_GROUP w_DESCRIBE_GROUPS w_LIST_GROUPS w_API_VERSIONS w_CREATE_TOPICS w_DELETE_TOPICS)), .unset, .unset] [(.int ((p0 &&& (2147483647 : Int32)) % (16 : Int32)))])) rfl (by rw [hml]; rfl) (argsL := [(.int ((p0 &&& (2147483647 : Int32)) % (16 : Int32)))]) (rest := []) (lenOf pd_0_1 rfl) rfl (by show 2 * 0 + _ ≤ _; exact Nat.le_of_eq rfl) (hb hby at_18) (fun _ _ => ⟨rfl, e1, (by decide : 0 + 0 ≤ _), (by decide : 0 + 0 ≤ _)⟩)
  dsimp only [Pt.U, Pt.locs, Pt.cells, Pt.slots] at X2 l2 y2 z2 st2 hQ2
  subst l2 y2 z2
  obtain ⟨rfl, Nq2, e2⟩ := hQ2
  have N2 := Fr.app N1 Nq2
  refine own_back (b := T2.setTop (mkF m 24 #[.val (.int p0), .val (.int p1), .val (.int ((p0 &&& (2147483647 : Int32)) % (16 : Int32))), .val (.int (p1.toInt16.toInt32)), .val (.ref (f1 ((p0 &&& (2147483647 : Int32)) % (16 : Int32)) w_PRODUCE w_FETCH w_LIST_OFFSETS w_METADATA w_OFFSET_COMMIT w_OFFSET_FETCH w_FIND_COORDINATOR w_JOIN_GROUP w_HEARTBEAT w_LEAVE_GROUP w_SYNC_GROUP w_DESCRIBE_GROUPS w_LIST_GROUPS w_API_VERSIONS w_CREATE_TOPICS w_DELETE_TOPICS)), .val (.int (f2 ((p0 &&& (2147483647 : Int32)) % (16 : Int32)))), .unset] [(.int (p1.toInt16.toInt32))])) (fun t kt => ?_) ?_
  · show Steps p.tables e below (s₁.setTop (mkF m 0 #[.val (.int p0), .val (.int p1), .unset, .unset, .unset, .unset, .unset] [])) _
    refine XS.iloadN X0.here hx rfl (hb hby at_0) rfl ?_
    show Steps p.tables e below (s₁.setTop (mkF m 1 #[.val (.int p0), .val (.int p1), .unset, .unset, .unset, .unset, .unset] [(.int p0)])) _
    refine X0.ldcInt hx hown (mvT hZ (hw _ (List.mem_of_getElem? (i := 0) rfl))) (g := (mkF m 1 #[.val (.int p0), .val (.int p1), .unset, .unset, .unset, .unset, .unset] [(.int p0)])) rfl (hb hby at_1) _ ?_
    show Steps p.tables e below (s₁.setTop (mkF m 3 #[.val (.int p0), .val (.int p1), .unset, .unset, .unset, .unset, .unset] [(.int (2147483647 : Int32)), (.int p0)])) _
    refine XS.iand X0.here hx rfl (hb hby at_3) rfl ?_
    show Steps p.tables e below (s₁.setTop (mkF m 4 #[.val (.int p0), .val (.int p1), .unset, .unset, .unset, .unset, .unset] [(.int (p0 &&& (2147483647 : Int32)))])) _
    refine XS.bipush X0.here hx rfl (hb hby at_4) ?_
    show Steps p.tables e below (s₁.setTop (mkF m 6 #[.val (.int p0), .val (.int p1), .unset, .unset, .unset, .unset, .unset] [(.int (16 : Int32)), (.int (p0 &&& (2147483647 : Int32)))])) _
    refine iremM X0 hx rfl (hb hby at_6) rfl (by decide) ?_
    show Steps p.tables e below (s₁.setTop (mkF m 7 #[.val (.int p0), .val (.int p1), .unset, .unset, .unset, .unset, .unset] [(.int ((p0 &&& (2147483647 : Int32)) % (16 : Int32)))])) _
    refine XS.istoreN X0.here hx rfl (hb hby at_7) rfl (l' := #[.val (.int p0), .val (.int p1), .val (.int ((p0 &&& (2147483647 : Int32)) % (16 : Int32))), .unset, .unset, .unset, .unset]) rfl ?_
    show Steps p.tables e below (s₁.setTop (mkF m 8 #[.val (.int p0), .val (.int p1), .val (.int ((p0 &&& (2147483647 : Int32)) % (16 : Int32))), .unset, .unset, .unset, .unset] [])) _
    refine XS.iloadN X0.here hx rfl (hb hby at_8) rfl ?_
    show Steps p.tables e below (s₁.setTop (mkF m 9 #[.val (.int p0), .val (.int p1), .val (.int ((p0 &&& (2147483647 : Int32)) % (16 : Int32))), .unset, .unset, .unset, .unset] [(.int p1)])) _
    refine XS.i2s X0.here hx rfl (hb hby at_9) rfl ?_
    show Steps p.tables e below (s₁.setTop (mkF m 10 #[.val (.int p0), .val (.int p1), .val (.int ((p0 &&& (2147483647 : Int32)) % (16 : Int32))), .unset, .unset, .unset, .unset] [(.int (p1.toInt16.toInt32))])) _
    refine XS.istoreN X0.here hx rfl (hb hby at_10) rfl (l' := #[.val (.int p0), .val (.int p1), .val (.int ((p0 &&& (2147483647 : Int32)) % (16 : Int32))), .val (.int (p1.toInt16.toInt32)), .unset, .unset, .unset]) rfl ?_
    show Steps p.tables e below (s₁.setTop (mkF m 11 #[.val (.int p0), .val (.int p1), .val (.int ((p0 &&& (2147483647 : Int32)) % (16 : Int32))), .val (.int (p1.toInt16.toInt32)), .unset, .unset, .unset] [])) _
    refine XS.iloadN X0.here hx rfl (hb hby at_11) rfl ?_
    show Steps p.tables e below (s₁.setTop (mkF m 12 #[.val (.int p0), .val (.int p1), .val (.int ((p0 &&& (2147483647 : Int32)) % (16 : Int32))), .val (.int (p1.toInt16.toInt32)), .unset, .unset, .unset] [(.int ((p0 &&& (2147483647 : Int32)) % (16 : Int32)))])) _
    refine st1 _ ?_
    show Steps p.tables e below (T1.setTop (mkF m 15 #[.val (.int p0), .val (.int p1), .val (.int ((p0 &&& (2147483647 : Int32)) % (16 : Int32))), .val (.int (p1.toInt16.toInt32)), .unset, .unset, .unset] [(.ref (f1 ((p0 &&& (2147483647 : Int32)) % (16 : Int32)) w_PRODUCE w_FETCH w_LIST_OFFSETS w_METADATA w_OFFSET_COMMIT w_OFFSET_FETCH w_FIND_COORDINATOR w_JOIN_GROUP w_HEARTBEAT w_LEAVE_GROUP w_SYNC_GROUP w_DESCRIBE_GROUPS w_LIST_GROUPS w_API_VERSIONS w_CREATE_TOPICS w_DELETE_TOPICS))])) _
    refine XS.astore X1.here hx rfl (hb hby at_15) rfl rfl (l' := #[.val (.int p0), .val (.int p1), .val (.int ((p0 &&& (2147483647 : Int32)) % (16 : Int32))), .val (.int (p1.toInt16.toInt32)), .val (.ref (f1 ((p0 &&& (2147483647 : Int32)) % (16 : Int32)) w_PRODUCE w_FETCH w_LIST_OFFSETS w_METADATA w_OFFSET_COMMIT w_OFFSET_FETCH w_FIND_COORDINATOR w_JOIN_GROUP w_HEARTBEAT w_LEAVE_GROUP w_SYNC_GROUP w_DESCRIBE_GROUPS w_LIST_GROUPS w_API_VERSIONS w_CREATE_TOPICS w_DELETE_TOPICS)), .unset, .unset]) rfl ?_
    show Steps p.tables e below (T1.setTop (mkF m 17 #[.val (.int p0), .val (.int p1), .val (.int ((p0 &&& (2147483647 : Int32)) % (16 : Int32))), .val (.int (p1.toInt16.toInt32)), .val (.ref (f1 ((p0 &&& (2147483647 : Int32)) % (16 : Int32)) w_PRODUCE w_FETCH w_LIST_OFFSETS w_METADATA w_OFFSET_COMMIT w_OFFSET_FETCH w_FIND_COORDINATOR w_JOIN_GROUP w_HEARTBEAT w_LEAVE_GROUP w_SYNC_GROUP w_DESCRIBE_GROUPS w_LIST_GROUPS w_API_VERSIONS w_CREATE_TOPICS w_DELETE_TOPICS)), .unset, .unset] [])) _
    refine XS.iloadN X1.here hx rfl (hb hby at_17) rfl ?_
    show Steps p.tables e below (T1.setTop (mkF m 18 #[.val (.int p0), .val (.int p1), .val (.int ((p0 &&& (2147483647 : Int32)) % (16 : Int32))), .val (.int (p1.toInt16.toInt32)), .val (.ref (f1 ((p0 &&& (2147483647 : Int32)) % (16 : Int32)) w_PRODUCE w_FETCH w_LIST_OFFSETS w_METADATA w_OFFSET_COMMIT w_OFFSET_FETCH w_FIND_COORDINATOR w_JOIN_GROUP w_HEARTBEAT w_LEAVE_GROUP w_SYNC_GROUP w_DESCRIBE_GROUPS w_LIST_GROUPS w_API_VERSIONS w_CREATE_TOPICS w_DELETE_TOPICS)), .unset, .unset] [(.int ((p0 &&& (2147483647 : Int32)) % (16 : Int32)))])) _
    refine st2 _ ?_
    show Steps p.tables e below (T2.setTop (mkF m 21 #[.val (.int p0), .val (.int p1), .val (.int ((p0 &&& (2147483647 : Int32)) % (16 : Int32))), .val (.int (p1.toInt16.toInt32)), .val (.ref (f1 ((p0 &&& (2147483647 : Int32)) % (16 : Int32)) w_PRODUCE w_FETCH w_LIST_OFFSETS w_METADATA w_OFFSET_COMMIT w_OFFSET_FETCH w_FIND_COORDINATOR w_JOIN_GROUP w_HEARTBEAT w_LEAVE_GROUP w_SYNC_GROUP w_DESCRIBE_GROUPS w_LIST_GROUPS w_API_VERSIONS w_CREATE_TOPICS w_DELETE_TOPICS)), .unset, .unset] [(.int (f2 ((p0 &&& (2147483647 : Int32)) % (16 : Int32))))])) _
    refine XS.istore X2.here hx rfl (hb hby at_21) rfl (l' := #[.val (.int p0), .val (.int p1), .val (.int ((p0 &&& (2147483647 : Int32)) % (16 : Int32))), .val (.int (p1.toInt16.toInt32)), .val (.ref (f1 ((p0 &&& (2147483647 : Int32)) % (16 : Int32)) w_PRODUCE w_FETCH w_LIST_OFFSETS w_METADATA w_OFFSET_COMMIT w_OFFSET_FETCH w_FIND_COORDINATOR w_JOIN_GROUP w_HEARTBEAT w_LEAVE_GROUP w_SYNC_GROUP w_DESCRIBE_GROUPS w_LIST_GROUPS w_API_VERSIONS w_CREATE_TOPICS w_DELETE_TOPICS)), .val (.int (f2 ((p0 &&& (2147483647 : Int32)) % (16 : Int32)))), .unset]) rfl ?_
    show Steps p.tables e below (T2.setTop (mkF m 23 #[.val (.int p0), .val (.int p1), .val (.int ((p0 &&& (2147483647 : Int32)) % (16 : Int32))), .val (.int (p1.toInt16.toInt32)), .val (.ref (f1 ((p0 &&& (2147483647 : Int32)) % (16 : Int32)) w_PRODUCE w_FETCH w_LIST_OFFSETS w_METADATA w_OFFSET_COMMIT w_OFFSET_FETCH w_FIND_COORDINATOR w_JOIN_GROUP w_HEARTBEAT w_LEAVE_GROUP w_SYNC_GROUP w_DESCRIBE_GROUPS w_LIST_GROUPS w_API_VERSIONS w_CREATE_TOPICS w_DELETE_TOPICS)), .val (.int (f2 ((p0 &&& (2147483647 : Int32)) % (16 : Int32)))), .unset] [])) _
    refine XS.iloadN X2.here hx rfl (hb hby at_23) rfl ?_
    exact kt
  refine own_back (b := T2.setTop (mkF m 38 #[.val (.int p0), .val (.int p1), .val (.int ((p0 &&& (2147483647 : Int32)) % (16 : Int32))), .val (.int (p1.toInt16.toInt32)), .val (.ref (f1 ((p0 &&& (2147483647 : Int32)) % (16 : Int32)) w_PRODUCE w_FETCH w_LIST_OFFSETS w_METADATA w_OFFSET_COMMIT w_OFFSET_FETCH w_FIND_COORDINATOR w_JOIN_GROUP w_HEARTBEAT w_LEAVE_GROUP w_SYNC_GROUP w_DESCRIBE_GROUPS w_LIST_GROUPS w_API_VERSIONS w_CREATE_TOPICS w_DELETE_TOPICS)), .val (.int (f2 ((p0 &&& (2147483647 : Int32)) % (16 : Int32)))), .unset] [(.int (m0_0 p0 p1))])) (fun t kt => ?_) ?_
  · by_cases hm24_3 : (p1.toInt16.toInt32) < (0 : Int32)
    · rw [show (m0_0 p0 p1) = (0 : Int32) from by unfold m0_0; rw [if_pos hm24_3]] at kt
      show Steps p.tables e below (T2.setTop (mkF m 24 #[.val (.int p0), .val (.int p1), .val (.int ((p0 &&& (2147483647 : Int32)) % (16 : Int32))), .val (.int (p1.toInt16.toInt32)), .val (.ref (f1 ((p0 &&& (2147483647 : Int32)) % (16 : Int32)) w_PRODUCE w_FETCH w_LIST_OFFSETS w_METADATA w_OFFSET_COMMIT w_OFFSET_FETCH w_FIND_COORDINATOR w_JOIN_GROUP w_HEARTBEAT w_LEAVE_GROUP w_SYNC_GROUP w_DESCRIBE_GROUPS w_LIST_GROUPS w_API_VERSIONS w_CREATE_TOPICS w_DELETE_TOPICS)), .val (.int (f2 ((p0 &&& (2147483647 : Int32)) % (16 : Int32)))), .unset] [(.int (p1.toInt16.toInt32))])) _
      refine XS.ifYes X2.here hx rfl (pc0 := 24) (pc' := 37) rfl (hb hby at_24) rfl ((if0 _ _).trans (tlt hm24_3).1) (by decide) (by decide) ?_
      show Steps p.tables e below (T2.setTop (mkF m 37 #[.val (.int p0), .val (.int p1), .val (.int ((p0 &&& (2147483647 : Int32)) % (16 : Int32))), .val (.int (p1.toInt16.toInt32)), .val (.ref (f1 ((p0 &&& (2147483647 : Int32)) % (16 : Int32)) w_PRODUCE w_FETCH w_LIST_OFFSETS w_METADATA w_OFFSET_COMMIT w_OFFSET_FETCH w_FIND_COORDINATOR w_JOIN_GROUP w_HEARTBEAT w_LEAVE_GROUP w_SYNC_GROUP w_DESCRIBE_GROUPS w_LIST_GROUPS w_API_VERSIONS w_CREATE_TOPICS w_DELETE_TOPICS)), .val (.int (f2 ((p0 &&& (2147483647 : Int32)) % (16 : Int32)))), .unset] [])) _
      refine XS.iconst X2.here hx rfl (hb hby at_37) ?_
      exact kt
    · by_cases hm30_4 : (f2 ((p0 &&& (2147483647 : Int32)) % (16 : Int32))) < (p1.toInt16.toInt32)
      · rw [show (m0_0 p0 p1) = (0 : Int32) from by unfold m0_0; rw [if_neg hm24_3, if_pos hm30_4]] at kt
        show Steps p.tables e below (T2.setTop (mkF m 24 #[.val (.int p0), .val (.int p1), .val (.int ((p0 &&& (2147483647 : Int32)) % (16 : Int32))), .val (.int (p1.toInt16.toInt32)), .val (.ref (f1 ((p0 &&& (2147483647 : Int32)) % (16 : Int32)) w_PRODUCE w_FETCH w_LIST_OFFSETS w_METADATA w_OFFSET_COMMIT w_OFFSET_FETCH w_FIND_COORDINATOR w_JOIN_GROUP w_HEARTBEAT w_LEAVE_GROUP w_SYNC_GROUP w_DESCRIBE_GROUPS w_LIST_GROUPS w_API_VERSIONS w_CREATE_TOPICS w_DELETE_TOPICS)), .val (.int (f2 ((p0 &&& (2147483647 : Int32)) % (16 : Int32)))), .unset] [(.int (p1.toInt16.toInt32))])) _
        refine XS.ifNo X2.here hx rfl (hb hby at_24) rfl ((if0 _ _).trans (flt hm24_3).1) ?_
        show Steps p.tables e below (T2.setTop (mkF m 27 #[.val (.int p0), .val (.int p1), .val (.int ((p0 &&& (2147483647 : Int32)) % (16 : Int32))), .val (.int (p1.toInt16.toInt32)), .val (.ref (f1 ((p0 &&& (2147483647 : Int32)) % (16 : Int32)) w_PRODUCE w_FETCH w_LIST_OFFSETS w_METADATA w_OFFSET_COMMIT w_OFFSET_FETCH w_FIND_COORDINATOR w_JOIN_GROUP w_HEARTBEAT w_LEAVE_GROUP w_SYNC_GROUP w_DESCRIBE_GROUPS w_LIST_GROUPS w_API_VERSIONS w_CREATE_TOPICS w_DELETE_TOPICS)), .val (.int (f2 ((p0 &&& (2147483647 : Int32)) % (16 : Int32)))), .unset] [])) _
        refine XS.iloadN X2.here hx rfl (hb hby at_27) rfl ?_
        show Steps p.tables e below (T2.setTop (mkF m 28 #[.val (.int p0), .val (.int p1), .val (.int ((p0 &&& (2147483647 : Int32)) % (16 : Int32))), .val (.int (p1.toInt16.toInt32)), .val (.ref (f1 ((p0 &&& (2147483647 : Int32)) % (16 : Int32)) w_PRODUCE w_FETCH w_LIST_OFFSETS w_METADATA w_OFFSET_COMMIT w_OFFSET_FETCH w_FIND_COORDINATOR w_JOIN_GROUP w_HEARTBEAT w_LEAVE_GROUP w_SYNC_GROUP w_DESCRIBE_GROUPS w_LIST_GROUPS w_API_VERSIONS w_CREATE_TOPICS w_DELETE_TOPICS)), .val (.int (f2 ((p0 &&& (2147483647 : Int32)) % (16 : Int32)))), .unset] [(.int (p1.toInt16.toInt32))])) _
        refine XS.iload X2.here hx rfl (hb hby at_28) rfl ?_
        show Steps p.tables e below (T2.setTop (mkF m 30 #[.val (.int p0), .val (.int p1), .val (.int ((p0 &&& (2147483647 : Int32)) % (16 : Int32))), .val (.int (p1.toInt16.toInt32)), .val (.ref (f1 ((p0 &&& (2147483647 : Int32)) % (16 : Int32)) w_PRODUCE w_FETCH w_LIST_OFFSETS w_METADATA w_OFFSET_COMMIT w_OFFSET_FETCH w_FIND_COORDINATOR w_JOIN_GROUP w_HEARTBEAT w_LEAVE_GROUP w_SYNC_GROUP w_DESCRIBE_GROUPS w_LIST_GROUPS w_API_VERSIONS w_CREATE_TOPICS w_DELETE_TOPICS)), .val (.int (f2 ((p0 &&& (2147483647 : Int32)) % (16 : Int32)))), .unset] [(.int (f2 ((p0 &&& (2147483647 : Int32)) % (16 : Int32)))), (.int (p1.toInt16.toInt32))])) _
        refine XS.icmpYes X2.here hx rfl (pc0 := 30) (pc' := 37) rfl (hb hby at_30) rfl (tlt hm30_4).2.2.1 (by decide) (by decide) ?_
        show Steps p.tables e below (T2.setTop (mkF m 37 #[.val (.int p0), .val (.int p1), .val (.int ((p0 &&& (2147483647 : Int32)) % (16 : Int32))), .val (.int (p1.toInt16.toInt32)), .val (.ref (f1 ((p0 &&& (2147483647 : Int32)) % (16 : Int32)) w_PRODUCE w_FETCH w_LIST_OFFSETS w_METADATA w_OFFSET_COMMIT w_OFFSET_FETCH w_FIND_COORDINATOR w_JOIN_GROUP w_HEARTBEAT w_LEAVE_GROUP w_SYNC_GROUP w_DESCRIBE_GROUPS w_LIST_GROUPS w_API_VERSIONS w_CREATE_TOPICS w_DELETE_TOPICS)), .val (.int (f2 ((p0 &&& (2147483647 : Int32)) % (16 : Int32)))), .unset] [])) _
        refine XS.iconst X2.here hx rfl (hb hby at_37) ?_
        exact kt
      · rw [show (m0_0 p0 p1) = (1 : Int32) from by unfold m0_0; rw [if_neg hm24_3, if_neg hm30_4]] at kt
        show Steps p.tables e below (T2.setTop (mkF m 24 #[.val (.int p0), .val (.int p1), .val (.int ((p0 &&& (2147483647 : Int32)) % (16 : Int32))), .val (.int (p1.toInt16.toInt32)), .val (.ref (f1 ((p0 &&& (2147483647 : Int32)) % (16 : Int32)) w_PRODUCE w_FETCH w_LIST_OFFSETS w_METADATA w_OFFSET_COMMIT w_OFFSET_FETCH w_FIND_COORDINATOR w_JOIN_GROUP w_HEARTBEAT w_LEAVE_GROUP w_SYNC_GROUP w_DESCRIBE_GROUPS w_LIST_GROUPS w_API_VERSIONS w_CREATE_TOPICS w_DELETE_TOPICS)), .val (.int (f2 ((p0 &&& (2147483647 : Int32)) % (16 : Int32)))), .unset] [(.int (p1.toInt16.toInt32))])) _
        refine XS.ifNo X2.here hx rfl (hb hby at_24) rfl ((if0 _ _).trans (flt hm24_3).1) ?_
        show Steps p.tables e below (T2.setTop (mkF m 27 #[.val (.int p0), .val (.int p1), .val (.int ((p0 &&& (2147483647 : Int32)) % (16 : Int32))), .val (.int (p1.toInt16.toInt32)), .val (.ref (f1 ((p0 &&& (2147483647 : Int32)) % (16 : Int32)) w_PRODUCE w_FETCH w_LIST_OFFSETS w_METADATA w_OFFSET_COMMIT w_OFFSET_FETCH w_FIND_COORDINATOR w_JOIN_GROUP w_HEARTBEAT w_LEAVE_GROUP w_SYNC_GROUP w_DESCRIBE_GROUPS w_LIST_GROUPS w_API_VERSIONS w_CREATE_TOPICS w_DELETE_TOPICS)), .val (.int (f2 ((p0 &&& (2147483647 : Int32)) % (16 : Int32)))), .unset] [])) _
        refine XS.iloadN X2.here hx rfl (hb hby at_27) rfl ?_
        show Steps p.tables e below (T2.setTop (mkF m 28 #[.val (.int p0), .val (.int p1), .val (.int ((p0 &&& (2147483647 : Int32)) % (16 : Int32))), .val (.int (p1.toInt16.toInt32)), .val (.ref (f1 ((p0 &&& (2147483647 : Int32)) % (16 : Int32)) w_PRODUCE w_FETCH w_LIST_OFFSETS w_METADATA w_OFFSET_COMMIT w_OFFSET_FETCH w_FIND_COORDINATOR w_JOIN_GROUP w_HEARTBEAT w_LEAVE_GROUP w_SYNC_GROUP w_DESCRIBE_GROUPS w_LIST_GROUPS w_API_VERSIONS w_CREATE_TOPICS w_DELETE_TOPICS)), .val (.int (f2 ((p0 &&& (2147483647 : Int32)) % (16 : Int32)))), .unset] [(.int (p1.toInt16.toInt32))])) _
        refine XS.iload X2.here hx rfl (hb hby at_28) rfl ?_
        show Steps p.tables e below (T2.setTop (mkF m 30 #[.val (.int p0), .val (.int p1), .val (.int ((p0 &&& (2147483647 : Int32)) % (16 : Int32))), .val (.int (p1.toInt16.toInt32)), .val (.ref (f1 ((p0 &&& (2147483647 : Int32)) % (16 : Int32)) w_PRODUCE w_FETCH w_LIST_OFFSETS w_METADATA w_OFFSET_COMMIT w_OFFSET_FETCH w_FIND_COORDINATOR w_JOIN_GROUP w_HEARTBEAT w_LEAVE_GROUP w_SYNC_GROUP w_DESCRIBE_GROUPS w_LIST_GROUPS w_API_VERSIONS w_CREATE_TOPICS w_DELETE_TOPICS)), .val (.int (f2 ((p0 &&& (2147483647 : Int32)) % (16 : Int32)))), .unset] [(.int (f2 ((p0 &&& (2147483647 : Int32)) % (16 : Int32)))), (.int (p1.toInt16.toInt32))])) _
        refine XS.icmpNo X2.here hx rfl (hb hby at_30) rfl (flt hm30_4).2.2.1 ?_
        show Steps p.tables e below (T2.setTop (mkF m 33 #[.val (.int p0), .val (.int p1), .val (.int ((p0 &&& (2147483647 : Int32)) % (16 : Int32))), .val (.int (p1.toInt16.toInt32)), .val (.ref (f1 ((p0 &&& (2147483647 : Int32)) % (16 : Int32)) w_PRODUCE w_FETCH w_LIST_OFFSETS w_METADATA w_OFFSET_COMMIT w_OFFSET_FETCH w_FIND_COORDINATOR w_JOIN_GROUP w_HEARTBEAT w_LEAVE_GROUP w_SYNC_GROUP w_DESCRIBE_GROUPS w_LIST_GROUPS w_API_VERSIONS w_CREATE_TOPICS w_DELETE_TOPICS)), .val (.int (f2 ((p0 &&& (2147483647 : Int32)) % (16 : Int32)))), .unset] [])) _
        refine XS.iconst X2.here hx rfl (hb hby at_33) ?_
        show Steps p.tables e below (T2.setTop (mkF m 34 #[.val (.int p0), .val (.int p1), .val (.int ((p0 &&& (2147483647 : Int32)) % (16 : Int32))), .val (.int (p1.toInt16.toInt32)), .val (.ref (f1 ((p0 &&& (2147483647 : Int32)) % (16 : Int32)) w_PRODUCE w_FETCH w_LIST_OFFSETS w_METADATA w_OFFSET_COMMIT w_OFFSET_FETCH w_FIND_COORDINATOR w_JOIN_GROUP w_HEARTBEAT w_LEAVE_GROUP w_SYNC_GROUP w_DESCRIBE_GROUPS w_LIST_GROUPS w_API_VERSIONS w_CREATE_TOPICS w_DELETE_TOPICS)), .val (.int (f2 ((p0 &&& (2147483647 : Int32)) % (16 : Int32)))), .unset] [(.int (1 : Int32))])) _
        refine XS.goto X2.here hx rfl (pc0 := 34) (pc' := 38) rfl (hb hby at_34) (by decide) (by decide) ?_
        exact kt
  obtain ⟨cq5, kq5, q5a, q5b, q5c⟩ := isOf hZ e2 EK
  obtain ⟨_, _, ⟨T5, L5, k5, n5⟩, -, X5, ⟨Lc5, hQ5, l5, y5, z5⟩, st5⟩ := X2.virtualBack hx (y := (⟨"com/example/urial/urial/protocol/ApiKey", "supports", "(S)Z"⟩ : MethodName)) (z := (⟨"com/example/urial/urial/protocol/ApiKey", "supports", "(S)Z"⟩ : MethodName)) hown (mvT hZ (hw _ (List.mem_of_getElem? (i := 11) rfl))) (mvT hZ (hw _ (List.mem_of_getElem? (i := 12) rfl))) (notFace_of_selects (args := #[]) (mvT hZ (hw _ (List.mem_of_getElem? (i := 14) rfl)))) (mvT hZ (hw _ (List.mem_of_getElem? (i := 14) rfl))) (mvT hZ (hw _ (List.mem_of_getElem? (i := 13) rfl))) (by decide) (backOf (W := 0) (rm3 l Z aw hw [] (f1 ((p0 &&& (2147483647 : Int32)) % (16 : Int32)) w_PRODUCE w_FETCH w_LIST_OFFSETS w_METADATA w_OFFSET_COMMIT w_OFFSET_FETCH w_FIND_COORDINATOR w_JOIN_GROUP w_HEARTBEAT w_LEAVE_GROUP w_SYNC_GROUP w_DESCRIBE_GROUPS w_LIST_GROUPS w_API_VERSIONS w_CREATE_TOPICS w_DELETE_TOPICS) (p1.toInt16.toInt32) (0 : Int32) (f2 ((p0 &&& (2147483647 : Int32)) % (16 : Int32))) h0 n0 Z0 FLK FHK) hZ (hw _ (List.mem_of_getElem? (i := 15) rfl)) (hw _ (List.mem_of_getElem? (i := 6) rfl)) (by decide) (by decide)) q5a q5c (g := (mkF m 43 #[.val (.int p0), .val (.int p1), .val (.int ((p0 &&& (2147483647 : Int32)) % (16 : Int32))), .val (.int (p1.toInt16.toInt32)), .val (.ref (f1 ((p0 &&& (2147483647 : Int32)) % (16 : Int32)) w_PRODUCE w_FETCH w_LIST_OFFSETS w_METADATA w_OFFSET_COMMIT w_OFFSET_FETCH w_FIND_COORDINATOR w_JOIN_GROUP w_HEARTBEAT w_LEAVE_GROUP w_SYNC_GROUP w_DESCRIBE_GROUPS w_LIST_GROUPS w_API_VERSIONS w_CREATE_TOPICS w_DELETE_TOPICS)), .val (.int (f2 ((p0 &&& (2147483647 : Int32)) % (16 : Int32)))), .val (.int (m0_0 p0 p1))] [(.int (p1.toInt16.toInt32)), (.ref (f1 ((p0 &&& (2147483647 : Int32)) % (16 : Int32)) w_PRODUCE w_FETCH w_LIST_OFFSETS w_METADATA w_OFFSET_COMMIT w_OFFSET_FETCH w_FIND_COORDINATOR w_JOIN_GROUP w_HEARTBEAT w_LEAVE_GROUP w_SYNC_GROUP w_DESCRIBE_GROUPS w_LIST_GROUPS w_API_VERSIONS w_CREATE_TOPICS w_DELETE_TOPICS))])) rfl (by rw [hml]; rfl) (Steps.refl _) (argsL := [(.int (p1.toInt16.toInt32))]) (rest := []) (lenOf pd_0_2 rfl) rfl (by show 2 * 0 + _ ≤ _; exact Nat.le_of_eq rfl) (hb hby at_43) (fun _ _ => ⟨rfl, e2, (by decide : 0 + 0 ≤ _), (by decide : 0 + 0 ≤ _)⟩)
  dsimp only [Pt.U, Pt.locs, Pt.cells, Pt.slots] at X5 l5 y5 z5 st5 hQ5
  subst l5 y5 z5
  obtain ⟨rfl, Nq5, e5⟩ := hQ5
  have N5 := Fr.app N2 Nq5
  refine own_back (b := T5.setTop (mkF m 48 #[.val (.int p0), .val (.int p1), .val (.int ((p0 &&& (2147483647 : Int32)) % (16 : Int32))), .val (.int (p1.toInt16.toInt32)), .val (.ref (f1 ((p0 &&& (2147483647 : Int32)) % (16 : Int32)) w_PRODUCE w_FETCH w_LIST_OFFSETS w_METADATA w_OFFSET_COMMIT w_OFFSET_FETCH w_FIND_COORDINATOR w_JOIN_GROUP w_HEARTBEAT w_LEAVE_GROUP w_SYNC_GROUP w_DESCRIBE_GROUPS w_LIST_GROUPS w_API_VERSIONS w_CREATE_TOPICS w_DELETE_TOPICS)), .val (.int (f2 ((p0 &&& (2147483647 : Int32)) % (16 : Int32)))), .val (.int (m0_0 p0 p1))] [(.int (m0_0 p0 p1)), (.int (f3 (p1.toInt16.toInt32) (0 : Int32) (f2 ((p0 &&& (2147483647 : Int32)) % (16 : Int32)))))])) (fun t kt => ?_) ?_
  · show Steps p.tables e below (T2.setTop (mkF m 38 #[.val (.int p0), .val (.int p1), .val (.int ((p0 &&& (2147483647 : Int32)) % (16 : Int32))), .val (.int (p1.toInt16.toInt32)), .val (.ref (f1 ((p0 &&& (2147483647 : Int32)) % (16 : Int32)) w_PRODUCE w_FETCH w_LIST_OFFSETS w_METADATA w_OFFSET_COMMIT w_OFFSET_FETCH w_FIND_COORDINATOR w_JOIN_GROUP w_HEARTBEAT w_LEAVE_GROUP w_SYNC_GROUP w_DESCRIBE_GROUPS w_LIST_GROUPS w_API_VERSIONS w_CREATE_TOPICS w_DELETE_TOPICS)), .val (.int (f2 ((p0 &&& (2147483647 : Int32)) % (16 : Int32)))), .unset] [(.int (m0_0 p0 p1))])) _
    refine XS.istore X2.here hx rfl (hb hby at_38) rfl (l' := #[.val (.int p0), .val (.int p1), .val (.int ((p0 &&& (2147483647 : Int32)) % (16 : Int32))), .val (.int (p1.toInt16.toInt32)), .val (.ref (f1 ((p0 &&& (2147483647 : Int32)) % (16 : Int32)) w_PRODUCE w_FETCH w_LIST_OFFSETS w_METADATA w_OFFSET_COMMIT w_OFFSET_FETCH w_FIND_COORDINATOR w_JOIN_GROUP w_HEARTBEAT w_LEAVE_GROUP w_SYNC_GROUP w_DESCRIBE_GROUPS w_LIST_GROUPS w_API_VERSIONS w_CREATE_TOPICS w_DELETE_TOPICS)), .val (.int (f2 ((p0 &&& (2147483647 : Int32)) % (16 : Int32)))), .val (.int (m0_0 p0 p1))]) rfl ?_
    show Steps p.tables e below (T2.setTop (mkF m 40 #[.val (.int p0), .val (.int p1), .val (.int ((p0 &&& (2147483647 : Int32)) % (16 : Int32))), .val (.int (p1.toInt16.toInt32)), .val (.ref (f1 ((p0 &&& (2147483647 : Int32)) % (16 : Int32)) w_PRODUCE w_FETCH w_LIST_OFFSETS w_METADATA w_OFFSET_COMMIT w_OFFSET_FETCH w_FIND_COORDINATOR w_JOIN_GROUP w_HEARTBEAT w_LEAVE_GROUP w_SYNC_GROUP w_DESCRIBE_GROUPS w_LIST_GROUPS w_API_VERSIONS w_CREATE_TOPICS w_DELETE_TOPICS)), .val (.int (f2 ((p0 &&& (2147483647 : Int32)) % (16 : Int32)))), .val (.int (m0_0 p0 p1))] [])) _
    refine XS.aload X2.here hx rfl (hb hby at_40) rfl rfl ?_
    show Steps p.tables e below (T2.setTop (mkF m 42 #[.val (.int p0), .val (.int p1), .val (.int ((p0 &&& (2147483647 : Int32)) % (16 : Int32))), .val (.int (p1.toInt16.toInt32)), .val (.ref (f1 ((p0 &&& (2147483647 : Int32)) % (16 : Int32)) w_PRODUCE w_FETCH w_LIST_OFFSETS w_METADATA w_OFFSET_COMMIT w_OFFSET_FETCH w_FIND_COORDINATOR w_JOIN_GROUP w_HEARTBEAT w_LEAVE_GROUP w_SYNC_GROUP w_DESCRIBE_GROUPS w_LIST_GROUPS w_API_VERSIONS w_CREATE_TOPICS w_DELETE_TOPICS)), .val (.int (f2 ((p0 &&& (2147483647 : Int32)) % (16 : Int32)))), .val (.int (m0_0 p0 p1))] [(.ref (f1 ((p0 &&& (2147483647 : Int32)) % (16 : Int32)) w_PRODUCE w_FETCH w_LIST_OFFSETS w_METADATA w_OFFSET_COMMIT w_OFFSET_FETCH w_FIND_COORDINATOR w_JOIN_GROUP w_HEARTBEAT w_LEAVE_GROUP w_SYNC_GROUP w_DESCRIBE_GROUPS w_LIST_GROUPS w_API_VERSIONS w_CREATE_TOPICS w_DELETE_TOPICS))])) _
    refine XS.iloadN X2.here hx rfl (hb hby at_42) rfl ?_
    show Steps p.tables e below (T2.setTop (mkF m 43 #[.val (.int p0), .val (.int p1), .val (.int ((p0 &&& (2147483647 : Int32)) % (16 : Int32))), .val (.int (p1.toInt16.toInt32)), .val (.ref (f1 ((p0 &&& (2147483647 : Int32)) % (16 : Int32)) w_PRODUCE w_FETCH w_LIST_OFFSETS w_METADATA w_OFFSET_COMMIT w_OFFSET_FETCH w_FIND_COORDINATOR w_JOIN_GROUP w_HEARTBEAT w_LEAVE_GROUP w_SYNC_GROUP w_DESCRIBE_GROUPS w_LIST_GROUPS w_API_VERSIONS w_CREATE_TOPICS w_DELETE_TOPICS)), .val (.int (f2 ((p0 &&& (2147483647 : Int32)) % (16 : Int32)))), .val (.int (m0_0 p0 p1))] [(.int (p1.toInt16.toInt32)), (.ref (f1 ((p0 &&& (2147483647 : Int32)) % (16 : Int32)) w_PRODUCE w_FETCH w_LIST_OFFSETS w_METADATA w_OFFSET_COMMIT w_OFFSET_FETCH w_FIND_COORDINATOR w_JOIN_GROUP w_HEARTBEAT w_LEAVE_GROUP w_SYNC_GROUP w_DESCRIBE_GROUPS w_LIST_GROUPS w_API_VERSIONS w_CREATE_TOPICS w_DELETE_TOPICS))])) _
    refine st5.trans ?_
    show Steps p.tables e below (T5.setTop (mkF m 46 #[.val (.int p0), .val (.int p1), .val (.int ((p0 &&& (2147483647 : Int32)) % (16 : Int32))), .val (.int (p1.toInt16.toInt32)), .val (.ref (f1 ((p0 &&& (2147483647 : Int32)) % (16 : Int32)) w_PRODUCE w_FETCH w_LIST_OFFSETS w_METADATA w_OFFSET_COMMIT w_OFFSET_FETCH w_FIND_COORDINATOR w_JOIN_GROUP w_HEARTBEAT w_LEAVE_GROUP w_SYNC_GROUP w_DESCRIBE_GROUPS w_LIST_GROUPS w_API_VERSIONS w_CREATE_TOPICS w_DELETE_TOPICS)), .val (.int (f2 ((p0 &&& (2147483647 : Int32)) % (16 : Int32)))), .val (.int (m0_0 p0 p1))] [(.int (f3 (p1.toInt16.toInt32) (0 : Int32) (f2 ((p0 &&& (2147483647 : Int32)) % (16 : Int32)))))])) _
    refine XS.iload X5.here hx rfl (hb hby at_46) rfl ?_
    exact kt
  by_cases hc48_6 : (f3 (p1.toInt16.toInt32) (0 : Int32) (f2 ((p0 &&& (2147483647 : Int32)) % (16 : Int32)))) = (m0_0 p0 p1)
  · refine own_back (b := T5.setTop (mkF m 56 #[.val (.int p0), .val (.int p1), .val (.int ((p0 &&& (2147483647 : Int32)) % (16 : Int32))), .val (.int (p1.toInt16.toInt32)), .val (.ref (f1 ((p0 &&& (2147483647 : Int32)) % (16 : Int32)) w_PRODUCE w_FETCH w_LIST_OFFSETS w_METADATA w_OFFSET_COMMIT w_OFFSET_FETCH w_FIND_COORDINATOR w_JOIN_GROUP w_HEARTBEAT w_LEAVE_GROUP w_SYNC_GROUP w_DESCRIBE_GROUPS w_LIST_GROUPS w_API_VERSIONS w_CREATE_TOPICS w_DELETE_TOPICS)), .val (.int (f2 ((p0 &&& (2147483647 : Int32)) % (16 : Int32)))), .val (.int (m0_0 p0 p1))] [(.int (1 : Int32))])) (fun t kt => ?_) ?_
    · show Steps p.tables e below (T5.setTop (mkF m 48 #[.val (.int p0), .val (.int p1), .val (.int ((p0 &&& (2147483647 : Int32)) % (16 : Int32))), .val (.int (p1.toInt16.toInt32)), .val (.ref (f1 ((p0 &&& (2147483647 : Int32)) % (16 : Int32)) w_PRODUCE w_FETCH w_LIST_OFFSETS w_METADATA w_OFFSET_COMMIT w_OFFSET_FETCH w_FIND_COORDINATOR w_JOIN_GROUP w_HEARTBEAT w_LEAVE_GROUP w_SYNC_GROUP w_DESCRIBE_GROUPS w_LIST_GROUPS w_API_VERSIONS w_CREATE_TOPICS w_DELETE_TOPICS)), .val (.int (f2 ((p0 &&& (2147483647 : Int32)) % (16 : Int32)))), .val (.int (m0_0 p0 p1))] [(.int (m0_0 p0 p1)), (.int (f3 (p1.toInt16.toInt32) (0 : Int32) (f2 ((p0 &&& (2147483647 : Int32)) % (16 : Int32)))))])) _
      refine XS.icmpNo X5.here hx rfl (hb hby at_48) rfl (teq hc48_6).2 ?_
      show Steps p.tables e below (T5.setTop (mkF m 51 #[.val (.int p0), .val (.int p1), .val (.int ((p0 &&& (2147483647 : Int32)) % (16 : Int32))), .val (.int (p1.toInt16.toInt32)), .val (.ref (f1 ((p0 &&& (2147483647 : Int32)) % (16 : Int32)) w_PRODUCE w_FETCH w_LIST_OFFSETS w_METADATA w_OFFSET_COMMIT w_OFFSET_FETCH w_FIND_COORDINATOR w_JOIN_GROUP w_HEARTBEAT w_LEAVE_GROUP w_SYNC_GROUP w_DESCRIBE_GROUPS w_LIST_GROUPS w_API_VERSIONS w_CREATE_TOPICS w_DELETE_TOPICS)), .val (.int (f2 ((p0 &&& (2147483647 : Int32)) % (16 : Int32)))), .val (.int (m0_0 p0 p1))] [])) _
      refine XS.iconst X5.here hx rfl (hb hby at_51) ?_
      show Steps p.tables e below (T5.setTop (mkF m 52 #[.val (.int p0), .val (.int p1), .val (.int ((p0 &&& (2147483647 : Int32)) % (16 : Int32))), .val (.int (p1.toInt16.toInt32)), .val (.ref (f1 ((p0 &&& (2147483647 : Int32)) % (16 : Int32)) w_PRODUCE w_FETCH w_LIST_OFFSETS w_METADATA w_OFFSET_COMMIT w_OFFSET_FETCH w_FIND_COORDINATOR w_JOIN_GROUP w_HEARTBEAT w_LEAVE_GROUP w_SYNC_GROUP w_DESCRIBE_GROUPS w_LIST_GROUPS w_API_VERSIONS w_CREATE_TOPICS w_DELETE_TOPICS)), .val (.int (f2 ((p0 &&& (2147483647 : Int32)) % (16 : Int32)))), .val (.int (m0_0 p0 p1))] [(.int (1 : Int32))])) _
      refine XS.goto X5.here hx rfl (pc0 := 52) (pc' := 56) rfl (hb hby at_52) (by decide) (by decide) ?_
      exact kt
    obtain ⟨fs, hr, hrun, hended, hW, hsame⟩ := X5.leave (v := some (.int (1 : Int32))) (fun h => by rw [Bd.returns] at h; cases h)
    refine ⟨_, _, ?_, hrun, hended, _, _, rfl, ?_, ⟨_, rfl⟩, hW, hsame.mono (by decide) (by decide)⟩
    · show Steps p.tables e below (T5.setTop (mkF m 56 #[.val (.int p0), .val (.int p1), .val (.int ((p0 &&& (2147483647 : Int32)) % (16 : Int32))), .val (.int (p1.toInt16.toInt32)), .val (.ref (f1 ((p0 &&& (2147483647 : Int32)) % (16 : Int32)) w_PRODUCE w_FETCH w_LIST_OFFSETS w_METADATA w_OFFSET_COMMIT w_OFFSET_FETCH w_FIND_COORDINATOR w_JOIN_GROUP w_HEARTBEAT w_LEAVE_GROUP w_SYNC_GROUP w_DESCRIBE_GROUPS w_LIST_GROUPS w_API_VERSIONS w_CREATE_TOPICS w_DELETE_TOPICS)), .val (.int (f2 ((p0 &&& (2147483647 : Int32)) % (16 : Int32)))), .val (.int (m0_0 p0 p1))] [(.int (1 : Int32))])) _
      exact retN X5 hx (t := .boolean) Bd.returns (by simp) (hb hby at_56) hr
    · show Q0 Z p0 p1 w_PRODUCE w_FETCH w_LIST_OFFSETS w_METADATA w_OFFSET_COMMIT w_OFFSET_FETCH w_FIND_COORDINATOR w_JOIN_GROUP w_HEARTBEAT w_LEAVE_GROUP w_SYNC_GROUP w_DESCRIBE_GROUPS w_LIST_GROUPS w_API_VERSIONS w_CREATE_TOPICS w_DELETE_TOPICS h0 n0 _ T5.heap _
      rw [e5]
      exact ⟨by rw [show f0 p0 p1 = (1 : Int32) from by unfold f0; rw [if_pos hc48_6]], N5⟩
  · refine own_back (b := T5.setTop (mkF m 56 #[.val (.int p0), .val (.int p1), .val (.int ((p0 &&& (2147483647 : Int32)) % (16 : Int32))), .val (.int (p1.toInt16.toInt32)), .val (.ref (f1 ((p0 &&& (2147483647 : Int32)) % (16 : Int32)) w_PRODUCE w_FETCH w_LIST_OFFSETS w_METADATA w_OFFSET_COMMIT w_OFFSET_FETCH w_FIND_COORDINATOR w_JOIN_GROUP w_HEARTBEAT w_LEAVE_GROUP w_SYNC_GROUP w_DESCRIBE_GROUPS w_LIST_GROUPS w_API_VERSIONS w_CREATE_TOPICS w_DELETE_TOPICS)), .val (.int (f2 ((p0 &&& (2147483647 : Int32)) % (16 : Int32)))), .val (.int (m0_0 p0 p1))] [(.int (0 : Int32))])) (fun t kt => ?_) ?_
    · show Steps p.tables e below (T5.setTop (mkF m 48 #[.val (.int p0), .val (.int p1), .val (.int ((p0 &&& (2147483647 : Int32)) % (16 : Int32))), .val (.int (p1.toInt16.toInt32)), .val (.ref (f1 ((p0 &&& (2147483647 : Int32)) % (16 : Int32)) w_PRODUCE w_FETCH w_LIST_OFFSETS w_METADATA w_OFFSET_COMMIT w_OFFSET_FETCH w_FIND_COORDINATOR w_JOIN_GROUP w_HEARTBEAT w_LEAVE_GROUP w_SYNC_GROUP w_DESCRIBE_GROUPS w_LIST_GROUPS w_API_VERSIONS w_CREATE_TOPICS w_DELETE_TOPICS)), .val (.int (f2 ((p0 &&& (2147483647 : Int32)) % (16 : Int32)))), .val (.int (m0_0 p0 p1))] [(.int (m0_0 p0 p1)), (.int (f3 (p1.toInt16.toInt32) (0 : Int32) (f2 ((p0 &&& (2147483647 : Int32)) % (16 : Int32)))))])) _
      refine XS.icmpYes X5.here hx rfl (pc0 := 48) (pc' := 55) rfl (hb hby at_48) rfl (feq hc48_6).2 (by decide) (by decide) ?_
      show Steps p.tables e below (T5.setTop (mkF m 55 #[.val (.int p0), .val (.int p1), .val (.int ((p0 &&& (2147483647 : Int32)) % (16 : Int32))), .val (.int (p1.toInt16.toInt32)), .val (.ref (f1 ((p0 &&& (2147483647 : Int32)) % (16 : Int32)) w_PRODUCE w_FETCH w_LIST_OFFSETS w_METADATA w_OFFSET_COMMIT w_OFFSET_FETCH w_FIND_COORDINATOR w_JOIN_GROUP w_HEARTBEAT w_LEAVE_GROUP w_SYNC_GROUP w_DESCRIBE_GROUPS w_LIST_GROUPS w_API_VERSIONS w_CREATE_TOPICS w_DELETE_TOPICS)), .val (.int (f2 ((p0 &&& (2147483647 : Int32)) % (16 : Int32)))), .val (.int (m0_0 p0 p1))] [])) _
      refine XS.iconst X5.here hx rfl (hb hby at_55) ?_
      exact kt
    obtain ⟨fs, hr, hrun, hended, hW, hsame⟩ := X5.leave (v := some (.int (0 : Int32))) (fun h => by rw [Bd.returns] at h; cases h)
    refine ⟨_, _, ?_, hrun, hended, _, _, rfl, ?_, ⟨_, rfl⟩, hW, hsame.mono (by decide) (by decide)⟩
    · show Steps p.tables e below (T5.setTop (mkF m 56 #[.val (.int p0), .val (.int p1), .val (.int ((p0 &&& (2147483647 : Int32)) % (16 : Int32))), .val (.int (p1.toInt16.toInt32)), .val (.ref (f1 ((p0 &&& (2147483647 : Int32)) % (16 : Int32)) w_PRODUCE w_FETCH w_LIST_OFFSETS w_METADATA w_OFFSET_COMMIT w_OFFSET_FETCH w_FIND_COORDINATOR w_JOIN_GROUP w_HEARTBEAT w_LEAVE_GROUP w_SYNC_GROUP w_DESCRIBE_GROUPS w_LIST_GROUPS w_API_VERSIONS w_CREATE_TOPICS w_DELETE_TOPICS)), .val (.int (f2 ((p0 &&& (2147483647 : Int32)) % (16 : Int32)))), .val (.int (m0_0 p0 p1))] [(.int (0 : Int32))])) _
      exact retN X5 hx (t := .boolean) Bd.returns (by simp) (hb hby at_56) hr
    · show Q0 Z p0 p1 w_PRODUCE w_FETCH w_LIST_OFFSETS w_METADATA w_OFFSET_COMMIT w_OFFSET_FETCH w_FIND_COORDINATOR w_JOIN_GROUP w_HEARTBEAT w_LEAVE_GROUP w_SYNC_GROUP w_DESCRIBE_GROUPS w_LIST_GROUPS w_API_VERSIONS w_CREATE_TOPICS w_DELETE_TOPICS h0 n0 _ T5.heap _
      rw [e5]
      exact ⟨by rw [show f0 p0 p1 = (0 : Int32) from by unfold f0; rw [if_neg hc48_6]], N5⟩
theorem own_law (a b : Int32) : f0 a b = 1 := by
  have e : f3 (b.toInt16.toInt32) 0 (f2 ((a &&& (2147483647 : Int32)) % (16 : Int32))) = m0_0 a b := rfl
  unfold f0
  rw [if_pos e]
theorem own_fldc {args : Array Value} {s : State} {t : Term} {a : Addr} {C n d : String} {k : Int32} (ev : t.eval args s none [] s = some (.ref a)) (h : (Jvm.Cond.eq (Term.field t C n d) (Term.int k)).value args s none s [] = some true) : Fld s s.heap a C n d (.int k) := by
  obtain ⟨x, y, ex, ey, kxy, kyx⟩ := cmp_v (Or.inl h)
  have ex' := ex
  rw [fld_at ev] at ex
  obtain rfl : y = .int k := (Option.some.inj ((Term.int_eval k).symm.trans ey)).symm
  obtain ⟨z, rfl⟩ := kyx
  obtain rfl : z = k := gotT (Cond.eq_ints ex' ey) h
  exact Fld.start ex
set_option maxRecDepth 65536 in
set_option maxHeartbeats 40000000 in
theorem comes_1 {Post : Tables → Env → Array Value → State → Outcome → State → Prop} (hpost : ∀ tb e args s v u, (limb_1_1.after args s (.returned v) u = true ∧ limb_1_2.after args s (.returned v) u = true ∧ True) → FrameEnd s (.returned v) u (Jvm.fieldLocs frame_1_writes args s ++ Jvm.arrayLocs frame_1_arrays args s ++ Jvm.staticLocs frame_1_statics s) 0 0 → Post tb e args s (.returned v) u) :
    ArmFor flags0 classFile x code maxLocals ret World_1 tables_1 room_1 Calls_1 rest_1 Pre_1 Post := by
  intro l hfl _ _ p e ha hc hk s m args below hf hA hF happ hP
  obtain ⟨hcalls, hrest, hpre⟩ := hP
  obtain ⟨-, -, -, hnamed, -, -, -, hat⟩ := (Spec.applies_iff hf).mp happ
  obtain ⟨hg, hn⟩ := and_e (Cond.before_iff.mp (show (Jvm.Cond.and given_1 narrow_1).before args s = true from hpre))
  obtain ⟨gc, gr0⟩ := and_e hg
  obtain ⟨ga0, gr1⟩ := and_e gr0
  obtain ⟨w0, w1, rfl⟩ : ∃ w0 w1 : Value, args = #[w0, w1] := by
    have hs : args.size = 2 := by simpa [Cond.value, given_1] using gc
    obtain ⟨L⟩ := args
    match L, hs with
    | [w0, w1], _ => exact ⟨w0, w1, rfl⟩
  have hw := fun d (hd : d ∈ tables_1) => atoms_spec (ws := Jvm.Cond.code x code maxLocals ret :: tables_1) hat d (List.mem_cons_of_mem _ hd)
  have hfit : Fit s := fun {y c} hc i hi => by
    obtain ⟨ha, rfl⟩ := Array.getElem?_eq_some_iff.mp hc
    have q := List.all_eq_true.mp ((Array.all_eq_true_iff_forall_mem.mp hF) _ (Array.getElem_mem ha)) i (List.mem_range.mpr hi)
    simpa [Array.getElem?_eq_getElem hi] using q
  obtain ⟨i0, ei0⟩ := is_v ga0
  obtain rfl : w0 = (.int i0) := Option.some.inj ei0
  obtain ⟨i1, ei1⟩ := is_v gr1
  obtain rfl : w1 = (.int i1) := Option.some.inj ei1
  obtain ⟨nn0, nnr0⟩ := and_e hn
  obtain ⟨nn1, nnr1⟩ := and_e nnr0
  obtain ⟨nn2, nnr2⟩ := and_e nnr1
  obtain ⟨nn3, nnr3⟩ := and_e nnr2
  obtain ⟨nn4, nnr4⟩ := and_e nnr3
  obtain ⟨nn5, nnr5⟩ := and_e nnr4
  obtain ⟨nn6, nnr6⟩ := and_e nnr5
  obtain ⟨nn7, nnr7⟩ := and_e nnr6
  obtain ⟨nn8, nnr8⟩ := and_e nnr7
  obtain ⟨nn9, nnr9⟩ := and_e nnr8
  obtain ⟨nn10, nnr10⟩ := and_e nnr9
  obtain ⟨nn11, nnr11⟩ := and_e nnr10
  obtain ⟨nn12, nnr12⟩ := and_e nnr11
  obtain ⟨nn13, nnr13⟩ := and_e nnr12
  obtain ⟨nn14, nnr14⟩ := and_e nnr13
  obtain ⟨nn15, nnr15⟩ := and_e nnr14
  obtain ⟨nn16, nnr16⟩ := and_e nnr15
  obtain ⟨nn17, nnr17⟩ := and_e nnr16
  obtain ⟨nn18, nnr18⟩ := and_e nnr17
  obtain ⟨nn19, nnr19⟩ := and_e nnr18
  obtain ⟨nn20, nnr20⟩ := and_e nnr19
  obtain ⟨nn21, nnr21⟩ := and_e nnr20
  obtain ⟨nn22, nnr22⟩ := and_e nnr21
  obtain ⟨nn23, nnr23⟩ := and_e nnr22
  obtain ⟨nn24, nnr24⟩ := and_e nnr23
  obtain ⟨nn25, nnr25⟩ := and_e nnr24
  obtain ⟨nn26, nnr26⟩ := and_e nnr25
  obtain ⟨nn27, nnr27⟩ := and_e nnr26
  obtain ⟨nn28, nnr28⟩ := and_e nnr27
  obtain ⟨nn29, nnr29⟩ := and_e nnr28
  obtain ⟨nn30, nnr30⟩ := and_e nnr29
  obtain ⟨nn31, nnr31⟩ := and_e nnr30
  obtain ⟨nn32, nnr32⟩ := and_e nnr31
  obtain ⟨nn33, nnr33⟩ := and_e nnr32
  obtain ⟨nn34, nnr34⟩ := and_e nnr33
  obtain ⟨nn35, nnr35⟩ := and_e nnr34
  obtain ⟨nn36, nnr36⟩ := and_e nnr35
  obtain ⟨nn37, nnr37⟩ := and_e nnr36
  obtain ⟨nn38, nnr38⟩ := and_e nnr37
  obtain ⟨nn39, nnr39⟩ := and_e nnr38
  obtain ⟨nn40, nnr40⟩ := and_e nnr39
  obtain ⟨nn41, nnr41⟩ := and_e nnr40
  obtain ⟨nn42, nnr42⟩ := and_e nnr41
  obtain ⟨nn43, nnr43⟩ := and_e nnr42
  obtain ⟨nn44, nnr44⟩ := and_e nnr43
  obtain ⟨nn45, nnr45⟩ := and_e nnr44
  obtain ⟨nn46, nnr46⟩ := and_e nnr45
  have nn47 := nnr46
  obtain ⟨w_PRODUCE, ev_PRODUCE⟩ := exa_v nn0
  have E_PRODUCE := Exa.start ev_PRODUCE nn0
  have S_PRODUCE := Sta.start ev_PRODUCE (Or.inr ⟨(hw _ (List.mem_of_getElem? (i := 6) rfl)), (hw _ (List.mem_of_getElem? (i := 7) rfl))⟩)
  obtain ⟨w_CREATE_TOPICS, ev_CREATE_TOPICS⟩ := exa_v nn3
  have E_CREATE_TOPICS := Exa.start ev_CREATE_TOPICS nn3
  have S_CREATE_TOPICS := Sta.start ev_CREATE_TOPICS (Or.inr ⟨(hw _ (List.mem_of_getElem? (i := 6) rfl)), (hw _ (List.mem_of_getElem? (i := 21) rfl))⟩)
  obtain ⟨w_LIST_GROUPS, ev_LIST_GROUPS⟩ := exa_v nn6
  have E_LIST_GROUPS := Exa.start ev_LIST_GROUPS nn6
  have S_LIST_GROUPS := Sta.start ev_LIST_GROUPS (Or.inr ⟨(hw _ (List.mem_of_getElem? (i := 6) rfl)), (hw _ (List.mem_of_getElem? (i := 23) rfl))⟩)
  obtain ⟨w_HEARTBEAT, ev_HEARTBEAT⟩ := exa_v nn9
  have E_HEARTBEAT := Exa.start ev_HEARTBEAT nn9
  have S_HEARTBEAT := Sta.start ev_HEARTBEAT (Or.inr ⟨(hw _ (List.mem_of_getElem? (i := 6) rfl)), (hw _ (List.mem_of_getElem? (i := 25) rfl))⟩)
  obtain ⟨w_API_VERSIONS, ev_API_VERSIONS⟩ := exa_v nn11
  have E_API_VERSIONS := Exa.start ev_API_VERSIONS nn11
  have S_API_VERSIONS := Sta.start ev_API_VERSIONS (Or.inr ⟨(hw _ (List.mem_of_getElem? (i := 6) rfl)), (hw _ (List.mem_of_getElem? (i := 27) rfl))⟩)
  obtain ⟨w_FIND_COORDINATOR, ev_FIND_COORDINATOR⟩ := exa_v nn14
  have E_FIND_COORDINATOR := Exa.start ev_FIND_COORDINATOR nn14
  have S_FIND_COORDINATOR := Sta.start ev_FIND_COORDINATOR (Or.inr ⟨(hw _ (List.mem_of_getElem? (i := 6) rfl)), (hw _ (List.mem_of_getElem? (i := 29) rfl))⟩)
  obtain ⟨w_JOIN_GROUP, ev_JOIN_GROUP⟩ := exa_v nn17
  have E_JOIN_GROUP := Exa.start ev_JOIN_GROUP nn17
  have S_JOIN_GROUP := Sta.start ev_JOIN_GROUP (Or.inr ⟨(hw _ (List.mem_of_getElem? (i := 6) rfl)), (hw _ (List.mem_of_getElem? (i := 31) rfl))⟩)
  obtain ⟨w_METADATA, ev_METADATA⟩ := exa_v nn20
  have E_METADATA := Exa.start ev_METADATA nn20
  have S_METADATA := Sta.start ev_METADATA (Or.inr ⟨(hw _ (List.mem_of_getElem? (i := 6) rfl)), (hw _ (List.mem_of_getElem? (i := 33) rfl))⟩)
  obtain ⟨w_DELETE_TOPICS, ev_DELETE_TOPICS⟩ := exa_v nn23
  have E_DELETE_TOPICS := Exa.start ev_DELETE_TOPICS nn23
  have S_DELETE_TOPICS := Sta.start ev_DELETE_TOPICS (Or.inr ⟨(hw _ (List.mem_of_getElem? (i := 6) rfl)), (hw _ (List.mem_of_getElem? (i := 35) rfl))⟩)
  obtain ⟨w_FETCH, ev_FETCH⟩ := exa_v nn26
  have E_FETCH := Exa.start ev_FETCH nn26
  have S_FETCH := Sta.start ev_FETCH (Or.inr ⟨(hw _ (List.mem_of_getElem? (i := 6) rfl)), (hw _ (List.mem_of_getElem? (i := 37) rfl))⟩)
  obtain ⟨w_OFFSET_FETCH, ev_OFFSET_FETCH⟩ := exa_v nn29
  have E_OFFSET_FETCH := Exa.start ev_OFFSET_FETCH nn29
  have S_OFFSET_FETCH := Sta.start ev_OFFSET_FETCH (Or.inr ⟨(hw _ (List.mem_of_getElem? (i := 6) rfl)), (hw _ (List.mem_of_getElem? (i := 39) rfl))⟩)
  obtain ⟨w_LIST_OFFSETS, ev_LIST_OFFSETS⟩ := exa_v nn32
  have E_LIST_OFFSETS := Exa.start ev_LIST_OFFSETS nn32
  have S_LIST_OFFSETS := Sta.start ev_LIST_OFFSETS (Or.inr ⟨(hw _ (List.mem_of_getElem? (i := 6) rfl)), (hw _ (List.mem_of_getElem? (i := 41) rfl))⟩)
  obtain ⟨w_SYNC_GROUP, ev_SYNC_GROUP⟩ := exa_v nn35
  have E_SYNC_GROUP := Exa.start ev_SYNC_GROUP nn35
  have S_SYNC_GROUP := Sta.start ev_SYNC_GROUP (Or.inr ⟨(hw _ (List.mem_of_getElem? (i := 6) rfl)), (hw _ (List.mem_of_getElem? (i := 43) rfl))⟩)
  obtain ⟨w_DESCRIBE_GROUPS, ev_DESCRIBE_GROUPS⟩ := exa_v nn38
  have E_DESCRIBE_GROUPS := Exa.start ev_DESCRIBE_GROUPS nn38
  have S_DESCRIBE_GROUPS := Sta.start ev_DESCRIBE_GROUPS (Or.inr ⟨(hw _ (List.mem_of_getElem? (i := 6) rfl)), (hw _ (List.mem_of_getElem? (i := 45) rfl))⟩)
  obtain ⟨w_LEAVE_GROUP, ev_LEAVE_GROUP⟩ := exa_v nn40
  have E_LEAVE_GROUP := Exa.start ev_LEAVE_GROUP nn40
  have S_LEAVE_GROUP := Sta.start ev_LEAVE_GROUP (Or.inr ⟨(hw _ (List.mem_of_getElem? (i := 6) rfl)), (hw _ (List.mem_of_getElem? (i := 47) rfl))⟩)
  obtain ⟨w_OFFSET_COMMIT, ev_OFFSET_COMMIT⟩ := exa_v nn44
  have E_OFFSET_COMMIT := Exa.start ev_OFFSET_COMMIT nn44
  have S_OFFSET_COMMIT := Sta.start ev_OFFSET_COMMIT (Or.inr ⟨(hw _ (List.mem_of_getElem? (i := 6) rfl)), (hw _ (List.mem_of_getElem? (i := 49) rfl))⟩)
  have F_lowestVersion_PRODUCE := own_fldc ev_PRODUCE nn1
  have F_highestVersion_PRODUCE := own_fldc ev_PRODUCE nn2
  have F_lowestVersion_CREATE_TOPICS := own_fldc ev_CREATE_TOPICS nn4
  have F_highestVersion_CREATE_TOPICS := own_fldc ev_CREATE_TOPICS nn5
  have F_lowestVersion_LIST_GROUPS := own_fldc ev_LIST_GROUPS nn7
  have F_highestVersion_LIST_GROUPS := own_fldc ev_LIST_GROUPS nn8
  have F_lowestVersion_HEARTBEAT := own_fldc ev_HEARTBEAT nn10
  have F_lowestVersion_API_VERSIONS := own_fldc ev_API_VERSIONS nn12
  have F_highestVersion_API_VERSIONS := own_fldc ev_API_VERSIONS nn13
  have F_lowestVersion_FIND_COORDINATOR := own_fldc ev_FIND_COORDINATOR nn15
  have F_highestVersion_FIND_COORDINATOR := own_fldc ev_FIND_COORDINATOR nn16
  have F_lowestVersion_JOIN_GROUP := own_fldc ev_JOIN_GROUP nn18
  have F_highestVersion_JOIN_GROUP := own_fldc ev_JOIN_GROUP nn19
  have F_lowestVersion_METADATA := own_fldc ev_METADATA nn21
  have F_highestVersion_METADATA := own_fldc ev_METADATA nn22
  have F_lowestVersion_DELETE_TOPICS := own_fldc ev_DELETE_TOPICS nn24
  have F_highestVersion_HEARTBEAT := own_fldc ev_HEARTBEAT nn25
  have F_lowestVersion_FETCH := own_fldc ev_FETCH nn27
  have F_highestVersion_FETCH := own_fldc ev_FETCH nn28
  have F_lowestVersion_OFFSET_FETCH := own_fldc ev_OFFSET_FETCH nn30
  have F_highestVersion_OFFSET_FETCH := own_fldc ev_OFFSET_FETCH nn31
  have F_lowestVersion_LIST_OFFSETS := own_fldc ev_LIST_OFFSETS nn33
  have F_highestVersion_LIST_OFFSETS := own_fldc ev_LIST_OFFSETS nn34
  have F_lowestVersion_SYNC_GROUP := own_fldc ev_SYNC_GROUP nn36
  have F_highestVersion_SYNC_GROUP := own_fldc ev_SYNC_GROUP nn37
  have F_lowestVersion_DESCRIBE_GROUPS := own_fldc ev_DESCRIBE_GROUPS nn39
  have F_lowestVersion_LEAVE_GROUP := own_fldc ev_LEAVE_GROUP nn41
  have F_highestVersion_LEAVE_GROUP := own_fldc ev_LEAVE_GROUP nn42
  have F_highestVersion_DELETE_TOPICS := own_fldc ev_DELETE_TOPICS nn43
  have F_lowestVersion_OFFSET_COMMIT := own_fldc ev_OFFSET_COMMIT nn45
  have F_highestVersion_OFFSET_COMMIT := own_fldc ev_OFFSET_COMMIT nn46
  have F_highestVersion_DESCRIBE_GROUPS := own_fldc ev_DESCRIBE_GROUPS nn47
  obtain ⟨n, o, h1, h2, h3, _, L, rfl, ⟨rfl, N⟩, hq⟩ := rm0 l s _ hw tables_1 i0 i1 w_PRODUCE w_FETCH w_LIST_OFFSETS w_METADATA w_OFFSET_COMMIT w_OFFSET_FETCH w_FIND_COORDINATOR w_JOIN_GROUP w_HEARTBEAT w_LEAVE_GROUP w_SYNC_GROUP w_DESCRIBE_GROUPS w_LIST_GROUPS w_API_VERSIONS w_CREATE_TOPICS w_DELETE_TOPICS s.heap s.heap.size (Nat.le_refl _) S_PRODUCE S_FETCH S_LIST_OFFSETS S_METADATA S_OFFSET_COMMIT S_OFFSET_FETCH S_FIND_COORDINATOR S_JOIN_GROUP S_HEARTBEAT S_LEAVE_GROUP S_SYNC_GROUP S_DESCRIBE_GROUPS S_LIST_GROUPS S_API_VERSIONS S_CREATE_TOPICS S_DELETE_TOPICS E_PRODUCE E_FETCH E_LIST_OFFSETS E_METADATA E_OFFSET_COMMIT E_OFFSET_FETCH E_FIND_COORDINATOR E_JOIN_GROUP E_HEARTBEAT E_LEAVE_GROUP E_SYNC_GROUP E_DESCRIBE_GROUPS E_LIST_GROUPS E_API_VERSIONS E_CREATE_TOPICS E_DELETE_TOPICS F_lowestVersion_PRODUCE F_lowestVersion_FETCH F_lowestVersion_LIST_OFFSETS F_lowestVersion_METADATA F_lowestVersion_OFFSET_COMMIT F_lowestVersion_OFFSET_FETCH F_lowestVersion_FIND_COORDINATOR F_lowestVersion_JOIN_GROUP F_lowestVersion_HEARTBEAT F_lowestVersion_LEAVE_GROUP F_lowestVersion_SYNC_GROUP F_lowestVersion_DESCRIBE_GROUPS F_lowestVersion_LIST_GROUPS F_lowestVersion_API_VERSIONS F_lowestVersion_CREATE_TOPICS F_lowestVersion_DELETE_TOPICS F_highestVersion_PRODUCE F_highestVersion_FETCH F_highestVersion_LIST_OFFSETS F_highestVersion_METADATA F_highestVersion_OFFSET_COMMIT F_highestVersion_OFFSET_FETCH F_highestVersion_FIND_COORDINATOR F_highestVersion_JOIN_GROUP F_highestVersion_HEARTBEAT F_highestVersion_LEAVE_GROUP F_highestVersion_SYNC_GROUP F_highestVersion_DESCRIBE_GROUPS F_highestVersion_LIST_GROUPS F_highestVersion_API_VERSIONS F_highestVersion_CREATE_TOPICS F_highestVersion_DELETE_TOPICS p e ha hc hk s m _ below hf ((Spec.applies_iff_loose hf).mp happ).1 ⟨rfl, State.Warmed39.refl s, rfl⟩ trivial
  refine ⟨n, _, h1, h2, h3, hpost _ _ _ _ _ _ ⟨Cond.after_iff.mpr rfl, Cond.after_iff.mpr (eq_i res_at (Term.int_eval (1)) (congrArg Value.int (own_law i0 i1))), trivial⟩ ⟨hq.1, hq.2.1, (hq.2.2.sift fun y hy => Or.inr (N y hy)).mono (by decide) (by decide)⟩⟩
theorem main_1_1 : Claimed_1_1 := comes_1 fun _ _ _ _ _ _ h hF => ⟨h.1, hF⟩
theorem main_1_2 : Claimed_1_2 := comes_1 fun _ _ _ _ _ _ h hF => ⟨h.2.1, hF⟩
end Jvm.Pilot.@@N@@
namespace Jvm.Pilot.@@N@@
open Jvm Jvm.ClassFile Sem Op Lib Jvm.Free Jvm.Stand Jvm.Pilot.@@N@@.Jvm.D
/-! MADE BY PROGRAM (witnessworld.py) out of the Statement's table words and the real class files: 12 classes; the members and pool entries that the words name. The judged class is class 1, her method 1. -/
namespace start1
open Jvm.ClassFile
def u (s : String) : CpInfo := .utf8 (stringToUtf16 s)
/-- a pool by its gaps: so many unusable entries, then the entry; so many at the end -/
def gap : Nat → List CpInfo → List CpInfo
  | 0, r => r
  | n + 1, r => .unusable :: gap n r
def poolList (es : List (Nat × CpInfo)) (last : Nat) : List CpInfo := es.foldr (fun e r => gap e.1 (e.2 :: r)) (gap last [])
def pool (es : List (Nat × CpInfo)) (last : Nat) : Array CpInfo := ⟨poolList es last⟩
def fileOf (pool : Array CpInfo) (this : Nat) (attrs : Array Attribute := #[]) (ms : Array MethodInfo := #[]) (fl : Nat := 33) (sup : Nat := 0) (ifs : Array Nat := #[]) (fds : Array FieldInfo := #[]) : ClassFile where
  minorVersion := 0
  majorVersion := 65
  constantPool := pool
  accessFlags := fl
  thisClass := this
  superClass := sup
  interfaces := ifs
  fields := fds
  methods := ms
  attributes := attrs
def plain (name : String) (sup : Option ClassId) : Class where
  name := name
  kind := .ordinary
  loader := none
  accessFlags := 33
  super := sup
  interfaces := #[]
  cf := none
  fields := #[]
  methods := #[]
  instanceTypes := #[]
  staticTypes := #[]
  resolved := #[]
  callSites := []
  init := .initialized
  statics := none
  mirror := none

def pool0 : Array CpInfo := pool [(5, u "<init>"), (0, u "()V"), (1, .class_ 10), (1, u "java/lang/Object")] 113

def k0m0 : Method := { name := "<init>", desc := "()V", sig := { parameters := [], returnType := none }, accessFlags := 1, code := none }
/-- java/lang/Object -/
def k0 : Class := { plain "java/lang/Object" none with
  accessFlags := 33
  interfaces := #[]
  cf := some (fileOf pool0 8 #[] #[{ accessFlags := 1, nameIndex := 5, descriptorIndex := 6, attributes := #[] }] 33 0 #[] #[])
  fields := #[]
  methods := #[k0m0]
  instanceTypes := #[]
  staticTypes := #[]
  resolved := Array.replicate 124 none
  statics := none }

def pool1 : Array CpInfo := pool [(2, .class_ 4), (1, u "java/lang/Object"), (0, u "<init>"), (0, u "()V"), (0, .integer 2147483647), (0, .methodref 9 10), (0, .class_ 11), (0, .nameAndType 12 13), (0, u "com/example/urial/urial/protocol/ApiKeySupportsPinLaw"), (0, u "pick"), (0, u "(I)Lcom/example/urial/urial/protocol/ApiKey;"), (0, .methodref 9 15), (0, .nameAndType 16 17), (0, u "high"), (0, u "(I)I"), (0, .methodref 19 20), (0, .class_ 21), (0, .nameAndType 22 23), (0, u "com/example/urial/urial/protocol/ApiKey"), (0, u "supports"), (0, u "(S)Z"), (0, .fieldref 19 25), (0, .nameAndType 26 27), (0, u "PRODUCE"), (0, u "Lcom/example/urial/urial/protocol/ApiKey;"), (0, .fieldref 19 29), (0, .nameAndType 30 27), (0, u "FETCH"), (0, .fieldref 19 32), (0, .nameAndType 33 27), (0, u "LIST_OFFSETS"), (0, .fieldref 19 35), (0, .nameAndType 36 27), (0, u "METADATA"), (0, .fieldref 19 38), (0, .nameAndType 39 27), (0, u "OFFSET_COMMIT"), (0, .fieldref 19 41), (0, .nameAndType 42 27), (0, u "OFFSET_FETCH"), (0, .fieldref 19 44), (0, .nameAndType 45 27), (0, u "FIND_COORDINATOR"), (0, .fieldref 19 47), (0, .nameAndType 48 27), (0, u "JOIN_GROUP"), (0, .fieldref 19 50), (0, .nameAndType 51 27), (0, u "HEARTBEAT"), (0, .fieldref 19 53), (0, .nameAndType 54 27), (0, u "LEAVE_GROUP"), (0, .fieldref 19 56), (0, .nameAndType 57 27), (0, u "SYNC_GROUP"), (0, .fieldref 19 59), (0, .nameAndType 60 27), (0, u "DESCRIBE_GROUPS"), (0, .fieldref 19 62), (0, .nameAndType 63 27), (0, u "LIST_GROUPS"), (0, .fieldref 19 65), (0, .nameAndType 66 27), (0, u "API_VERSIONS"), (0, .fieldref 19 68), (0, .nameAndType 69 27), (0, u "CREATE_TOPICS"), (0, .fieldref 19 71), (0, .nameAndType 72 27), (0, u "DELETE_TOPICS"), (2, u "law"), (0, u "(II)Z")] 3

def k1m0 : Method := { name := "<init>", desc := "()V", sig := { parameters := [], returnType := none }, accessFlags := 1, code := none }
def k1c1 : Code := { maxStack := 2, maxLocals := 7, code := code, exceptionTable := #[], attributes := #[] }
def k1m1 : Method := { name := "law", desc := "(II)Z", sig := { parameters := [.int, .int], returnType := some .boolean }, accessFlags := 9, code := some k1c1 }
def k1c2 : Code := { maxStack := 2, maxLocals := 1, code := method_3_code, exceptionTable := #[], attributes := #[] }
def k1m2 : Method := { name := "pick", desc := "(I)Lcom/example/urial/urial/protocol/ApiKey;", sig := { parameters := [.int], returnType := some (.object "com/example/urial/urial/protocol/ApiKey") }, accessFlags := 10, code := some k1c2 }
def k1c3 : Code := { maxStack := 2, maxLocals := 1, code := method_4_code, exceptionTable := #[], attributes := #[] }
def k1m3 : Method := { name := "high", desc := "(I)I", sig := { parameters := [.int], returnType := some .int }, accessFlags := 10, code := some k1c3 }
/-- com/example/urial/urial/protocol/ApiKeySupportsPinLaw -/
def k1 : Class := { plain "com/example/urial/urial/protocol/ApiKeySupportsPinLaw" (some 0) with
  accessFlags := 49
  interfaces := #[]
  cf := some (fileOf pool1 9 #[] #[{ accessFlags := 1, nameIndex := 5, descriptorIndex := 6, attributes := #[] }, { accessFlags := 9, nameIndex := 75, descriptorIndex := 76, attributes := #[] }, { accessFlags := 10, nameIndex := 12, descriptorIndex := 13, attributes := #[] }, { accessFlags := 10, nameIndex := 16, descriptorIndex := 17, attributes := #[] }] 49 2 #[] #[])
  fields := #[]
  methods := #[k1m0, k1m1, k1m2, k1m3]
  instanceTypes := #[]
  staticTypes := #[]
  resolved := Array.replicate 80 none
  statics := none }

def pool2 : Array CpInfo := pool [(1, .class_ 2), (0, u "java/lang/constant/Constable"), (0, .class_ 4), (0, u "java/lang/Object")] 6

/-- java/lang/constant/Constable -/
def k2 : Class := { plain "java/lang/constant/Constable" (some 0) with
  accessFlags := 1537
  interfaces := #[]
  cf := some (fileOf pool2 1 #[] #[] 1537 3 #[] #[])
  fields := #[]
  methods := #[]
  instanceTypes := #[]
  staticTypes := #[]
  resolved := Array.replicate 11 none
  statics := none }

def pool3 : Array CpInfo := pool [(1, .class_ 2), (0, u "java/lang/Comparable"), (0, .class_ 4), (0, u "java/lang/Object")] 7

/-- java/lang/Comparable -/
def k3 : Class := { plain "java/lang/Comparable" (some 0) with
  accessFlags := 1537
  interfaces := #[]
  cf := some (fileOf pool3 1 #[] #[] 1537 3 #[] #[])
  fields := #[]
  methods := #[]
  instanceTypes := #[]
  staticTypes := #[]
  resolved := Array.replicate 12 none
  statics := none }

def pool4 : Array CpInfo := pool [(1, .class_ 2), (0, u "java/io/Serializable"), (0, .class_ 4), (0, u "java/lang/Object")] 2

/-- java/io/Serializable -/
def k4 : Class := { plain "java/io/Serializable" (some 0) with
  accessFlags := 1537
  interfaces := #[]
  cf := some (fileOf pool4 1 #[] #[] 1537 3 #[] #[])
  fields := #[]
  methods := #[]
  instanceTypes := #[]
  staticTypes := #[]
  resolved := Array.replicate 7 none
  statics := none }

def pool5 : Array CpInfo := pool [(2, .class_ 4), (1, u "java/lang/Enum"), (0, u "name"), (0, u "Ljava/lang/String;"), (2, u "ordinal"), (0, u "I"), (1, .class_ 14), (1, u "java/lang/Object"), (4, u "hash"), (86, .class_ 108), (1, u "java/lang/Enum$EnumDesc"), (2, .class_ 112), (0, u "java/lang/constant/Constable"), (0, .class_ 114), (0, u "java/lang/Comparable"), (0, .class_ 116), (0, u "java/io/Serializable")] 87

/-- java/lang/Enum -/
def k5 : Class := { plain "java/lang/Enum" (some 0) with
  accessFlags := 1057
  interfaces := #[2, 3, 4]
  cf := some (fileOf pool5 2 #[.nestMembers #[106]] #[] 1057 12 #[111, 113, 115] #[{ accessFlags := 18, nameIndex := 5, descriptorIndex := 6, attributes := #[] }, { accessFlags := 18, nameIndex := 9, descriptorIndex := 10, attributes := #[] }, { accessFlags := 2, nameIndex := 19, descriptorIndex := 10, attributes := #[] }])
  fields := #[{ name := "name", type := (.object "java/lang/String"), accessFlags := 18, slot := 0, constantValue := 0 }, { name := "ordinal", type := .int, accessFlags := 18, slot := 1, constantValue := 0 }, { name := "hash", type := .int, accessFlags := 2, slot := 2, constantValue := 0 }]
  methods := #[]
  instanceTypes := #[(.object "java/lang/String"), .int, .int]
  staticTypes := #[]
  resolved := Array.replicate 204 none
  statics := none }

def pool6 : Array CpInfo := pool [(1, .class_ 2), (0, u "com/example/urial/urial/protocol/ApiKey"), (2, u "PRODUCE"), (0, u "Lcom/example/urial/urial/protocol/ApiKey;"), (2, u "FETCH"), (2, u "LIST_OFFSETS"), (2, u "METADATA"), (2, u "OFFSET_COMMIT"), (2, u "OFFSET_FETCH"), (2, u "FIND_COORDINATOR"), (2, u "JOIN_GROUP"), (2, u "HEARTBEAT"), (2, u "LEAVE_GROUP"), (2, u "SYNC_GROUP"), (2, u "DESCRIBE_GROUPS"), (2, u "LIST_GROUPS"), (2, u "API_VERSIONS"), (2, u "CREATE_TOPICS"), (2, u "DELETE_TOPICS"), (2, u "$VALUES"), (0, u "[Lcom/example/urial/urial/protocol/ApiKey;"), (6, .class_ 64), (1, u "java/lang/Enum"), (8, u "code"), (0, u "S"), (0, .fieldref 1 76), (0, .nameAndType 77 74), (0, u "lowestVersion"), (0, .fieldref 1 79), (0, .nameAndType 80 74), (0, u "highestVersion"), (2, u "firstFlexibleVersion"), (7, u "(S)Z"), (32, u "supports")] 6

def k6c0 : Code := { maxStack := 2, maxLocals := 2, code := prog_47_method_8_code, exceptionTable := #[], attributes := #[] }
def k6m0 : Method := { name := "supports", desc := "(S)Z", sig := { parameters := [.short], returnType := some .boolean }, accessFlags := 1, code := some k6c0 }
/-- com/example/urial/urial/protocol/ApiKey -/
def k6 : Class := { plain "com/example/urial/urial/protocol/ApiKey" (some 5) with
  accessFlags := 16433
  interfaces := #[]
  cf := some (fileOf pool6 1 #[] #[{ accessFlags := 1, nameIndex := 124, descriptorIndex := 91, attributes := #[] }] 16433 62 #[] #[{ accessFlags := 16409, nameIndex := 5, descriptorIndex := 6, attributes := #[] }, { accessFlags := 16409, nameIndex := 9, descriptorIndex := 6, attributes := #[] }, { accessFlags := 16409, nameIndex := 12, descriptorIndex := 6, attributes := #[] }, { accessFlags := 16409, nameIndex := 15, descriptorIndex := 6, attributes := #[] }, { accessFlags := 16409, nameIndex := 18, descriptorIndex := 6, attributes := #[] }, { accessFlags := 16409, nameIndex := 21, descriptorIndex := 6, attributes := #[] }, { accessFlags := 16409, nameIndex := 24, descriptorIndex := 6, attributes := #[] }, { accessFlags := 16409, nameIndex := 27, descriptorIndex := 6, attributes := #[] }, { accessFlags := 16409, nameIndex := 30, descriptorIndex := 6, attributes := #[] }, { accessFlags := 16409, nameIndex := 33, descriptorIndex := 6, attributes := #[] }, { accessFlags := 16409, nameIndex := 36, descriptorIndex := 6, attributes := #[] }, { accessFlags := 16409, nameIndex := 39, descriptorIndex := 6, attributes := #[] }, { accessFlags := 16409, nameIndex := 42, descriptorIndex := 6, attributes := #[] }, { accessFlags := 16409, nameIndex := 45, descriptorIndex := 6, attributes := #[] }, { accessFlags := 16409, nameIndex := 48, descriptorIndex := 6, attributes := #[] }, { accessFlags := 16409, nameIndex := 51, descriptorIndex := 6, attributes := #[] }, { accessFlags := 18, nameIndex := 73, descriptorIndex := 74, attributes := #[] }, { accessFlags := 18, nameIndex := 77, descriptorIndex := 74, attributes := #[] }, { accessFlags := 18, nameIndex := 80, descriptorIndex := 74, attributes := #[] }, { accessFlags := 18, nameIndex := 83, descriptorIndex := 74, attributes := #[] }, { accessFlags := 4122, nameIndex := 54, descriptorIndex := 55, attributes := #[] }])
  fields := #[{ name := "PRODUCE", type := (.object "com/example/urial/urial/protocol/ApiKey"), accessFlags := 16409, slot := 0, constantValue := 0 }, { name := "FETCH", type := (.object "com/example/urial/urial/protocol/ApiKey"), accessFlags := 16409, slot := 1, constantValue := 0 }, { name := "LIST_OFFSETS", type := (.object "com/example/urial/urial/protocol/ApiKey"), accessFlags := 16409, slot := 2, constantValue := 0 }, { name := "METADATA", type := (.object "com/example/urial/urial/protocol/ApiKey"), accessFlags := 16409, slot := 3, constantValue := 0 }, { name := "OFFSET_COMMIT", type := (.object "com/example/urial/urial/protocol/ApiKey"), accessFlags := 16409, slot := 4, constantValue := 0 }, { name := "OFFSET_FETCH", type := (.object "com/example/urial/urial/protocol/ApiKey"), accessFlags := 16409, slot := 5, constantValue := 0 }, { name := "FIND_COORDINATOR", type := (.object "com/example/urial/urial/protocol/ApiKey"), accessFlags := 16409, slot := 6, constantValue := 0 }, { name := "JOIN_GROUP", type := (.object "com/example/urial/urial/protocol/ApiKey"), accessFlags := 16409, slot := 7, constantValue := 0 }, { name := "HEARTBEAT", type := (.object "com/example/urial/urial/protocol/ApiKey"), accessFlags := 16409, slot := 8, constantValue := 0 }, { name := "LEAVE_GROUP", type := (.object "com/example/urial/urial/protocol/ApiKey"), accessFlags := 16409, slot := 9, constantValue := 0 }, { name := "SYNC_GROUP", type := (.object "com/example/urial/urial/protocol/ApiKey"), accessFlags := 16409, slot := 10, constantValue := 0 }, { name := "DESCRIBE_GROUPS", type := (.object "com/example/urial/urial/protocol/ApiKey"), accessFlags := 16409, slot := 11, constantValue := 0 }, { name := "LIST_GROUPS", type := (.object "com/example/urial/urial/protocol/ApiKey"), accessFlags := 16409, slot := 12, constantValue := 0 }, { name := "API_VERSIONS", type := (.object "com/example/urial/urial/protocol/ApiKey"), accessFlags := 16409, slot := 13, constantValue := 0 }, { name := "CREATE_TOPICS", type := (.object "com/example/urial/urial/protocol/ApiKey"), accessFlags := 16409, slot := 14, constantValue := 0 }, { name := "DELETE_TOPICS", type := (.object "com/example/urial/urial/protocol/ApiKey"), accessFlags := 16409, slot := 15, constantValue := 0 }, { name := "code", type := .short, accessFlags := 18, slot := 3, constantValue := 0 }, { name := "lowestVersion", type := .short, accessFlags := 18, slot := 4, constantValue := 0 }, { name := "highestVersion", type := .short, accessFlags := 18, slot := 5, constantValue := 0 }, { name := "firstFlexibleVersion", type := .short, accessFlags := 18, slot := 6, constantValue := 0 }, { name := "$VALUES", type := (.array (.object "com/example/urial/urial/protocol/ApiKey")), accessFlags := 4122, slot := 16, constantValue := 0 }]
  methods := #[k6m0]
  instanceTypes := #[(.object "java/lang/String"), .int, .int, .short, .short, .short, .short]
  staticTypes := #[(.object "com/example/urial/urial/protocol/ApiKey"), (.object "com/example/urial/urial/protocol/ApiKey"), (.object "com/example/urial/urial/protocol/ApiKey"), (.object "com/example/urial/urial/protocol/ApiKey"), (.object "com/example/urial/urial/protocol/ApiKey"), (.object "com/example/urial/urial/protocol/ApiKey"), (.object "com/example/urial/urial/protocol/ApiKey"), (.object "com/example/urial/urial/protocol/ApiKey"), (.object "com/example/urial/urial/protocol/ApiKey"), (.object "com/example/urial/urial/protocol/ApiKey"), (.object "com/example/urial/urial/protocol/ApiKey"), (.object "com/example/urial/urial/protocol/ApiKey"), (.object "com/example/urial/urial/protocol/ApiKey"), (.object "com/example/urial/urial/protocol/ApiKey"), (.object "com/example/urial/urial/protocol/ApiKey"), (.object "com/example/urial/urial/protocol/ApiKey"), (.array (.object "com/example/urial/urial/protocol/ApiKey"))]
  resolved := Array.replicate 131 none
  statics := some 0 }

def pool7 : Array CpInfo := pool [(1, u "java/lang/Cloneable"), (0, .class_ 1), (0, u "java/lang/Object"), (0, .class_ 3)] 3

/-- java/lang/Cloneable -/
def k7 : Class := { plain "java/lang/Cloneable" (some 0) with
  accessFlags := 1537
  interfaces := #[]
  cf := some (fileOf pool7 2 #[] #[] 1537 4 #[] #[])
  fields := #[]
  methods := #[]
  instanceTypes := #[]
  staticTypes := #[]
  resolved := Array.replicate 8 none
  statics := none }

/-- the primitive byte -/
def k8 : Class := { plain "byte" none with kind := .primitive 'B', accessFlags := 0x411 }
/-- [B -/
def k9 : Class := { plain "[B" (some 0) with kind := .array 8 .byte, interfaces := #[7, 4], accessFlags := 1041 }

/-- the primitive int -/
def k10 : Class := { plain "int" none with kind := .primitive 'I', accessFlags := 0x411 }
/-- [I -/
def k11 : Class := { plain "[I" (some 0) with kind := .array 10 .int, interfaces := #[7, 4], accessFlags := 1041 }

def heap : Heap := #[{ cls := 6, slots := #[.ref 1, .ref 2, .ref 3, .ref 4, .ref 5, .ref 6, .ref 7, .ref 8, .ref 9, .ref 10, .ref 11, .ref 12, .ref 13, .ref 14, .ref 15, .ref 16, .null], vm := .statics 6 },
  { cls := 6, slots := #[.null, .int 0, .int 0, .int 0, .int 0, .int 7, .int 0], vm := .none },
  { cls := 6, slots := #[.null, .int 1, .int 0, .int 0, .int 0, .int 11, .int 0], vm := .none },
  { cls := 6, slots := #[.null, .int 2, .int 0, .int 0, .int 0, .int 3, .int 0], vm := .none },
  { cls := 6, slots := #[.null, .int 3, .int 0, .int 0, .int 0, .int 5, .int 0], vm := .none },
  { cls := 6, slots := #[.null, .int 4, .int 0, .int 0, .int 0, .int 7, .int 0], vm := .none },
  { cls := 6, slots := #[.null, .int 5, .int 0, .int 0, .int 0, .int 7, .int 0], vm := .none },
  { cls := 6, slots := #[.null, .int 6, .int 0, .int 0, .int 0, .int 2, .int 0], vm := .none },
  { cls := 6, slots := #[.null, .int 7, .int 0, .int 0, .int 0, .int 5, .int 0], vm := .none },
  { cls := 6, slots := #[.null, .int 8, .int 0, .int 0, .int 0, .int 3, .int 0], vm := .none },
  { cls := 6, slots := #[.null, .int 9, .int 0, .int 0, .int 0, .int 3, .int 0], vm := .none },
  { cls := 6, slots := #[.null, .int 10, .int 0, .int 0, .int 0, .int 3, .int 0], vm := .none },
  { cls := 6, slots := #[.null, .int 11, .int 0, .int 0, .int 0, .int 4, .int 0], vm := .none },
  { cls := 6, slots := #[.null, .int 12, .int 0, .int 0, .int 0, .int 2, .int 0], vm := .none },
  { cls := 6, slots := #[.null, .int 13, .int 0, .int 0, .int 0, .int 3, .int 0], vm := .none },
  { cls := 6, slots := #[.null, .int 14, .int 0, .int 0, .int 0, .int 4, .int 0], vm := .none },
  { cls := 6, slots := #[.null, .int 15, .int 0, .int 0, .int 0, .int 3, .int 0], vm := .none }]
def classes : Array Class := #[k0, k1, k2, k3, k4, k5, k6, k7, k8, k9, k10, k11]
def interned : List (Array UInt16 × Addr) := []
def slotsUsed : Nat := 129
def theMethod : MethodId := ⟨1, 1⟩
def args0 : Array Value := #[.int 10, .int 3]
def aboutOver (below : List Frame) : State where
  vm := { classes := classes, interned := interned.toArray }
  heap := heap
  slotsUsed := slotsUsed
  threads := #[{ frames := .invoking theMethod args0 :: below }]
def below0 : List Frame := [.native { method := ⟨0, 0⟩, args := #[] }]
def about1 : State := aboutOver below0
def p0 : Program := .bare "" "" ""
def e0 : Env := launch0.env 0 0 0
theorem w_frames : about1.frames = Frame.invoking theMethod args0 :: below0 := rfl
set_option maxRecDepth 65536 in
theorem w_args : argsFit about1.vm theMethod args0 = true := by decide +kernel
set_option maxRecDepth 65536 in
theorem w_heap : heapFits about1 = true := by decide +kernel
set_option maxRecDepth 65536 in
theorem w_runnable : about1.curStatus? = some .runnable := by decide +kernel
set_option maxRecDepth 65536 in
theorem w_alone : about1.alone = true := by decide +kernel
set_option maxRecDepth 65536 in
theorem w_named : about1.methodNamed? x = some theMethod := by decide +kernel
set_option maxRecDepth 65536 in
theorem w_hears : about1.hears theMethod below0 = true := by decide +kernel
set_option maxRecDepth 65536 in
theorem w_ripe : about1.ripe theMethod args0 below0 = true := by decide +kernel
theorem w_running : about1.status = .running := rfl
set_option maxRecDepth 65536 in
theorem w_room : about1.hasRoom e0.platform room_1 = true :=
  launch0.hasRoom_least _ room_1 (by decide +kernel) (by decide +kernel) (by decide +kernel) (by decide +kernel) (by decide +kernel) (by decide +kernel)
theorem allAtoms_all (ts : List Jvm.Cond) (a : Array Jvm.Value) (st : Jvm.State) : (allAtoms ts).before a st = ts.all (fun c => c.before a st) := by
  induction ts with
  | nil => rfl
  | cons c t ih =>
    show (Jvm.Cond.and c (allAtoms t)).before a st = _
    rw [Jvm.Cond.before_and, ih, List.all_cons]
def words1 : List Jvm.Cond := Jvm.Cond.code x code maxLocals ret :: tables_1
/-- a 'code' word, met by the world's own term for the bytes: nothing is compared byte by byte -/
theorem code_word {y : MethodName} {bytes : ByteArray} {mx : Nat} {rt : Option FieldType} {a : Array Value} {s : State} {m : MethodId} {meth : Method} {c : Code} (h1 : s.methodNamed? y = some m) (h2 : s.vm.method? m = some meth) (h3 : meth.code = some c) (h4 : c.code = bytes)
    (h5 : (c.maxLocals == mx && c.exceptionTable.isEmpty && decide (c.maxStack ≤ mostOperands) && decide (meth.sig.returnType = rt) && !meth.locks && decide (parseMethodDescriptor y.desc = some meth.sig)) = true) : (Jvm.Cond.code y bytes mx rt).before a s = true := by
  simp only [Bool.and_eq_true, beq_iff_eq, Bool.not_eq_true', decide_eq_true_eq] at h5
  obtain ⟨⟨⟨⟨⟨g1, g2⟩, g3⟩, g4⟩, g5⟩, g6⟩ := h5
  simp [Cond.before, Cond.holds, Cond.value, h1, h2, h3, h4, g1, g2, g3, g4, g5, g6]
def isCode : Jvm.Cond → Bool
  | .code _ _ _ _ => true
  | _ => false
theorem all_split {L : List Jvm.Cond} {P : Jvm.Cond → Bool} (h1 : L.all (fun c => isCode c || P c) = true) (h2 : ∀ c ∈ L.filter isCode, P c = true) : L.all P = true := by
  refine List.all_eq_true.mpr fun c hc => ?_
  have h := List.all_eq_true.mp h1 c hc
  rcases Bool.eq_false_or_eq_true (isCode c) with hi | hi
  · exact h2 c (List.mem_filter.mpr ⟨hc, hi⟩)
  · simpa [hi] using h
set_option maxRecDepth 65536 in
theorem w_c0 : (Jvm.Cond.code x code maxLocals ret).before args0 about1 = true := code_word (m := ⟨1, 1⟩) (meth := k1m1) (c := k1c1) (by decide +kernel) rfl rfl rfl (by decide +kernel)
set_option maxRecDepth 65536 in
theorem w_c1 : (Jvm.Cond.code ({ cls := "com/example/urial/urial/protocol/ApiKeySupportsPinLaw", name := "pick", desc := "(I)Lcom/example/urial/urial/protocol/ApiKey;" } : Jvm.MethodName) method_3_code (1 : Nat) (Option.some (Jvm.ClassFile.FieldType.object "com/example/urial/urial/protocol/ApiKey"))).before args0 about1 = true := code_word (m := ⟨1, 2⟩) (meth := k1m2) (c := k1c2) (by decide +kernel) rfl rfl rfl (by decide +kernel)
set_option maxRecDepth 65536 in
theorem w_c2 : (Jvm.Cond.code ({ cls := "com/example/urial/urial/protocol/ApiKeySupportsPinLaw", name := "high", desc := "(I)I" } : Jvm.MethodName) method_4_code (1 : Nat) (Option.some Jvm.ClassFile.FieldType.int)).before args0 about1 = true := code_word (m := ⟨1, 3⟩) (meth := k1m3) (c := k1c3) (by decide +kernel) rfl rfl rfl (by decide +kernel)
set_option maxRecDepth 65536 in
theorem w_c3 : (Jvm.Cond.code ({ cls := "com/example/urial/urial/protocol/ApiKey", name := "supports", desc := "(S)Z" } : Jvm.MethodName) prog_47_method_8_code (2 : Nat) (Option.some Jvm.ClassFile.FieldType.boolean)).before args0 about1 = true := code_word (m := ⟨6, 0⟩) (meth := k6m0) (c := k6c0) (by decide +kernel) rfl rfl rfl (by decide +kernel)
def codes1 : List Jvm.Cond := [Jvm.Cond.code x code maxLocals ret, Jvm.Cond.code ({ cls := "com/example/urial/urial/protocol/ApiKeySupportsPinLaw", name := "pick", desc := "(I)Lcom/example/urial/urial/protocol/ApiKey;" } : Jvm.MethodName) method_3_code (1 : Nat) (Option.some (Jvm.ClassFile.FieldType.object "com/example/urial/urial/protocol/ApiKey")), Jvm.Cond.code ({ cls := "com/example/urial/urial/protocol/ApiKeySupportsPinLaw", name := "high", desc := "(I)I" } : Jvm.MethodName) method_4_code (1 : Nat) (Option.some Jvm.ClassFile.FieldType.int), Jvm.Cond.code ({ cls := "com/example/urial/urial/protocol/ApiKey", name := "supports", desc := "(S)Z" } : Jvm.MethodName) prog_47_method_8_code (2 : Nat) (Option.some Jvm.ClassFile.FieldType.boolean)]
set_option maxRecDepth 65536 in
theorem codes_eq : words1.filter isCode = codes1 := rfl
theorem w_codes : ∀ c ∈ words1.filter isCode, c.before args0 about1 = true := by
  rw [codes_eq]
  intro c hc
  simp only [codes1, List.mem_cons, List.not_mem_nil, or_false] at hc
  rcases hc with rfl | rfl | rfl | rfl
  · exact w_c0
  · exact w_c1
  · exact w_c2
  · exact w_c3
set_option maxRecDepth 65536 in
theorem w_t1 : (words1.take 24).all (fun c => isCode c || c.before args0 about1) = true := by decide +kernel
set_option maxRecDepth 65536 in
theorem w_t2 : ((words1.drop 24).take 24).all (fun c => isCode c || c.before args0 about1) = true := by decide +kernel
set_option maxRecDepth 65536 in
theorem w_t3 : ((words1.drop 24).drop 24).all (fun c => isCode c || c.before args0 about1) = true := by decide +kernel
theorem w_tables : (allAtoms (Jvm.Cond.code x code maxLocals ret :: tables_1)).before args0 about1 = true := by
  rw [allAtoms_all]
  show words1.all (fun c => c.before args0 about1) = true
  refine all_split ?_ w_codes
  rw [← List.take_append_drop 24 words1, List.all_append, w_t1, ← List.take_append_drop 24 (words1.drop 24), List.all_append, w_t2, w_t3]
  rfl
set_option maxRecDepth 65536 in
theorem w_case : (Jvm.Cond.and given_1 narrow_1).before args0 about1 = true := by decide +kernel
theorem w_applies : (headSpec (Jvm.Cond.code x code maxLocals ret :: tables_1) room_1).applies x e0.platform about1 = true :=
  (Spec.applies_iff w_frames).mpr ⟨w_running, w_runnable, w_alone, w_named, w_hears, w_ripe, w_room, w_tables⟩
theorem atStart : AtStart classFile x code maxLocals ret World_1 tables_1 room_1 Calls_1 rest_1 Pre_1 launch0 p0 e0 about1 theMethod args0 below0 :=
  ⟨lists_1, trivial, launch0.admits_env _ _ _, launch0.least_env, fairChoices_fair.cas, fairChoices_fair.clock, w_frames, w_args, w_heap, w_applies, trivial, trivial, w_case⟩
end start1
theorem witness_1 : WitnessClaimed_1 := ⟨start1.p0, start1.e0, start1.about1, start1.theMethod, start1.args0, start1.below0, start1.atStart⟩
end Jvm.Pilot.@@N@@
